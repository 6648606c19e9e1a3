import JvmDerived
import JvmDerived.Pilot.@@N@@Statement
import JvmDerived.Pilot.@@N@@Code
set_option linter.unusedVariables false
set_option linter.unusedSimpArgs false
namespace Jvm.Pilot.@@N@@
open Jvm Jvm.ClassFile Sem Op Lib Jvm.Free Jvm.Stand Jvm.LawKit Jvm.RoadKit Bundle Jvm.Pilot.@@N@@.Jvm.D
section Core
variable {p : Program} {l : Launch} {e : Env} {R : Room} {s : State} {m : MethodId} {args : Array Value} {below : List Frame} {meth : Method} {c : Code} {Z : State} {n0 : Nat} {T : State} {h : Heap} {k n : Nat} {Q : Option Value → Heap → Prop} {K N : Nat} {a0 : Array Value}
/-- where a walk stands: the state T, its heap h, k cells and n slots made so far; every place that was written is new -/
def WSt (p : Program) (l : Launch) (e : Env) (R : Room) (s : State) (m : MethodId) (args : Array Value) (below : List Frame) (meth : Method) (c : Code) (Z : State) (n0 : Nat) (T : State) (h : Heap) (k n : Nat) : Prop :=
  ∃ locs, Stand p l e R s m args below meth c T locs k n ∧ T.heap = h ∧ Fr n0 locs ∧ n0 ≤ s.heap.size ∧ p.tables.exec = Jvm.exec ∧ Z.Warmed39 s.vm ∧ meth.locks = false
/-- from here the invocation returns, and what it leaves answers to Q -/
def WGo (p : Program) (e : Env) (below : List Frame) (s : State) (n0 : Nat) (Q : Option Value → Heap → Prop) (K N : Nat) (T : State) (g : JFrame) : Prop :=
  ∃ s₂ o, Steps p.tables e below (T.setTop g) s₂ ∧ s₂.status = .running ∧ Ended s₂ below o ∧ ∃ v L, o = .returned v ∧ (Q v s₂.heap ∧ Fr n0 L) ∧ FrameEnd s o s₂ L K N
/-- a body's contract at one heap and one list of arguments -/
def WCon (l : Launch) (Z : State) (n0 : Nat) (h0 : Heap) (y : MethodName) (bytes : ByteArray) (maxL : Nat) (ret : Option FieldType) (ws : List Jvm.Cond) (rm : Room) (as : Array Value) (Q : Option Value → Heap → Prop) : Prop :=
  MetFree l y (head1 (Jvm.Cond.code y bytes maxL ret :: ws) rm) (fun a U => a = as ∧ Z.Warmed39 U.vm ∧ U.heap = h0) (fun _ _ _ _ _ => True) (fun _ U o U' => ∃ v L, o = .returned v ∧ (Q v U'.heap ∧ Fr n0 L) ∧ FrameEnd U o U' L rm.cells rm.slots)

theorem WSt.here (S : WSt p l e R s m args below meth c Z n0 T h k n) : At T m c below := by obtain ⟨_, X, _⟩ := S; exact X.here
theorem WSt.eT (S : WSt p l e R s m args below meth c Z n0 T h k n) : T.heap = h := by obtain ⟨_, _, q, _⟩ := S; exact q
theorem WSt.ge (S : WSt p l e R s m args below meth c Z n0 T h k n) : n0 ≤ h.size := by
  obtain ⟨_, X, q, _, r, _⟩ := S
  have h1 : s.heap.size ≤ T.heap.size := X.same.2.1
  rw [← q]; omega
theorem WGo.st {T' : State} {g g' : JFrame} (q : ∀ t, Steps p.tables e below (T'.setTop g') t → Steps p.tables e below (T.setTop g) t) (r : WGo p e below s n0 Q K N T' g') : WGo p e below s n0 Q K N T g := by
  obtain ⟨s2, o, h1, r⟩ := r
  exact ⟨s2, o, q _ h1, r⟩
theorem WGo.cast {g g' : JFrame} (q : g = g') (r : WGo p e below s n0 Q K N T g') : WGo p e below s n0 Q K N T g := q ▸ r
theorem WCon.of {y : MethodName} {bytes : ByteArray} {maxL : Nat} {ret : Option FieldType} {ws : List Jvm.Cond} {rm : Room} {as : Array Value} {h0 : Heap} (hp : plainFor y = true) (hn0 : n0 ≤ h0.size)
    (body : ∀ (p : Program) (e : Env) (s : State) (m : MethodId) (below : List Frame) (meth : Method) (c : Code) (T : State), p.tables.exec = Jvm.exec → Z.Warmed39 s.vm → c.code = bytes → c.maxLocals = maxL → s.vm.findClass y.cls = some m.cls → meth.name = y.name → meth.sig.returnType = ret → WSt p l e rm s m as below meth c Z n0 T h0 0 0 → WGo p e below s n0 Q rm.cells rm.slots T (entryFrame m as maxL)) :
    WCon l Z n0 h0 y bytes maxL ret ws rm as Q := by
  refine MetFree.of_bodySF hp hisR ?_
  intro p e s m args below meth c s₁ Bd hml0 hP hK
  obtain ⟨rfl, hZ, hh⟩ := hP
  have X0 := Stand.of_body Bd
  exact body p e s m below meth c s₁ Bd.exec hZ Bd.bytes hml0 (findClass_of_methodNamed Bd.named) (name_of_methodNamed Bd.named Bd.method).1 Bd.returns ⟨[], X0, by rw [← hh, Bd.state]; rfl, Fr.nil _, by rw [hh]; exact hn0, Bd.exec, hZ, Bd.notSynchronized⟩
/-- the returns -/
theorem w_ret (S : WSt p l e R s m args below meth c Z n0 T h k n) {t : FieldType} {w : Value} {i : Instr} {pc : Nat} {Ls : Array Slot} {rest : List Value} (hret : meth.sig.returnType = some t) (hnw : narrow t w = w)
    (hi : (i = .ireturn ∧ (t = .int ∨ t = .boolean ∨ t = .byte ∨ t = .char ∨ t = .short) ∧ ∃ z, w = .int z) ∨ (i = .lreturn ∧ t = .long ∧ ∃ z, w = .long z) ∨ (i = .dreturn ∧ t = .double ∧ ∃ z, w = .double z) ∨ (i = .freturn ∧ t = .float ∧ ∃ z, w = .float z) ∨ (i = .areturn ∧ t.isReference = true ∧ w.isRef = true))
    (hd : decode c.code pc = .ok (i, 1)) (hk : k ≤ K) (hn : n ≤ N) (hQ : Q (some w) h) : WGo p e below s n0 Q K N T (mkF m pc Ls (w :: rest)) := by
  obtain ⟨locs, X, e1, N1, -, hx, hZ, hlk⟩ := S
  obtain ⟨fs, hr, hrun, hended, hW, hsame⟩ := X.leave (v := some w) (fun q => by rw [hret] at q; cases q) hlk
  refine ⟨_, _, retOut X hx hret hnw hi hd hr, hrun, hended, _, locs, rfl, ⟨?_, N1⟩, ⟨_, rfl⟩, hW, hsame.mono hk hn⟩
  show Q (some w) T.heap
  rw [e1]; exact hQ
theorem w_retI (S : WSt p l e R s m args below meth c Z n0 T h k n) {z : Int32} {pc : Nat} {Ls : Array Slot} {rest : List Value} (hret : meth.sig.returnType = some .int) (hd : decode c.code pc = .ok (.ireturn, 1)) (hk : k ≤ K) (hn : n ≤ N) (hQ : Q (some (.int z)) h) : WGo p e below s n0 Q K N T (mkF m pc Ls (.int z :: rest)) :=
  w_ret S hret rfl (Or.inl ⟨rfl, Or.inl rfl, _, rfl⟩) hd hk hn hQ
theorem w_retZ (S : WSt p l e R s m args below meth c Z n0 T h k n) {z : Int32} {pc : Nat} {Ls : Array Slot} {rest : List Value} (hret : meth.sig.returnType = some .boolean) (hd : decode c.code pc = .ok (.ireturn, 1)) (hz : z = 0 ∨ z = 1) (hk : k ≤ K) (hn : n ≤ N) (hQ : Q (some (.int z)) h) : WGo p e below s n0 Q K N T (mkF m pc Ls (.int z :: rest)) :=
  w_ret S hret (by rcases hz with rfl | rfl <;> rfl) (Or.inl ⟨rfl, Or.inr (Or.inl rfl), _, rfl⟩) hd hk hn hQ
theorem w_retJ (S : WSt p l e R s m args below meth c Z n0 T h k n) {z : Int64} {pc : Nat} {Ls : Array Slot} {rest : List Value} (hret : meth.sig.returnType = some .long) (hd : decode c.code pc = .ok (.lreturn, 1)) (hk : k ≤ K) (hn : n ≤ N) (hQ : Q (some (.long z)) h) : WGo p e below s n0 Q K N T (mkF m pc Ls (.long z :: rest)) :=
  w_ret S hret rfl (Or.inr (Or.inl ⟨rfl, rfl, _, rfl⟩)) hd hk hn hQ
theorem w_retA (S : WSt p l e R s m args below meth c Z n0 T h k n) {t : FieldType} {z : Addr} {pc : Nat} {Ls : Array Slot} {rest : List Value} (hret : meth.sig.returnType = some t) (ht : t.isReference = true) (hnw : narrow t (.ref z) = .ref z) (hd : decode c.code pc = .ok (.areturn, 1)) (hk : k ≤ K) (hn : n ≤ N) (hQ : Q (some (.ref z)) h) : WGo p e below s n0 Q K N T (mkF m pc Ls (.ref z :: rest)) :=
  w_ret S hret hnw (Or.inr (Or.inr (Or.inr (Or.inr ⟨rfl, ht, rfl⟩)))) hd hk hn hQ
theorem w_retV (S : WSt p l e R s m args below meth c Z n0 T h k n) {pc : Nat} {Ls : Array Slot} (hret : meth.sig.returnType = none) (hd : decode c.code pc = .ok (.return_, 1)) (hk : k ≤ K) (hn : n ≤ N) (hQ : Q none h) : WGo p e below s n0 Q K N T (mkF m pc Ls []) := by
  obtain ⟨locs, X, e1, N1, -, hx, hZ, hlk⟩ := S
  obtain ⟨fs, hr, hrun, hended, hW, hsame⟩ := X.leave (v := none) (fun _ => rfl) hlk
  refine ⟨_, _, X.returnOut hx hret hd hr, hrun, hended, _, locs, rfl, ⟨?_, N1⟩, ⟨_, rfl⟩, hW, hsame.mono hk hn⟩
  show Q none T.heap
  rw [e1]; exact hQ
/-- constants, remainder -/
theorem w_ldc (S : WSt p l e R s m args below meth c Z n0 T h k n) {own : String} {index : Nat} {v : Int32} (hown : s.vm.findClass own = some m.cls) (w : (Jvm.Cond.constant own index v).before a0 Z = true) {g : JFrame} (hg : g.method = m) (hd : decode c.code g.pc = .ok (.ldc index, 2))
    (r : WGo p e below s n0 Q K N T { g with pc := g.pc + 2, stack := .int v :: g.stack }) : WGo p e below s n0 Q K N T g := by
  obtain ⟨locs, X, e1, N1, -, hx, hZ, hlk⟩ := S
  exact WGo.st (X.ldcInt hx hown (mvT hZ w) hg hd) r
theorem w_ldc2 (S : WSt p l e R s m args below meth c Z n0 T h k n) {own : String} {index : Nat} {v : Int64} (hown : s.vm.findClass own = some m.cls) (w : (Jvm.Cond.constantLong own index v).before a0 Z = true) {g : JFrame} (hg : g.method = m) (hd : decode c.code g.pc = .ok (.ldc2_w index, 3))
    (r : WGo p e below s n0 Q K N T { g with pc := g.pc + 3, stack := .long v :: g.stack }) : WGo p e below s n0 Q K N T g := by
  obtain ⟨locs, X, e1, N1, -, hx, hZ, hlk⟩ := S
  exact WGo.st (X.ldc2Long hx hown (mvT hZ w) hg hd) r
theorem w_irem (S : WSt p l e R s m args below meth c Z n0 T h k n) {g : JFrame} (hg : g.method = m) {x y : Int32} {rest : List Value} (hd : decode c.code g.pc = .ok (.irem, 1)) (hs : g.stack = .int y :: .int x :: rest) (hy : y ≠ 0)
    (r : WGo p e below s n0 Q K N T { g with pc := g.pc + 1, stack := .int (x % y) :: rest }) : WGo p e below s n0 Q K N T g := by
  obtain ⟨locs, X, e1, N1, -, hx, hZ, hlk⟩ := S
  exact WGo.st (fun _ q => iremM X hx hg hd hs hy q) r
/-- arrays of ints, bytes, booleans, chars: the values in order -/
def AI (Z : State) (h : Heap) (a : Addr) (ty : FieldType) (L : List Int32) : Prop := ∃ cl : Cell, Arr Z h a cl ty ∧ cl.slots = (L.map Value.int).toArray
def gi (L : List Int32) (j : Int32) : Int32 := L.getD j.toNatClampNeg 0
def si (L : List Int32) (j : Int32) (v : Int32) : List Int32 := L.set j.toNatClampNeg v
variable {a b : Addr} {ty : FieldType} {L : List Int32} {h' : Heap} {ws : List Addr}
theorem AI.lt (A : AI Z h a ty L) : a < h.size := by obtain ⟨cl, A, -⟩ := A; exact A.lt
theorem AI.keep (A : AI Z h a ty L) (K : Keep h h' ws) (q : a ∉ ws) : AI Z h' a ty L := by obtain ⟨cl, A, r⟩ := A; exact ⟨cl, ⟨K.2.1 a cl A.1 q, A.2⟩, r⟩
theorem ai_size {cl : Cell} (r : cl.slots = (L.map Value.int).toArray) : cl.slots.size = L.length := by rw [r]; simp
theorem ai_in {cl : Cell} {j : Int32} (r : cl.slots = (L.map Value.int).toArray) (h0 : 0 ≤ j.toInt) (h1 : j.toInt < L.length) : ¬ (j < 0 ∨ cl.slots.size ≤ j.toNatClampNeg) := by
  rw [ai_size r]
  have : (0 : Int32).toInt = 0 := rfl
  simp only [Int32.lt_iff_toInt_lt, Int32.toNatClampNeg]; omega
theorem ai_at {cl : Cell} {j : Int32} (r : cl.slots = (L.map Value.int).toArray) (h0 : 0 ≤ j.toInt) (h1 : j.toInt < L.length) : cl.slots[j.toNatClampNeg]? = some (.int (gi L j)) := by
  have q : j.toNatClampNeg < L.length := by simp only [Int32.toNatClampNeg]; omega
  rw [r]
  simp [gi, q]
theorem keep_ext {h h' : Heap} (E : Ext h h') (ws : List Addr) : Keep h h' ws := (Keep.refl h ws).ext E
theorem ai_new {cl : ClassId} {ty : FieldType} {j : Int32} (hty : defaultValue ty = .int 0) : (newA cl ty j).slots = ((List.replicate j.toNatClampNeg (0 : Int32)).map Value.int).toArray := by
  simp [newA, hty]
theorem w_newarray (S : WSt p l e R s m args below meth c Z n0 T h k n) {aty : ArrayType} (w : (Jvm.Cond.arrayClass (newarray.typeOf aty)).before a0 Z = true) (hty : defaultValue (newarray.typeOf aty) = .int 0) {g : JFrame} (hg : g.method = m) (hd : decode c.code g.pc = .ok (.newarray aty, 2)) {j : Int32} {rest : List Value} (hs : g.stack = .int j :: rest)
    (hj : ¬ j < 0) {cap : Nat} (hcap : j.toNatClampNeg ≤ cap) (hb : cap * 8 ≤ 536870912) (hc : k + 1 ≤ R.cells) (hl : n + cap ≤ R.slots) {L : List Int32} (hL : List.replicate j.toNatClampNeg 0 = L)
    (r : ∀ T' h' a', WSt p l e R s m args below meth c Z n0 T' h' (k + 1) (n + cap) → Keep h h' [] → a' = h.size → n0 ≤ a' → AI Z h' a' (newarray.typeOf aty) L → WGo p e below s n0 Q K N T' { g with pc := g.pc + 2, stack := .ref a' :: rest }) : WGo p e below s n0 Q K N T g := by
  have hge := S.ge
  obtain ⟨locs, X, e1, N1, n1, hx, hZ, hlk⟩ := S
  obtain ⟨T', h', cA, X', e', E', A', st⟩ := newP X hx hZ w e1 hg hd hs hj hcap hb hc hl
  exact WGo.st st (r T' h' _ ⟨locs, X', e', N1, n1, hx, hZ, hlk⟩ (keep_ext E' _) rfl hge ⟨_, A', by rw [ai_new hty, hL]⟩)
theorem w_iaload (S : WSt p l e R s m args below meth c Z n0 T h k n) (A : AI Z h a .int L) {g : JFrame} (hg : g.method = m) (hd : decode c.code g.pc = .ok (.iaload, 1)) {j : Int32} {rest : List Value} (hs : g.stack = .int j :: .ref a :: rest) (h0 : 0 ≤ j.toInt) (h1 : j.toInt < L.length) {v : Int32} (hv : gi L j = v)
    (r : WGo p e below s n0 Q K N T { g with pc := g.pc + 1, stack := .int v :: rest }) : WGo p e below s n0 Q K N T g := by
  subst hv
  obtain ⟨locs, X, e1, N1, n1, hx, hZ, hlk⟩ := S
  obtain ⟨cl, A, q⟩ := A
  exact WGo.st (fun t u => X.iaload hx (j := j) (v := .int (gi L j)) (by rw [e1]; exact A.1) (State.isArrayOf_alike hZ.alike A.2.1) A.2.2 (ai_in q h0 h1) (ai_at q h0 h1) hg hs hd t u) r
theorem w_caload (S : WSt p l e R s m args below meth c Z n0 T h k n) (A : AI Z h a .char L) {g : JFrame} (hg : g.method = m) (hd : decode c.code g.pc = .ok (.caload, 1)) {j : Int32} {rest : List Value} (hs : g.stack = .int j :: .ref a :: rest) (h0 : 0 ≤ j.toInt) (h1 : j.toInt < L.length) {v : Int32} (hv : gi L j = v)
    (r : WGo p e below s n0 Q K N T { g with pc := g.pc + 1, stack := .int v :: rest }) : WGo p e below s n0 Q K N T g := by
  subst hv
  obtain ⟨locs, X, e1, N1, n1, hx, hZ, hlk⟩ := S
  obtain ⟨cl, A, q⟩ := A
  exact WGo.st (fun t u => X.caload hx (j := j) (v := .int (gi L j)) (by rw [e1]; exact A.1) (State.isArrayOf_alike hZ.alike A.2.1) A.2.2 (ai_in q h0 h1) (ai_at q h0 h1) hg hs hd t u) r
theorem w_baload (S : WSt p l e R s m args below meth c Z n0 T h k n) (A : AI Z h a .byte L) {g : JFrame} (hg : g.method = m) (hd : decode c.code g.pc = .ok (.baload, 1)) {j : Int32} {rest : List Value} (hs : g.stack = .int j :: .ref a :: rest) (h0 : 0 ≤ j.toInt) (h1 : j.toInt < L.length) {v : Int32} (hv : gi L j = v)
    (r : WGo p e below s n0 Q K N T { g with pc := g.pc + 1, stack := .int v :: rest }) : WGo p e below s n0 Q K N T g := by
  subst hv
  obtain ⟨locs, X, e1, N1, n1, hx, hZ, hlk⟩ := S
  obtain ⟨cl, A, q⟩ := A
  exact WGo.st (fun t u => X.baloadBytes hx (j := j) (v := .int (gi L j)) (by rw [e1]; exact A.1) (State.isArrayOf_alike hZ.alike A.2.1) A.2.2 (ai_in q h0 h1) (ai_at q h0 h1) hg hs hd t u) r
theorem w_zaload (S : WSt p l e R s m args below meth c Z n0 T h k n) (A : AI Z h a .boolean L) {g : JFrame} (hg : g.method = m) (hd : decode c.code g.pc = .ok (.baload, 1)) {j : Int32} {rest : List Value} (hs : g.stack = .int j :: .ref a :: rest) (h0 : 0 ≤ j.toInt) (h1 : j.toInt < L.length) {v : Int32} (hv : gi L j = v)
    (r : WGo p e below s n0 Q K N T { g with pc := g.pc + 1, stack := .int v :: rest }) : WGo p e below s n0 Q K N T g := by
  subst hv
  obtain ⟨locs, X, e1, N1, n1, hx, hZ, hlk⟩ := S
  obtain ⟨cl, A, q⟩ := A
  exact WGo.st (fun t u => X.baloadBooleans hx (j := j) (v := .int (gi L j)) (by rw [e1]; exact A.1) (State.isArrayOf_alike hZ.alike A.2.1) A.2.2 (ai_in q h0 h1) (ai_at q h0 h1) hg hs hd t u) r
theorem w_arraylength (S : WSt p l e R s m args below meth c Z n0 T h k n) (A : AI Z h a ty L) {g : JFrame} (hg : g.method = m) (hd : decode c.code g.pc = .ok (.arraylength, 1)) {rest : List Value} (hs : g.stack = .ref a :: rest) {z : Int32} (hz : L.length.toInt32 = z)
    (r : WGo p e below s n0 Q K N T { g with pc := g.pc + 1, stack := .int z :: rest }) : WGo p e below s n0 Q K N T g := by
  obtain ⟨locs, X, e1, N1, n1, hx, hZ, hlk⟩ := S
  obtain ⟨cl, A, q⟩ := A
  subst hz
  exact WGo.st (fun t u => X.arraylength hx (by rw [e1]; exact A.1) (State.isArrayOf_alike hZ.alike A.2.1) hg hs hd t (by rw [ai_size q]; exact u)) r
theorem ai_set {cl : Cell} {j x : Int32} (r : cl.slots = (L.map Value.int).toArray) : (cl.setSlot j.toNatClampNeg (.int x)).slots = ((si L j x).map Value.int).toArray := by
  simp [Cell.setSlot, r, si]
theorem w_iastore (S : WSt p l e R s m args below meth c Z n0 T h k n) (A : AI Z h a .int L) (ga : n0 ≤ a) {g : JFrame} (hg : g.method = m) (hd : decode c.code g.pc = .ok (.iastore, 1)) {j x : Int32} {rest : List Value} (hs : g.stack = .int x :: .int j :: .ref a :: rest) (h0 : 0 ≤ j.toInt) (h1 : j.toInt < L.length) {L' : List Int32} (hL : si L j x = L')
    (r : ∀ T' h', WSt p l e R s m args below meth c Z n0 T' h' k n → Keep h h' [a] → AI Z h' a .int L' → WGo p e below s n0 Q K N T' { g with pc := g.pc + 1, stack := rest }) : WGo p e below s n0 Q K N T g := by
  obtain ⟨locs, X, e1, N1, n1, hx, hZ, hlk⟩ := S
  obtain ⟨cl, A, q⟩ := A
  obtain ⟨T', h', X', e', W', st⟩ := stI X hx hZ e1 A (ai_in q h0 h1) hg hs hd
  exact WGo.st st (r T' h' ⟨_, X', e', Fr.snoc X' N1 ga, n1, hx, hZ, hlk⟩ (Keep.of_wr W') ⟨_, A.same W', by rw [ai_set q, hL]⟩)
theorem w_bastore (S : WSt p l e R s m args below meth c Z n0 T h k n) (A : AI Z h a .byte L) (ga : n0 ≤ a) {g : JFrame} (hg : g.method = m) (hd : decode c.code g.pc = .ok (.bastore, 1)) {j x : Int32} {rest : List Value} (hs : g.stack = .int x :: .int j :: .ref a :: rest) (h0 : 0 ≤ j.toInt) (h1 : j.toInt < L.length) {L' : List Int32} (hL : si L j x.toInt8.toInt32 = L')
    (r : ∀ T' h', WSt p l e R s m args below meth c Z n0 T' h' k n → Keep h h' [a] → AI Z h' a .byte L' → WGo p e below s n0 Q K N T' { g with pc := g.pc + 1, stack := rest }) : WGo p e below s n0 Q K N T g := by
  obtain ⟨locs, X, e1, N1, n1, hx, hZ, hlk⟩ := S
  obtain ⟨cl, A, q⟩ := A
  obtain ⟨T', h', X', e', W', st⟩ := stB X hx hZ e1 A (ai_in q h0 h1) hg hs hd
  exact WGo.st st (r T' h' ⟨_, X', e', Fr.snoc X' N1 ga, n1, hx, hZ, hlk⟩ (Keep.of_wr W') ⟨_, A.same W', by rw [ai_set q]; exact hL ▸ rfl⟩)
theorem w_zastore (S : WSt p l e R s m args below meth c Z n0 T h k n) (A : AI Z h a .boolean L) (ga : n0 ≤ a) {g : JFrame} (hg : g.method = m) (hd : decode c.code g.pc = .ok (.bastore, 1)) {j x : Int32} {rest : List Value} (hs : g.stack = .int x :: .int j :: .ref a :: rest) (h0 : 0 ≤ j.toInt) (h1 : j.toInt < L.length) (hb : x = 0 ∨ x = 1) {L' : List Int32} (hL : si L j x = L')
    (r : ∀ T' h', WSt p l e R s m args below meth c Z n0 T' h' k n → Keep h h' [a] → AI Z h' a .boolean L' → WGo p e below s n0 Q K N T' { g with pc := g.pc + 1, stack := rest }) : WGo p e below s n0 Q K N T g := by
  obtain ⟨locs, X, e1, N1, n1, hx, hZ, hlk⟩ := S
  obtain ⟨cl, A, q⟩ := A
  obtain ⟨T', h', X', e', W', st⟩ := stZ X hx hZ e1 A (ai_in q h0 h1) hg hs hd
  have hx1 : nar .boolean x = x := by rcases hb with rfl | rfl <;> rfl
  rw [hx1] at W'
  exact WGo.st st (r T' h' ⟨_, X', e', Fr.snoc X' N1 ga, n1, hx, hZ, hlk⟩ (Keep.of_wr W') ⟨_, A.same W', by rw [ai_set q, hL]⟩)
/-- calls by contract -/
theorem w_static (S : WSt p l e R s m args below meth c Z n0 T h k n) {own : String} {index : Nat} {y : MethodName} {bytes : ByteArray} {maxL : Nat} {ret : Option FieldType} (hown : s.vm.findClass own = some m.cls) (w1 : (Jvm.Cond.methodLink own index y).before a0 Z = true) (w2 : (Jvm.Cond.static y).before a0 Z = true) (w3 : (Jvm.Cond.initialized y.cls).before a0 Z = true) (w4 : (Jvm.Cond.code y bytes maxL ret).before a0 Z = true) (hy : y.cls ≠ "java/lang/invoke/MethodHandle" ∧ y.cls ≠ "java/lang/invoke/VarHandle")
    {rm : Room} {as : Array Value} {Qc : Option Value → Heap → Prop} (C : WCon l Z n0 h y bytes maxL ret [] rm as Qc) {W : Nat} (hf : rm.frames + 1 ≤ R.frames) (hl : W + (maxL + 11) + rm.locals ≤ R.locals) (hc : k + rm.cells ≤ R.cells) (hs : n + rm.slots ≤ R.slots)
    {g : JFrame} (hg : g.method = m) (hsize : g.locals.size = c.maxLocals) {argsL rest : List Value} {ps : List FieldType} {rt : Option FieldType} (hpd : parseMethodDescriptor y.desc = some ⟨ps, rt⟩) (hlen : argsL.length = ps.length) (hstack : g.stack = argsL.reverse ++ rest) (has : argsL.toArray = as) (hW : 2 * g.monitorRoom + (rest.map fun v => v.category).sum ≤ W) (hd : decode c.code g.pc = .ok (.invokestatic index, 3))
    (r : ∀ T' h' v, WSt p l e R s m args below meth c Z n0 T' h' (k + rm.cells) (n + rm.slots) → Qc v h' → WGo p e below s n0 Q K N T' { g with pc := g.pc + 3, stack := v.toList ++ rest }) : WGo p e below s n0 Q K N T g := by
  obtain ⟨locs, X, e1, N1, n1, hx, hZ, hlk⟩ := S
  have B := backOf (W := W) (s := s) (args := args) (R := R) (p := p) (e := e) (below := below) (len := 3) (a0 := a0) (Q := fun v h L => Qc v h ∧ Fr n0 L) C hZ w4 w3 hf hl
  obtain ⟨v, vm1, ⟨T1, L1, k1, m1⟩, -, X1, ⟨Lc, hQ, l1, y1, z1⟩, st⟩ := Jvm.LawKit.callS X hx (y := y) hown (mvT hZ w1) (mvT hZ w2) (mvT hZ w3) (mvT hZ w4) hy B hg hsize (lenOf hpd hlen) hstack hW hd (fun _ _ => ⟨has, e1, hc, hs⟩)
  dsimp only [Pt.U, Pt.locs, Pt.cells, Pt.slots] at X1 l1 y1 z1 st hQ
  subst l1 y1 z1
  exact WGo.st st (r _ _ v ⟨_, X1, rfl, Fr.app N1 hQ.2, n1, hx, hZ, hlk⟩ hQ.1)
theorem w_special (S : WSt p l e R s m args below meth c Z n0 T h k n) {own : String} {index : Nat} {y : MethodName} {bytes : ByteArray} {maxL : Nat} (hyn : y.name = "<init>") (hown : s.vm.findClass own = some m.cls) (w1 : (Jvm.Cond.methodLink own index y).before a0 Z = true) (w2 : (Jvm.Cond.instanceMethod y).before a0 Z = true) (w3 : (Jvm.Cond.initialized y.cls).before a0 Z = true) (w4 : (Jvm.Cond.code y bytes maxL none).before a0 Z = true) (hy : y.cls ≠ "java/lang/invoke/MethodHandle" ∧ y.cls ≠ "java/lang/invoke/VarHandle")
    {rm : Room} {as : Array Value} {Qc : Option Value → Heap → Prop} (C : WCon l Z n0 h y bytes maxL none [] rm as Qc) {W : Nat} (hf : rm.frames + 1 ≤ R.frames) (hl : W + (maxL + 11) + rm.locals ≤ R.locals) (hc : k + rm.cells ≤ R.cells) (hs : n + rm.slots ≤ R.slots)
    {g : JFrame} (hg : g.method = m) (hsize : g.locals.size = c.maxLocals) {argsL rest : List Value} {ps : List FieldType} {rt : Option FieldType} (hpd : parseMethodDescriptor y.desc = some ⟨ps, rt⟩) (hlen : argsL.length = ps.length) (hstack : g.stack = argsL.reverse ++ .ref a :: rest) (has : (Value.ref a :: argsL).toArray = as) (hW : 2 * g.monitorRoom + (rest.map fun v => v.category).sum ≤ W) (hd : decode c.code g.pc = .ok (.invokespecial index, 3))
    (r : ∀ T' h' v, WSt p l e R s m args below meth c Z n0 T' h' (k + rm.cells) (n + rm.slots) → Qc v h' → WGo p e below s n0 Q K N T' { g with pc := g.pc + 3, stack := v.toList ++ rest }) : WGo p e below s n0 Q K N T g := by
  obtain ⟨locs, X, e1, N1, n1, hx, hZ, hlk⟩ := S
  have B := backOf (W := W) (s := s) (args := args) (R := R) (p := p) (e := e) (below := below) (len := 3) (a0 := a0) (Q := fun v h L => Qc v h ∧ Fr n0 L) C hZ w4 w3 hf hl
  obtain ⟨v, vm1, ⟨T1, L1, k1, m1⟩, -, X1, ⟨Lc, hQ, l1, y1, z1⟩, st⟩ := X.specialBack hx (y := y) hyn hown (mvT hZ w1) (mvT hZ w2) (mvT hZ w4) hy B hg hsize (Steps.refl _) (lenOf hpd hlen) hstack hW hd (fun _ _ => ⟨has, e1, hc, hs⟩)
  dsimp only [Pt.U, Pt.locs, Pt.cells, Pt.slots] at X1 l1 y1 z1 st hQ
  subst l1 y1 z1
  exact WGo.st (fun _ q => st.trans q) (r _ _ v ⟨_, X1, rfl, Fr.app N1 hQ.2, n1, hx, hZ, hlk⟩ hQ.1)
theorem w_virtual (S : WSt p l e R s m args below meth c Z n0 T h k n) {own C : String} {index : Nat} {y : MethodName} {bytes : ByteArray} {maxL : Nat} {ret : Option FieldType} (hown : s.vm.findClass own = some m.cls) (w1 : (Jvm.Cond.methodLink own index y).before a0 Z = true) (w2 : (Jvm.Cond.declares y).before a0 Z = true) (w5 : (Jvm.Cond.selects C y y).before a0 Z = true) (w6 : (Jvm.Cond.instanceMethod y).before a0 Z = true) (w3 : (Jvm.Cond.initialized y.cls).before a0 Z = true) (w4 : (Jvm.Cond.code y bytes maxL ret).before a0 Z = true) (hy : y.cls ≠ "java/lang/invoke/MethodHandle" ∧ y.cls ≠ "java/lang/invoke/VarHandle") (E : Exa Z h a C)
    {rm : Room} {as : Array Value} {Qc : Option Value → Heap → Prop} (Cn : WCon l Z n0 h y bytes maxL ret [] rm as Qc) {W : Nat} (hf : rm.frames + 1 ≤ R.frames) (hl : W + (maxL + 11) + rm.locals ≤ R.locals) (hc : k + rm.cells ≤ R.cells) (hs : n + rm.slots ≤ R.slots)
    {g : JFrame} (hg : g.method = m) (hsize : g.locals.size = c.maxLocals) {argsL rest : List Value} {ps : List FieldType} {rt : Option FieldType} (hpd : parseMethodDescriptor y.desc = some ⟨ps, rt⟩) (hlen : argsL.length = ps.length) (hstack : g.stack = argsL.reverse ++ .ref a :: rest) (has : (Value.ref a :: argsL).toArray = as) (hW : 2 * g.monitorRoom + (rest.map fun v => v.category).sum ≤ W) (hd : decode c.code g.pc = .ok (.invokevirtual index, 3))
    (r : ∀ T' h' v, WSt p l e R s m args below meth c Z n0 T' h' (k + rm.cells) (n + rm.slots) → Qc v h' → WGo p e below s n0 Q K N T' { g with pc := g.pc + 3, stack := v.toList ++ rest }) : WGo p e below s n0 Q K N T g := by
  obtain ⟨locs, X, e1, N1, n1, hx, hZ, hlk⟩ := S
  have B := backOf (W := W) (s := s) (args := args) (R := R) (p := p) (e := e) (below := below) (len := 3) (a0 := a0) (Q := fun v h L => Qc v h ∧ Fr n0 L) Cn hZ w4 w3 hf hl
  obtain ⟨cq, kq, qa, qb, qc⟩ := isOf hZ e1 E
  obtain ⟨v, vm1, ⟨T1, L1, k1, m1⟩, -, X1, ⟨Lc, hQ, l1, y1, z1⟩, st⟩ := X.virtualBack hx (y := y) (z := y) hown (mvT hZ w1) (mvT hZ w2) (notFace_of_selects (args := #[]) (mvT hZ w5)) (mvT hZ w5) (mvT hZ w6) hy B qa qc hg hsize (Steps.refl _) (lenOf hpd hlen) hstack hW hd (fun _ _ => ⟨has, e1, hc, hs⟩)
  dsimp only [Pt.U, Pt.locs, Pt.cells, Pt.slots] at X1 l1 y1 z1 st hQ
  subst l1 y1 z1
  exact WGo.st (fun _ q => st.trans q) (r _ _ v ⟨_, X1, rfl, Fr.app N1 hQ.2, n1, hx, hZ, hlk⟩ hQ.1)
theorem w_private (S : WSt p l e R s m args below meth c Z n0 T h k n) {own C : String} {index : Nat} {y z : MethodName} {bytes : ByteArray} {maxL : Nat} {ret : Option FieldType} (hown : s.vm.findClass own = some m.cls) (w1 : (Jvm.Cond.methodLink own index y).before a0 Z = true) (w6 : (Jvm.Cond.instanceMethod y).before a0 Z = true) (w7 : (Jvm.Cond.privateMethod y).before a0 Z = true) (w3 : (Jvm.Cond.initialized y.cls).before a0 Z = true) (w4 : (Jvm.Cond.code y bytes maxL ret).before a0 Z = true) (w5 : (Jvm.Cond.selects z.cls z z).before a0 Z = true) (hzy : z.cls = y.cls) (hy : y.cls ≠ "java/lang/invoke/MethodHandle" ∧ y.cls ≠ "java/lang/invoke/VarHandle") (E : Exa Z h a C)
    {rm : Room} {as : Array Value} {Qc : Option Value → Heap → Prop} (Cn : WCon l Z n0 h y bytes maxL ret [] rm as Qc) {W : Nat} (hf : rm.frames + 1 ≤ R.frames) (hl : W + (maxL + 11) + rm.locals ≤ R.locals) (hc : k + rm.cells ≤ R.cells) (hs : n + rm.slots ≤ R.slots)
    {g : JFrame} (hg : g.method = m) (hsize : g.locals.size = c.maxLocals) {argsL rest : List Value} {ps : List FieldType} {rt : Option FieldType} (hpd : parseMethodDescriptor y.desc = some ⟨ps, rt⟩) (hlen : argsL.length = ps.length) (hstack : g.stack = argsL.reverse ++ .ref a :: rest) (has : (Value.ref a :: argsL).toArray = as) (hW : 2 * g.monitorRoom + (rest.map fun v => v.category).sum ≤ W) (hd : decode c.code g.pc = .ok (.invokevirtual index, 3))
    (r : ∀ T' h' v, WSt p l e R s m args below meth c Z n0 T' h' (k + rm.cells) (n + rm.slots) → Qc v h' → WGo p e below s n0 Q K N T' { g with pc := g.pc + 3, stack := v.toList ++ rest }) : WGo p e below s n0 Q K N T g := by
  obtain ⟨locs, X, e1, N1, n1, hx, hZ, hlk⟩ := S
  have B := backOf (W := W) (s := s) (args := args) (R := R) (p := p) (e := e) (below := below) (len := 3) (a0 := a0) (Q := fun v h L => Qc v h ∧ Fr n0 L) Cn hZ w4 w3 hf hl
  have hpriv := Cond.privateMethod_at (mvP hZ w7 (args := #[]))
  have hsel : (Jvm.Cond.selects y.cls y y).before args s = true := by
    have q5 : (Jvm.Cond.selects z.cls z z).before args s = true := mvT hZ w5
    obtain ⟨c2, r2, m2, -, -, q3, -, kP, hkP, hkPi⟩ := Cond.selects_spec q5
    have hfc := findClass_of_methodNamed q3
    rw [hzy] at hfc
    exact selects_self_of_private hfc hkP hkPi hpriv (mvT hZ w6) hy
  obtain ⟨cq, q1, q2⟩ := E.cell
  obtain ⟨v, vm1, ⟨T1, L1, k1, m1⟩, -, X1, ⟨Lc, hQ, l1, y1, z1⟩, st⟩ := X.privateBack hx (y := y) hown (mvT hZ w1) (mvT hZ w6) hsel hpriv (mvT hZ w4) hy B hg hsize (Steps.refl _) (a := a) (by rw [e1]; exact q1) q2 (lenOf hpd hlen) hstack hW hd (fun _ _ => ⟨has, e1, hc, hs⟩)
  dsimp only [Pt.U, Pt.locs, Pt.cells, Pt.slots] at X1 l1 y1 z1 st hQ
  subst l1 y1 z1
  exact WGo.st (fun _ q => st.trans q) (r _ _ v ⟨_, X1, rfl, Fr.app N1 hQ.2, n1, hx, hZ, hlk⟩ hQ.1)
/-- objects -/
theorem w_objinit (S : WSt p l e R s m args below meth c Z n0 T h k n) {own : String} {idx : Nat} (hown : s.vm.findClass own = some m.cls) (w1 : (Jvm.Cond.methodLink own idx Lib.objectInit).before a0 Z = true) (w2 : (Jvm.Cond.instanceMethod Lib.objectInit).before a0 Z = true) (w3 : (Jvm.Cond.code Lib.objectInit ⟨#[0xb1]⟩ 1 none).before a0 Z = true)
    {g : JFrame} (hg : g.method = m) (hsize : g.locals.size = c.maxLocals) {rest : List Value} (hs : g.stack = .ref a :: rest) (hd : decode c.code g.pc = .ok (.invokespecial idx, 3)) (hf : 1 ≤ R.frames) {W : Nat} (hW : 2 * g.monitorRoom + (rest.map fun v => v.category).sum ≤ W) (hl : W + 12 ≤ R.locals)
    (r : ∀ T', WSt p l e R s m args below meth c Z n0 T' h k n → WGo p e below s n0 Q K N T' { g with pc := g.pc + 3, stack := rest }) : WGo p e below s n0 Q K N T g := by
  obtain ⟨locs, X, e1, N1, n1, hx, hZ, hlk⟩ := S
  obtain ⟨T', X', e', st⟩ := initO X hx hZ hown w1 w2 w3 e1 hg hsize hs hd hf hW hl
  exact WGo.st st (r T' ⟨locs, X', e', N1, n1, hx, hZ, hlk⟩)
theorem w_new (S : WSt p l e R s m args below meth c Z n0 T h k n) {own C : String} {index nn : Nat} (hown : s.vm.findClass own = some m.cls) (w : (Jvm.Cond.classLink own index C).before a0 Z = true) (wi : (Jvm.Cond.instantiable C nn).before a0 Z = true) (wz : (Jvm.Cond.initialized C).before a0 Z = true)
    {g : JFrame} (hg : g.method = m) (hd : decode c.code g.pc = .ok (.new index, 3)) (hc : k + 1 ≤ R.cells) (hl : n + nn ≤ R.slots)
    (r : ∀ T' h' a', WSt p l e R s m args below meth c Z n0 T' h' (k + 1) (n + nn) → Keep h h' [] → a' = h.size → n0 ≤ a' → Exa Z h' a' C → (∀ {O nm d : String} {ty : FieldType}, Laid Z a0 C O nm d → parseFieldDescriptor d = some ty → Fld Z h' a' O nm d (defaultValue ty)) → WGo p e below s n0 Q K N T' { g with pc := g.pc + 3, stack := .ref a' :: g.stack }) : WGo p e below s n0 Q K N T g := by
  have hge := S.ge
  obtain ⟨locs, X, e1, N1, n1, hx, hZ, hlk⟩ := S
  obtain ⟨T', h', X', e', E', A', D', -, st⟩ := newO X hx hZ hown w wi wz e1 hg hd hc hl
  exact WGo.st st (r T' h' _ ⟨locs, X', e', N1, n1, hx, hZ, hlk⟩ (keep_ext E' _) rfl hge A' D')
theorem w_getfield (S : WSt p l e R s m args below meth c Z n0 T h k n) {own R0 O f d : String} {index : Nat} (hown : s.vm.findClass own = some m.cls) (w : (Jvm.Cond.fieldLink own index R0 f d).before a0 Z = true) (via : Via Z R0 O f d) {v : Value} (F : Fld Z h a O f d v) {g : JFrame} (hg : g.method = m) {rest : List Value} (hs : g.stack = .ref a :: rest) (hd : decode c.code g.pc = .ok (.getfield index, 3))
    (r : ∀ T', WSt p l e R s m args below meth c Z n0 T' h k n → WGo p e below s n0 Q K N T' { g with pc := g.pc + 3, stack := v :: rest }) : WGo p e below s n0 Q K N T g := by
  obtain ⟨locs, X, e1, N1, n1, hx, hZ, hlk⟩ := S
  obtain ⟨T', X', e', st⟩ := getF X hx hZ hown (host := "") (Or.inl w) via e1 F hg hs hd
  exact WGo.st st (r T' ⟨locs, X', e', N1, n1, hx, hZ, hlk⟩)
theorem w_putfield (S : WSt p l e R s m args below meth c Z n0 T h k n) {own R0 O f d C : String} {index kk : Nat} {ty : FieldType} (hown : s.vm.findClass own = some m.cls) (w : (Jvm.Cond.fieldLink own index R0 f d).before a0 Z = true) (via : Via Z R0 O f d) {v old : Value} (F : Fld Z h a O f d old) (E : Exa Z h a C)
    (L : (Jvm.Cond.lays C O f d).before a0 Z = true ∨ ((Jvm.Cond.laysFinal C O f d).before a0 Z = true ∧ own = O ∧ meth.name = "<init>")) (wi : (Jvm.Cond.instantiable C kk).before a0 Z = true) (ga : n0 ≤ a)
    (hty : parseFieldDescriptor d = some ty) (hn : narrow ty v = v) (hf : fits ty v = true) {g : JFrame} (hg : g.method = m) {rest : List Value} (hs : g.stack = v :: .ref a :: rest) (hd : decode c.code g.pc = .ok (.putfield index, 3))
    (r : ∀ T' h', WSt p l e R s m args below meth c Z n0 T' h' k n → Wr h h' a (Jvm.RoadKit.slotOf Z O f d) v → Keep h h' [a] → WGo p e below s n0 Q K N T' { g with pc := g.pc + 3, stack := rest }) : WGo p e below s n0 Q K N T g := by
  obtain ⟨locs, X, e1, N1, n1, hx, hZ, hlk⟩ := S
  obtain ⟨T', h', X', e', W', st⟩ := putF X hx hZ hown (host := "") (Or.inl w) via e1 F E L wi hty hn hf hg hs hd
  exact WGo.st st (r T' h' ⟨_, X', e', Fr.snoc X' N1 ga, n1, hx, hZ, hlk⟩ W' (Keep.of_wr W'))
theorem w_getstatic (S : WSt p l e R s m args below meth c Z n0 T h k n) {own R0 O f d : String} {index : Nat} (hown : s.vm.findClass own = some m.cls) (w : (Jvm.Cond.fieldLink own index R0 f d).before a0 Z = true) (via : Via Z R0 O f d) {v : Value} (F : Sta Z h O f d v) {g : JFrame} (hg : g.method = m) (hd : decode c.code g.pc = .ok (.getstatic index, 3))
    (r : ∀ T', WSt p l e R s m args below meth c Z n0 T' h k n → WGo p e below s n0 Q K N T' { g with pc := g.pc + 3, stack := v :: g.stack }) : WGo p e below s n0 Q K N T g := by
  obtain ⟨locs, X, e1, N1, n1, hx, hZ, hlk⟩ := S
  obtain ⟨T', X', e', st⟩ := getS X hx hZ hown (host := "") w via e1 F hg hd
  exact WGo.st st (r T' ⟨locs, X', e', N1, n1, hx, hZ, hlk⟩)
/-- comparisons of longs -/
theorem cl_lt {x y : Int64} (q : x < y) : lcmpW x y = -1 := Int32.toInt_inj.mp ((c_lcmp x y).1 (Int64.lt_iff_toInt_lt.mp q))
theorem cl_eq {x y : Int64} (q : x = y) : lcmpW x y = 0 := Int32.toInt_inj.mp ((c_lcmp x y).2.1 (by rw [q]))
theorem cl_gt {x y : Int64} (q : y < x) : lcmpW x y = 1 := Int32.toInt_inj.mp ((c_lcmp x y).2.2 (Int64.lt_iff_toInt_lt.mp q))
theorem cl_tri (x y : Int64) : x < y ∨ x = y ∨ y < x := by
  simp only [Int64.lt_iff_toInt_lt]
  rcases Int.lt_trichotomy x.toInt y.toInt with q | q | q
  · exact Or.inl q
  · exact Or.inr (Or.inl (Int64.toInt_inj.mp q))
  · exact Or.inr (Or.inr q)
theorem tltJ {x y : Int64} (q : x < y) : ifCond.holds .lt (lcmpW x y) = true ∧ ifCond.holds .ge (lcmpW x y) = false := by rw [cl_lt q]; decide
theorem fltJ {x y : Int64} (q : ¬ x < y) : ifCond.holds .lt (lcmpW x y) = false ∧ ifCond.holds .ge (lcmpW x y) = true := by
  rcases cl_tri x y with r | r | r
  · exact absurd r q
  · rw [cl_eq r]; decide
  · rw [cl_gt r]; decide
theorem tgtJ {x y : Int64} (q : y < x) : ifCond.holds .gt (lcmpW x y) = true ∧ ifCond.holds .le (lcmpW x y) = false := by rw [cl_gt q]; decide
theorem fgtJ {x y : Int64} (q : ¬ y < x) : ifCond.holds .gt (lcmpW x y) = false ∧ ifCond.holds .le (lcmpW x y) = true := by
  rcases cl_tri x y with r | r | r
  · rw [cl_lt r]; decide
  · rw [cl_eq r]; decide
  · exact absurd r q
theorem teqJ {x y : Int64} (q : x = y) : ifCond.holds .eq (lcmpW x y) = true ∧ ifCond.holds .ne (lcmpW x y) = false := by rw [cl_eq q]; decide
theorem feqJ {x y : Int64} (q : ¬ x = y) : ifCond.holds .eq (lcmpW x y) = false ∧ ifCond.holds .ne (lcmpW x y) = true := by
  rcases cl_tri x y with r | r | r
  · rw [cl_lt r]; decide
  · exact absurd r q
  · rw [cl_gt r]; decide
theorem w_dupX2 {tb : Tables} [Ours tb] {target : State} {g : JFrame} (h : At T m c below) (hx : tb.exec = Jvm.exec) (hg : g.method = m) {x y z : Value} {rest : List Value} (hd : decode c.code g.pc = .ok (.dup_x2, 1)) (hs : g.stack = x :: y :: z :: rest) (hc : x.category = 1) (hc1 : y.category = 1) (hc2 : z.category = 1)
    (hr : Steps tb e below (T.setTop { g with pc := g.pc + 1, stack := x :: y :: z :: x :: rest }) target) : Steps tb e below (T.setTop g) target := by
  subst hg
  jvm_step h [h.top, hx, hd, hs, hc, hc1, hc2]
  exact hr
end Core
section Arith
theorem rem_rng (x y : Int32) (d : Int) (hy : y.toInt = d) (hd : 0 < d) : 0 ≤ ((x &&& (2147483647 : Int32)) % y).toInt ∧ ((x &&& (2147483647 : Int32)) % y).toInt < d := by
  have h1 := c_mask x 2147483647 31 (by decide) (by decide)
  have h2 := (c_irem (x &&& 2147483647) y d hy).1 (by omega)
  rw [h2]
  exact ⟨Int.emod_nonneg _ (by omega), Int.emod_lt_of_pos _ hd⟩
theorem byte_idem (x : Int32) : x.toInt8.toInt32.toInt8.toInt32 = x.toInt8.toInt32 := by
  have h1 := c_i2b x
  have h2 := c_i2b x.toInt8.toInt32
  apply Int32.toInt_inj.mp
  omega
theorem si_len (L : List Int32) (j v : Int32) : (si L j v).length = L.length := by simp [si]
theorem gi_same (L : List Int32) (j v : Int32) (h0 : 0 ≤ j.toInt) (h1 : j.toInt < L.length) : gi (si L j v) j = v := by
  have q : j.toNatClampNeg < L.length := by simp only [Int32.toNatClampNeg]; omega
  simp [gi, si, q]
theorem gi_other (L : List Int32) (i j v : Int32) (h0 : 0 ≤ i.toInt) (h1 : 0 ≤ j.toInt) (hne : i.toInt ≠ j.toInt) : gi (si L j v) i = gi L i := by
  have q : j.toNatClampNeg ≠ i.toNatClampNeg := by simp only [Int32.toNatClampNeg]; omega
  simp [gi, si, List.getElem?_set, q]
theorem add_c {x k : Int32} {z : Int} (hz : k.toInt = z) (h0 : -2147483648 ≤ x.toInt + z) (h1 : x.toInt + z < 2147483648) : (x + k).toInt = x.toInt + z := by
  have h := c_iadd x k
  have r := rng32 (x + k)
  omega
theorem sub_c {x k : Int32} {z : Int} (hz : k.toInt = z) (h0 : -2147483648 ≤ x.toInt - z) (h1 : x.toInt - z < 2147483648) : (x - k).toInt = x.toInt - z := by
  have h := c_isub x k
  have r := rng32 (x - k)
  omega
theorem two_st (L : List Int32) (p q x y : Int32) (p0 : 0 ≤ p.toInt) (p1 : p.toInt < L.length) (q0 : 0 ≤ q.toInt) (q1 : q.toInt < L.length) (ne : p.toInt ≠ q.toInt) : gi (si (si L p x) q y) p = x ∧ gi (si (si L p x) q y) q = y :=
  ⟨by rw [gi_other _ _ _ _ p0 q0 ne]; exact gi_same L p x p0 p1, gi_same _ q y q0 (by rw [si_len]; exact q1)⟩
end Arith

def pick3F (p a b c : Int32) : Int32 := if p = (0 : Int32) then a else if p = (1 : Int32) then b else c
def pick2F (p a b : Int32) : Int32 := if p = (0 : Int32) then a else b
theorem rem3 (x : Int32) : ((((x.toUInt32 >>> ((2 : Int32) &&& 31).toUInt32).toInt32)) % (3 : Int32)) = 0 ∨ ((((x.toUInt32 >>> ((2 : Int32) &&& 31).toUInt32).toInt32)) % (3 : Int32)) = 1 ∨ ((((x.toUInt32 >>> ((2 : Int32) &&& 31).toUInt32).toInt32)) % (3 : Int32)) = 2 := by
  have u := c_iushr x 2 2 (by decide) (by decide)
  have r := rng32 x
  generalize ((x.toUInt32 >>> ((2 : Int32) &&& 31).toUInt32).toInt32) = y at *
  have q := (c_irem y 3 3 (by decide)).1 (by omega)
  have e0 : (0 : Int32).toInt = 0 := by decide
  have e1 : (1 : Int32).toInt = 1 := by decide
  have e2 : (2 : Int32).toInt = 2 := by decide
  have h : (y % (3 : Int32)).toInt = 0 ∨ (y % (3 : Int32)).toInt = 1 ∨ (y % (3 : Int32)).toInt = 2 := by omega
  rcases h with h | h | h
  · exact Or.inl (Int32.toInt_inj.mp (by rw [h, e0]))
  · exact Or.inr (Or.inl (Int32.toInt_inj.mp (by rw [h, e1])))
  · exact Or.inr (Or.inr (Int32.toInt_inj.mp (by rw [h, e2])))
theorem idx3 {i p : Int32} (hi : i = 0 ∨ i = 1) (hp : p = 0 ∨ p = 1 ∨ p = 2) : 0 ≤ ((i * (3 : Int32)) + p).toInt ∧ ((i * (3 : Int32)) + p).toInt < ((6 : Nat) : Int) := by
  rcases hi with rfl | rfl <;> rcases hp with rfl | rfl | rfl <;> decide
theorem idx2 {i p : Int32} (hi : i = 0 ∨ i = 1 ∨ i = 2) (hp : p = 0 ∨ p = 1) : 0 ≤ ((i * (2 : Int32)) + p).toInt ∧ ((i * (2 : Int32)) + p).toInt < ((6 : Nat) : Int) := by
  rcases hi with rfl | rfl | rfl <;> rcases hp with rfl | rfl <;> decide
theorem g30 {a b c d e f p i : Int32} (hi : i = 0) (hp : p = 0 ∨ p = 1 ∨ p = 2) : gi [a, b, c, d, e, f] ((i * (3 : Int32)) + p) = pick3F p a b c := by subst hi; rcases hp with rfl | rfl | rfl <;> rfl
theorem g31 {a b c d e f p i : Int32} (hi : i = 1) (hp : p = 0 ∨ p = 1 ∨ p = 2) : gi [a, b, c, d, e, f] ((i * (3 : Int32)) + p) = pick3F p d e f := by subst hi; rcases hp with rfl | rfl | rfl <;> rfl
theorem g20 {a b c d e f p i : Int32} (hi : i = 0) (hp : p = 0 ∨ p = 1) : gi [a, b, c, d, e, f] ((i * (2 : Int32)) + p) = pick2F p a b := by subst hi; rcases hp with rfl | rfl <;> rfl
theorem g21 {a b c d e f p i : Int32} (hi : i = 1) (hp : p = 0 ∨ p = 1) : gi [a, b, c, d, e, f] ((i * (2 : Int32)) + p) = pick2F p c d := by subst hi; rcases hp with rfl | rfl <;> rfl
theorem g22 {a b c d e f p i : Int32} (hi : i = 2) (hp : p = 0 ∨ p = 1) : gi [a, b, c, d, e, f] ((i * (2 : Int32)) + p) = pick2F p e f := by subst hi; rcases hp with rfl | rfl <;> rfl
theorem d_method_3_code_0 : decode method_3_code 0 = .ok (.iload_n 0, 1) := by decide +kernel
theorem d_method_3_code_1 : decode method_3_code 1 = .ok (.ifCond .ne 5, 3) := by decide +kernel
theorem d_method_3_code_4 : decode method_3_code 4 = .ok (.iload_n 1, 1) := by decide +kernel
theorem d_method_3_code_5 : decode method_3_code 5 = .ok (.ireturn, 1) := by decide +kernel
theorem d_method_3_code_6 : decode method_3_code 6 = .ok (.iload_n 2, 1) := by decide +kernel
theorem d_method_3_code_7 : decode method_3_code 7 = .ok (.ireturn, 1) := by decide +kernel
def QP2 (Z : State) (n0 : Nat) (h0 : Heap) (p1 : Int32) (p2 : Int32) (p3 : Int32) (v : Option Value) (h : Heap) : Prop := v = some (.int (pick2F p1 p2 p3)) ∧ h = h0
theorem ef_P2 (m : MethodId) (p1 : Int32) (p2 : Int32) (p3 : Int32) : entryFrame m #[(.int p1), (.int p2), (.int p3)] 3 = mkF m 0 #[.val (.int p1), .val (.int p2), .val (.int p3)] [] := by first | (simp [entryFrame, mkF, argsToLocals, Value.category, maxLocals]; done) | rfl
set_option maxRecDepth 65536 in
set_option maxHeartbeats 40000000 in
theorem rm_P2 (l : Launch) (Z : State) (a0 : Array Value) (hw : ∀ d ∈ tables_1, d.before a0 Z = true) (n0 : Nat) (h0 : Heap) (p1 : Int32) (p2 : Int32) (p3 : Int32) (Z0 : n0 ≤ h0.size)  :
    WCon l Z n0 h0 (⟨"com/example/pathweave/pathweave/routing/PatternArrivalPinLaw", "pick2", "(III)I"⟩ : MethodName) method_3_code 3 (some .int) [] ({ frames := 0, cells := 0, slots := 0, locals := 0 } : Room) #[(.int p1), (.int p2), (.int p3)] (QP2 Z n0 h0 p1 p2 p3) := by
  refine WCon.of (by first | exact plainFor_of_name (by decide +kernel) | decide +kernel) Z0 ?_
  intro p e s m below meth c T hx hZ hby hml hown hnm hret S
  refine WGo.cast (ef_P2 m p1 p2 p3) ?_
  show WGo _ _ _ _ _ _ _ _ T (mkF m 0 #[.val (.int p1), .val (.int p2), .val (.int p3)] [])
  refine WGo.st (fun _ q => XS.iloadN S.here hx rfl (hb hby d_method_3_code_0) rfl q) ?_
  show WGo _ _ _ _ _ _ _ _ T (mkF m 1 #[.val (.int p1), .val (.int p2), .val (.int p3)] [(.int p1)])
  by_cases c1 : p1 = (0 : Int32)
  · refine WGo.st (fun _ q => XS.ifNo S.here hx rfl (hb hby d_method_3_code_1) rfl ((if0 _ _).trans (teq c1).2) q) ?_
    show WGo _ _ _ _ _ _ _ _ T (mkF m 4 #[.val (.int p1), .val (.int p2), .val (.int p3)] [])
    refine WGo.st (fun _ q => XS.iloadN S.here hx rfl (hb hby d_method_3_code_4) rfl q) ?_
    show WGo _ _ _ _ _ _ _ _ T (mkF m 5 #[.val (.int p1), .val (.int p2), .val (.int p3)] [(.int p2)])
    refine w_retI S hret (hb hby d_method_3_code_5) (by decide) (by decide) ?_
    exact ⟨by simp [pick2F, *], rfl⟩
  · refine WGo.st (fun _ q => XS.ifYes S.here hx rfl (pc0 := 1) (pc' := 6) rfl (hb hby d_method_3_code_1) rfl ((if0 _ _).trans (feq c1).2) (by decide) (by decide) q) ?_
    show WGo _ _ _ _ _ _ _ _ T (mkF m 6 #[.val (.int p1), .val (.int p2), .val (.int p3)] [])
    refine WGo.st (fun _ q => XS.iloadN S.here hx rfl (hb hby d_method_3_code_6) rfl q) ?_
    show WGo _ _ _ _ _ _ _ _ T (mkF m 7 #[.val (.int p1), .val (.int p2), .val (.int p3)] [(.int p3)])
    refine w_retI S hret (hb hby d_method_3_code_7) (by decide) (by decide) ?_
    exact ⟨by simp [pick2F, *], rfl⟩
theorem d_method_2_code_0 : decode method_2_code 0 = .ok (.iload_n 0, 1) := by decide +kernel
theorem d_method_2_code_1 : decode method_2_code 1 = .ok (.ifCond .ne 5, 3) := by decide +kernel
theorem d_method_2_code_4 : decode method_2_code 4 = .ok (.iload_n 1, 1) := by decide +kernel
theorem d_method_2_code_5 : decode method_2_code 5 = .ok (.ireturn, 1) := by decide +kernel
theorem d_method_2_code_6 : decode method_2_code 6 = .ok (.iload_n 0, 1) := by decide +kernel
theorem d_method_2_code_7 : decode method_2_code 7 = .ok (.iconst 1, 1) := by decide +kernel
theorem d_method_2_code_8 : decode method_2_code 8 = .ok (.if_icmp .ne 5, 3) := by decide +kernel
theorem d_method_2_code_11 : decode method_2_code 11 = .ok (.iload_n 2, 1) := by decide +kernel
theorem d_method_2_code_12 : decode method_2_code 12 = .ok (.ireturn, 1) := by decide +kernel
theorem d_method_2_code_13 : decode method_2_code 13 = .ok (.iload_n 3, 1) := by decide +kernel
theorem d_method_2_code_14 : decode method_2_code 14 = .ok (.ireturn, 1) := by decide +kernel
def QP3 (Z : State) (n0 : Nat) (h0 : Heap) (p1 : Int32) (p2 : Int32) (p3 : Int32) (p4 : Int32) (v : Option Value) (h : Heap) : Prop := v = some (.int (pick3F p1 p2 p3 p4)) ∧ h = h0
theorem ef_P3 (m : MethodId) (p1 : Int32) (p2 : Int32) (p3 : Int32) (p4 : Int32) : entryFrame m #[(.int p1), (.int p2), (.int p3), (.int p4)] 4 = mkF m 0 #[.val (.int p1), .val (.int p2), .val (.int p3), .val (.int p4)] [] := by first | (simp [entryFrame, mkF, argsToLocals, Value.category, maxLocals]; done) | rfl
set_option maxRecDepth 65536 in
set_option maxHeartbeats 40000000 in
theorem rm_P3 (l : Launch) (Z : State) (a0 : Array Value) (hw : ∀ d ∈ tables_1, d.before a0 Z = true) (n0 : Nat) (h0 : Heap) (p1 : Int32) (p2 : Int32) (p3 : Int32) (p4 : Int32) (Z0 : n0 ≤ h0.size)  :
    WCon l Z n0 h0 (⟨"com/example/pathweave/pathweave/routing/PatternArrivalPinLaw", "pick3", "(IIII)I"⟩ : MethodName) method_2_code 4 (some .int) [] ({ frames := 0, cells := 0, slots := 0, locals := 0 } : Room) #[(.int p1), (.int p2), (.int p3), (.int p4)] (QP3 Z n0 h0 p1 p2 p3 p4) := by
  refine WCon.of (by first | exact plainFor_of_name (by decide +kernel) | decide +kernel) Z0 ?_
  intro p e s m below meth c T hx hZ hby hml hown hnm hret S
  refine WGo.cast (ef_P3 m p1 p2 p3 p4) ?_
  show WGo _ _ _ _ _ _ _ _ T (mkF m 0 #[.val (.int p1), .val (.int p2), .val (.int p3), .val (.int p4)] [])
  refine WGo.st (fun _ q => XS.iloadN S.here hx rfl (hb hby d_method_2_code_0) rfl q) ?_
  show WGo _ _ _ _ _ _ _ _ T (mkF m 1 #[.val (.int p1), .val (.int p2), .val (.int p3), .val (.int p4)] [(.int p1)])
  by_cases c1 : p1 = (0 : Int32)
  · refine WGo.st (fun _ q => XS.ifNo S.here hx rfl (hb hby d_method_2_code_1) rfl ((if0 _ _).trans (teq c1).2) q) ?_
    show WGo _ _ _ _ _ _ _ _ T (mkF m 4 #[.val (.int p1), .val (.int p2), .val (.int p3), .val (.int p4)] [])
    refine WGo.st (fun _ q => XS.iloadN S.here hx rfl (hb hby d_method_2_code_4) rfl q) ?_
    show WGo _ _ _ _ _ _ _ _ T (mkF m 5 #[.val (.int p1), .val (.int p2), .val (.int p3), .val (.int p4)] [(.int p2)])
    refine w_retI S hret (hb hby d_method_2_code_5) (by decide) (by decide) ?_
    exact ⟨by simp [pick3F, *], rfl⟩
  · refine WGo.st (fun _ q => XS.ifYes S.here hx rfl (pc0 := 1) (pc' := 6) rfl (hb hby d_method_2_code_1) rfl ((if0 _ _).trans (feq c1).2) (by decide) (by decide) q) ?_
    show WGo _ _ _ _ _ _ _ _ T (mkF m 6 #[.val (.int p1), .val (.int p2), .val (.int p3), .val (.int p4)] [])
    refine WGo.st (fun _ q => XS.iloadN S.here hx rfl (hb hby d_method_2_code_6) rfl q) ?_
    show WGo _ _ _ _ _ _ _ _ T (mkF m 7 #[.val (.int p1), .val (.int p2), .val (.int p3), .val (.int p4)] [(.int p1)])
    refine WGo.st (fun _ q => XS.iconst S.here hx rfl (hb hby d_method_2_code_7) q) ?_
    show WGo _ _ _ _ _ _ _ _ T (mkF m 8 #[.val (.int p1), .val (.int p2), .val (.int p3), .val (.int p4)] [(.int (1 : Int32)), (.int p1)])
    by_cases c8 : p1 = (1 : Int32)
    · refine WGo.st (fun _ q => XS.icmpNo S.here hx rfl (hb hby d_method_2_code_8) rfl (teq c8).2 q) ?_
      show WGo _ _ _ _ _ _ _ _ T (mkF m 11 #[.val (.int p1), .val (.int p2), .val (.int p3), .val (.int p4)] [])
      refine WGo.st (fun _ q => XS.iloadN S.here hx rfl (hb hby d_method_2_code_11) rfl q) ?_
      show WGo _ _ _ _ _ _ _ _ T (mkF m 12 #[.val (.int p1), .val (.int p2), .val (.int p3), .val (.int p4)] [(.int p3)])
      refine w_retI S hret (hb hby d_method_2_code_12) (by decide) (by decide) ?_
      exact ⟨by simp [pick3F, *], rfl⟩
    · refine WGo.st (fun _ q => XS.icmpYes S.here hx rfl (pc0 := 8) (pc' := 13) rfl (hb hby d_method_2_code_8) rfl (feq c8).2 (by decide) (by decide) q) ?_
      show WGo _ _ _ _ _ _ _ _ T (mkF m 13 #[.val (.int p1), .val (.int p2), .val (.int p3), .val (.int p4)] [])
      refine WGo.st (fun _ q => XS.iloadN S.here hx rfl (hb hby d_method_2_code_13) rfl q) ?_
      show WGo _ _ _ _ _ _ _ _ T (mkF m 14 #[.val (.int p1), .val (.int p2), .val (.int p3), .val (.int p4)] [(.int p4)])
      refine w_retI S hret (hb hby d_method_2_code_14) (by decide) (by decide) ?_
      exact ⟨by simp [pick3F, *], rfl⟩
theorem d_prog_88_method_1_code_0 : decode prog_88_method_1_code 0 = .ok (.aload_n 0, 1) := by decide +kernel
theorem d_prog_88_method_1_code_1 : decode prog_88_method_1_code 1 = .ok (.invokespecial 1, 3) := by decide +kernel
theorem d_prog_88_method_1_code_4 : decode prog_88_method_1_code 4 = .ok (.aload_n 0, 1) := by decide +kernel
theorem d_prog_88_method_1_code_5 : decode prog_88_method_1_code 5 = .ok (.iload_n 1, 1) := by decide +kernel
theorem d_prog_88_method_1_code_6 : decode prog_88_method_1_code 6 = .ok (.putfield 7, 3) := by decide +kernel
theorem d_prog_88_method_1_code_9 : decode prog_88_method_1_code 9 = .ok (.aload_n 0, 1) := by decide +kernel
theorem d_prog_88_method_1_code_10 : decode prog_88_method_1_code 10 = .ok (.aload_n 2, 1) := by decide +kernel
theorem d_prog_88_method_1_code_11 : decode prog_88_method_1_code 11 = .ok (.putfield 13, 3) := by decide +kernel
theorem d_prog_88_method_1_code_14 : decode prog_88_method_1_code 14 = .ok (.aload_n 0, 1) := by decide +kernel
theorem d_prog_88_method_1_code_15 : decode prog_88_method_1_code 15 = .ok (.aload_n 3, 1) := by decide +kernel
theorem d_prog_88_method_1_code_16 : decode prog_88_method_1_code 16 = .ok (.putfield 17, 3) := by decide +kernel
theorem d_prog_88_method_1_code_19 : decode prog_88_method_1_code 19 = .ok (.aload_n 0, 1) := by decide +kernel
theorem d_prog_88_method_1_code_20 : decode prog_88_method_1_code 20 = .ok (.aload 4, 2) := by decide +kernel
theorem d_prog_88_method_1_code_22 : decode prog_88_method_1_code 22 = .ok (.putfield 21, 3) := by decide +kernel
theorem d_prog_88_method_1_code_25 : decode prog_88_method_1_code 25 = .ok (.aload_n 0, 1) := by decide +kernel
theorem d_prog_88_method_1_code_26 : decode prog_88_method_1_code 26 = .ok (.aload 5, 2) := by decide +kernel
theorem d_prog_88_method_1_code_28 : decode prog_88_method_1_code 28 = .ok (.putfield 24, 3) := by decide +kernel
theorem d_prog_88_method_1_code_31 : decode prog_88_method_1_code 31 = .ok (.aload_n 0, 1) := by decide +kernel
theorem d_prog_88_method_1_code_32 : decode prog_88_method_1_code 32 = .ok (.aload 6, 2) := by decide +kernel
theorem d_prog_88_method_1_code_34 : decode prog_88_method_1_code 34 = .ok (.putfield 27, 3) := by decide +kernel
theorem d_prog_88_method_1_code_37 : decode prog_88_method_1_code 37 = .ok (.aload_n 0, 1) := by decide +kernel
theorem d_prog_88_method_1_code_38 : decode prog_88_method_1_code 38 = .ok (.aload 7, 2) := by decide +kernel
theorem d_prog_88_method_1_code_40 : decode prog_88_method_1_code 40 = .ok (.putfield 30, 3) := by decide +kernel
theorem d_prog_88_method_1_code_43 : decode prog_88_method_1_code 43 = .ok (.return_, 1) := by decide +kernel
def QK (Z : State) (n0 : Nat) (h0 : Heap) (a1 : Addr) (p2 : Int32) (r3 : Addr) (r4 : Addr) (r5 : Addr) (r6 : Addr) (r7 : Addr) (r8 : Addr) (v : Option Value) (h : Heap) : Prop := v = none ∧ Keep h0 h [a1] ∧ Exa Z h a1 "com/example/pathweave/pathweave/routing/Pattern" ∧ Fld Z h a1 "com/example/pathweave/pathweave/routing/Pattern" "stops" "[I" (.ref r3) ∧ Fld Z h a1 "com/example/pathweave/pathweave/routing/Pattern" "dropOffs" "[Z" (.ref r5) ∧ Fld Z h a1 "com/example/pathweave/pathweave/routing/Pattern" "arrivals" "[I" (.ref r7)
theorem ef_K (m : MethodId) (a1 : Addr) (p2 : Int32) (r3 : Addr) (r4 : Addr) (r5 : Addr) (r6 : Addr) (r7 : Addr) (r8 : Addr) : entryFrame m #[(.ref a1), (.int p2), (.ref r3), (.ref r4), (.ref r5), (.ref r6), (.ref r7), (.ref r8)] 8 = mkF m 0 #[.val (.ref a1), .val (.int p2), .val (.ref r3), .val (.ref r4), .val (.ref r5), .val (.ref r6), .val (.ref r7), .val (.ref r8)] [] := by first | (simp [entryFrame, mkF, argsToLocals, Value.category, maxLocals]; done) | rfl
set_option maxRecDepth 65536 in
set_option maxHeartbeats 40000000 in
theorem rm_K (l : Launch) (Z : State) (a0 : Array Value) (hw : ∀ d ∈ tables_1, d.before a0 Z = true) (n0 : Nat) (h0 : Heap) (a1 : Addr) (p2 : Int32) (r3 : Addr) (r4 : Addr) (r5 : Addr) (r6 : Addr) (r7 : Addr) (r8 : Addr) (Z0 : n0 ≤ h0.size) (g1 : n0 ≤ a1) (E1 : Exa Z h0 a1 "com/example/pathweave/pathweave/routing/Pattern") (F_route : Fld Z h0 a1 "com/example/pathweave/pathweave/routing/Pattern" "route" "I" (.int (0 : Int32))) (F_stops : Fld Z h0 a1 "com/example/pathweave/pathweave/routing/Pattern" "stops" "[I" (.null)) (F_pickups : Fld Z h0 a1 "com/example/pathweave/pathweave/routing/Pattern" "pickups" "[Z" (.null)) (F_dropOffs : Fld Z h0 a1 "com/example/pathweave/pathweave/routing/Pattern" "dropOffs" "[Z" (.null)) (F_trips : Fld Z h0 a1 "com/example/pathweave/pathweave/routing/Pattern" "trips" "[I" (.null)) (F_arrivals : Fld Z h0 a1 "com/example/pathweave/pathweave/routing/Pattern" "arrivals" "[I" (.null)) (F_departures : Fld Z h0 a1 "com/example/pathweave/pathweave/routing/Pattern" "departures" "[I" (.null)) :
    WCon l Z n0 h0 (⟨"com/example/pathweave/pathweave/routing/Pattern", "<init>", "(I[I[Z[Z[I[I[I)V"⟩ : MethodName) prog_88_method_1_code 8 none [] ({ frames := 1, cells := 0, slots := 0, locals := 12 } : Room) #[(.ref a1), (.int p2), (.ref r3), (.ref r4), (.ref r5), (.ref r6), (.ref r7), (.ref r8)] (QK Z n0 h0 a1 p2 r3 r4 r5 r6 r7 r8) := by
  refine WCon.of (by first | exact plainFor_of_name (by decide +kernel) | decide +kernel) Z0 ?_
  intro p e s m below meth c T hx hZ hby hml hown hnm hret S
  refine WGo.cast (ef_K m a1 p2 r3 r4 r5 r6 r7 r8) ?_
  show WGo _ _ _ _ _ _ _ _ T (mkF m 0 #[.val (.ref a1), .val (.int p2), .val (.ref r3), .val (.ref r4), .val (.ref r5), .val (.ref r6), .val (.ref r7), .val (.ref r8)] [])
  refine WGo.st (fun _ q => XS.aloadN S.here hx rfl (hb hby d_prog_88_method_1_code_0) rfl rfl q) ?_
  show WGo _ _ _ _ _ _ _ _ T (mkF m 1 #[.val (.ref a1), .val (.int p2), .val (.ref r3), .val (.ref r4), .val (.ref r5), .val (.ref r6), .val (.ref r7), .val (.ref r8)] [(.ref a1)])
  refine w_objinit S hown (hw _ (List.mem_of_getElem? (i := 8) rfl)) (hw _ (List.mem_of_getElem? (i := 9) rfl)) (hw _ (List.mem_of_getElem? (i := 10) rfl)) rfl (by rw [hml]; rfl) rfl (hb hby d_prog_88_method_1_code_1) (by decide) (W := 0) (by show 2 * 0 + _ ≤ _; exact Nat.le_of_eq rfl) (by decide) ?_
  intro T1 S2
  show WGo _ _ _ _ _ _ _ _ T1 (mkF m 4 #[.val (.ref a1), .val (.int p2), .val (.ref r3), .val (.ref r4), .val (.ref r5), .val (.ref r6), .val (.ref r7), .val (.ref r8)] [])
  refine WGo.st (fun _ q => XS.aloadN S2.here hx rfl (hb hby d_prog_88_method_1_code_4) rfl rfl q) ?_
  show WGo _ _ _ _ _ _ _ _ T1 (mkF m 5 #[.val (.ref a1), .val (.int p2), .val (.ref r3), .val (.ref r4), .val (.ref r5), .val (.ref r6), .val (.ref r7), .val (.ref r8)] [(.ref a1)])
  refine WGo.st (fun _ q => XS.iloadN S2.here hx rfl (hb hby d_prog_88_method_1_code_5) rfl q) ?_
  show WGo _ _ _ _ _ _ _ _ T1 (mkF m 6 #[.val (.ref a1), .val (.int p2), .val (.ref r3), .val (.ref r4), .val (.ref r5), .val (.ref r6), .val (.ref r7), .val (.ref r8)] [(.int p2), (.ref a1)])
  refine w_putfield S2 hown (hw _ (List.mem_of_getElem? (i := 11) rfl)) Via.refl F_route E1 (Or.inr ⟨(hw _ (List.mem_of_getElem? (i := 12) rfl)), rfl, hnm⟩) (hw _ (List.mem_of_getElem? (i := 2) rfl)) g1 (ty := .int) (by decide) rfl rfl rfl rfl (hb hby d_prog_88_method_1_code_6) ?_
  intro T3 h4 S5 W7 K6
  have P8 := Keep.trans (Keep.refl h0 [a1]) K6 (allS (Or.inl (List.mem_of_getElem? (i := 0) rfl)) all0)
  have f9 := Exa.keep E1 K6
  have f10 : Fld Z h4 a1 "com/example/pathweave/pathweave/routing/Pattern" "route" "I" (.int p2) := Fld.same W7 F_route
  have f11 := Fld.other W7 F_stops (Or.inr (slot_ne (a0 := a0) (C := "com/example/pathweave/pathweave/routing/Pattern") (Or.inr (hw _ (List.mem_of_getElem? (i := 14) rfl))) (Or.inr (hw _ (List.mem_of_getElem? (i := 12) rfl))) (by decide) (t := (.array .int)) (by decide) (t' := .int) (by decide)))
  have f12 := Fld.other W7 F_pickups (Or.inr (slot_ne (a0 := a0) (C := "com/example/pathweave/pathweave/routing/Pattern") (Or.inr (hw _ (List.mem_of_getElem? (i := 16) rfl))) (Or.inr (hw _ (List.mem_of_getElem? (i := 12) rfl))) (by decide) (t := (.array .boolean)) (by decide) (t' := .int) (by decide)))
  have f13 := Fld.other W7 F_dropOffs (Or.inr (slot_ne (a0 := a0) (C := "com/example/pathweave/pathweave/routing/Pattern") (Or.inr (hw _ (List.mem_of_getElem? (i := 18) rfl))) (Or.inr (hw _ (List.mem_of_getElem? (i := 12) rfl))) (by decide) (t := (.array .boolean)) (by decide) (t' := .int) (by decide)))
  have f14 := Fld.other W7 F_trips (Or.inr (slot_ne (a0 := a0) (C := "com/example/pathweave/pathweave/routing/Pattern") (Or.inr (hw _ (List.mem_of_getElem? (i := 20) rfl))) (Or.inr (hw _ (List.mem_of_getElem? (i := 12) rfl))) (by decide) (t := (.array .int)) (by decide) (t' := .int) (by decide)))
  have f15 := Fld.other W7 F_arrivals (Or.inr (slot_ne (a0 := a0) (C := "com/example/pathweave/pathweave/routing/Pattern") (Or.inr (hw _ (List.mem_of_getElem? (i := 22) rfl))) (Or.inr (hw _ (List.mem_of_getElem? (i := 12) rfl))) (by decide) (t := (.array .int)) (by decide) (t' := .int) (by decide)))
  have f16 := Fld.other W7 F_departures (Or.inr (slot_ne (a0 := a0) (C := "com/example/pathweave/pathweave/routing/Pattern") (Or.inr (hw _ (List.mem_of_getElem? (i := 24) rfl))) (Or.inr (hw _ (List.mem_of_getElem? (i := 12) rfl))) (by decide) (t := (.array .int)) (by decide) (t' := .int) (by decide)))
  show WGo _ _ _ _ _ _ _ _ T3 (mkF m 9 #[.val (.ref a1), .val (.int p2), .val (.ref r3), .val (.ref r4), .val (.ref r5), .val (.ref r6), .val (.ref r7), .val (.ref r8)] [])
  refine WGo.st (fun _ q => XS.aloadN S5.here hx rfl (hb hby d_prog_88_method_1_code_9) rfl rfl q) ?_
  show WGo _ _ _ _ _ _ _ _ T3 (mkF m 10 #[.val (.ref a1), .val (.int p2), .val (.ref r3), .val (.ref r4), .val (.ref r5), .val (.ref r6), .val (.ref r7), .val (.ref r8)] [(.ref a1)])
  refine WGo.st (fun _ q => XS.aloadN S5.here hx rfl (hb hby d_prog_88_method_1_code_10) rfl rfl q) ?_
  show WGo _ _ _ _ _ _ _ _ T3 (mkF m 11 #[.val (.ref a1), .val (.int p2), .val (.ref r3), .val (.ref r4), .val (.ref r5), .val (.ref r6), .val (.ref r7), .val (.ref r8)] [(.ref r3), (.ref a1)])
  refine w_putfield S5 hown (hw _ (List.mem_of_getElem? (i := 13) rfl)) Via.refl f11 f9 (Or.inr ⟨(hw _ (List.mem_of_getElem? (i := 14) rfl)), rfl, hnm⟩) (hw _ (List.mem_of_getElem? (i := 2) rfl)) g1 (ty := (.array .int)) (by decide) rfl rfl rfl rfl (hb hby d_prog_88_method_1_code_11) ?_
  intro T17 h18 S19 W21 K20
  have P22 := Keep.trans P8 K20 (allS (Or.inl (List.mem_of_getElem? (i := 0) rfl)) all0)
  have f23 := Exa.keep f9 K20
  have f24 := Fld.other W21 f10 (Or.inr (slot_ne (a0 := a0) (C := "com/example/pathweave/pathweave/routing/Pattern") (Or.inr (hw _ (List.mem_of_getElem? (i := 12) rfl))) (Or.inr (hw _ (List.mem_of_getElem? (i := 14) rfl))) (by decide) (t := .int) (by decide) (t' := (.array .int)) (by decide)))
  have f25 : Fld Z h18 a1 "com/example/pathweave/pathweave/routing/Pattern" "stops" "[I" (.ref r3) := Fld.same W21 f11
  have f26 := Fld.other W21 f12 (Or.inr (slot_ne (a0 := a0) (C := "com/example/pathweave/pathweave/routing/Pattern") (Or.inr (hw _ (List.mem_of_getElem? (i := 16) rfl))) (Or.inr (hw _ (List.mem_of_getElem? (i := 14) rfl))) (by decide) (t := (.array .boolean)) (by decide) (t' := (.array .int)) (by decide)))
  have f27 := Fld.other W21 f13 (Or.inr (slot_ne (a0 := a0) (C := "com/example/pathweave/pathweave/routing/Pattern") (Or.inr (hw _ (List.mem_of_getElem? (i := 18) rfl))) (Or.inr (hw _ (List.mem_of_getElem? (i := 14) rfl))) (by decide) (t := (.array .boolean)) (by decide) (t' := (.array .int)) (by decide)))
  have f28 := Fld.other W21 f14 (Or.inr (slot_ne (a0 := a0) (C := "com/example/pathweave/pathweave/routing/Pattern") (Or.inr (hw _ (List.mem_of_getElem? (i := 20) rfl))) (Or.inr (hw _ (List.mem_of_getElem? (i := 14) rfl))) (by decide) (t := (.array .int)) (by decide) (t' := (.array .int)) (by decide)))
  have f29 := Fld.other W21 f15 (Or.inr (slot_ne (a0 := a0) (C := "com/example/pathweave/pathweave/routing/Pattern") (Or.inr (hw _ (List.mem_of_getElem? (i := 22) rfl))) (Or.inr (hw _ (List.mem_of_getElem? (i := 14) rfl))) (by decide) (t := (.array .int)) (by decide) (t' := (.array .int)) (by decide)))
  have f30 := Fld.other W21 f16 (Or.inr (slot_ne (a0 := a0) (C := "com/example/pathweave/pathweave/routing/Pattern") (Or.inr (hw _ (List.mem_of_getElem? (i := 24) rfl))) (Or.inr (hw _ (List.mem_of_getElem? (i := 14) rfl))) (by decide) (t := (.array .int)) (by decide) (t' := (.array .int)) (by decide)))
  show WGo _ _ _ _ _ _ _ _ T17 (mkF m 14 #[.val (.ref a1), .val (.int p2), .val (.ref r3), .val (.ref r4), .val (.ref r5), .val (.ref r6), .val (.ref r7), .val (.ref r8)] [])
  refine WGo.st (fun _ q => XS.aloadN S19.here hx rfl (hb hby d_prog_88_method_1_code_14) rfl rfl q) ?_
  show WGo _ _ _ _ _ _ _ _ T17 (mkF m 15 #[.val (.ref a1), .val (.int p2), .val (.ref r3), .val (.ref r4), .val (.ref r5), .val (.ref r6), .val (.ref r7), .val (.ref r8)] [(.ref a1)])
  refine WGo.st (fun _ q => XS.aloadN S19.here hx rfl (hb hby d_prog_88_method_1_code_15) rfl rfl q) ?_
  show WGo _ _ _ _ _ _ _ _ T17 (mkF m 16 #[.val (.ref a1), .val (.int p2), .val (.ref r3), .val (.ref r4), .val (.ref r5), .val (.ref r6), .val (.ref r7), .val (.ref r8)] [(.ref r4), (.ref a1)])
  refine w_putfield S19 hown (hw _ (List.mem_of_getElem? (i := 15) rfl)) Via.refl f26 f23 (Or.inr ⟨(hw _ (List.mem_of_getElem? (i := 16) rfl)), rfl, hnm⟩) (hw _ (List.mem_of_getElem? (i := 2) rfl)) g1 (ty := (.array .boolean)) (by decide) rfl rfl rfl rfl (hb hby d_prog_88_method_1_code_16) ?_
  intro T31 h32 S33 W35 K34
  have P36 := Keep.trans P22 K34 (allS (Or.inl (List.mem_of_getElem? (i := 0) rfl)) all0)
  have f37 := Exa.keep f23 K34
  have f38 := Fld.other W35 f24 (Or.inr (slot_ne (a0 := a0) (C := "com/example/pathweave/pathweave/routing/Pattern") (Or.inr (hw _ (List.mem_of_getElem? (i := 12) rfl))) (Or.inr (hw _ (List.mem_of_getElem? (i := 16) rfl))) (by decide) (t := .int) (by decide) (t' := (.array .boolean)) (by decide)))
  have f39 := Fld.other W35 f25 (Or.inr (slot_ne (a0 := a0) (C := "com/example/pathweave/pathweave/routing/Pattern") (Or.inr (hw _ (List.mem_of_getElem? (i := 14) rfl))) (Or.inr (hw _ (List.mem_of_getElem? (i := 16) rfl))) (by decide) (t := (.array .int)) (by decide) (t' := (.array .boolean)) (by decide)))
  have f40 : Fld Z h32 a1 "com/example/pathweave/pathweave/routing/Pattern" "pickups" "[Z" (.ref r4) := Fld.same W35 f26
  have f41 := Fld.other W35 f27 (Or.inr (slot_ne (a0 := a0) (C := "com/example/pathweave/pathweave/routing/Pattern") (Or.inr (hw _ (List.mem_of_getElem? (i := 18) rfl))) (Or.inr (hw _ (List.mem_of_getElem? (i := 16) rfl))) (by decide) (t := (.array .boolean)) (by decide) (t' := (.array .boolean)) (by decide)))
  have f42 := Fld.other W35 f28 (Or.inr (slot_ne (a0 := a0) (C := "com/example/pathweave/pathweave/routing/Pattern") (Or.inr (hw _ (List.mem_of_getElem? (i := 20) rfl))) (Or.inr (hw _ (List.mem_of_getElem? (i := 16) rfl))) (by decide) (t := (.array .int)) (by decide) (t' := (.array .boolean)) (by decide)))
  have f43 := Fld.other W35 f29 (Or.inr (slot_ne (a0 := a0) (C := "com/example/pathweave/pathweave/routing/Pattern") (Or.inr (hw _ (List.mem_of_getElem? (i := 22) rfl))) (Or.inr (hw _ (List.mem_of_getElem? (i := 16) rfl))) (by decide) (t := (.array .int)) (by decide) (t' := (.array .boolean)) (by decide)))
  have f44 := Fld.other W35 f30 (Or.inr (slot_ne (a0 := a0) (C := "com/example/pathweave/pathweave/routing/Pattern") (Or.inr (hw _ (List.mem_of_getElem? (i := 24) rfl))) (Or.inr (hw _ (List.mem_of_getElem? (i := 16) rfl))) (by decide) (t := (.array .int)) (by decide) (t' := (.array .boolean)) (by decide)))
  show WGo _ _ _ _ _ _ _ _ T31 (mkF m 19 #[.val (.ref a1), .val (.int p2), .val (.ref r3), .val (.ref r4), .val (.ref r5), .val (.ref r6), .val (.ref r7), .val (.ref r8)] [])
  refine WGo.st (fun _ q => XS.aloadN S33.here hx rfl (hb hby d_prog_88_method_1_code_19) rfl rfl q) ?_
  show WGo _ _ _ _ _ _ _ _ T31 (mkF m 20 #[.val (.ref a1), .val (.int p2), .val (.ref r3), .val (.ref r4), .val (.ref r5), .val (.ref r6), .val (.ref r7), .val (.ref r8)] [(.ref a1)])
  refine WGo.st (fun _ q => XS.aload S33.here hx rfl (hb hby d_prog_88_method_1_code_20) rfl rfl q) ?_
  show WGo _ _ _ _ _ _ _ _ T31 (mkF m 22 #[.val (.ref a1), .val (.int p2), .val (.ref r3), .val (.ref r4), .val (.ref r5), .val (.ref r6), .val (.ref r7), .val (.ref r8)] [(.ref r5), (.ref a1)])
  refine w_putfield S33 hown (hw _ (List.mem_of_getElem? (i := 17) rfl)) Via.refl f41 f37 (Or.inr ⟨(hw _ (List.mem_of_getElem? (i := 18) rfl)), rfl, hnm⟩) (hw _ (List.mem_of_getElem? (i := 2) rfl)) g1 (ty := (.array .boolean)) (by decide) rfl rfl rfl rfl (hb hby d_prog_88_method_1_code_22) ?_
  intro T45 h46 S47 W49 K48
  have P50 := Keep.trans P36 K48 (allS (Or.inl (List.mem_of_getElem? (i := 0) rfl)) all0)
  have f51 := Exa.keep f37 K48
  have f52 := Fld.other W49 f38 (Or.inr (slot_ne (a0 := a0) (C := "com/example/pathweave/pathweave/routing/Pattern") (Or.inr (hw _ (List.mem_of_getElem? (i := 12) rfl))) (Or.inr (hw _ (List.mem_of_getElem? (i := 18) rfl))) (by decide) (t := .int) (by decide) (t' := (.array .boolean)) (by decide)))
  have f53 := Fld.other W49 f39 (Or.inr (slot_ne (a0 := a0) (C := "com/example/pathweave/pathweave/routing/Pattern") (Or.inr (hw _ (List.mem_of_getElem? (i := 14) rfl))) (Or.inr (hw _ (List.mem_of_getElem? (i := 18) rfl))) (by decide) (t := (.array .int)) (by decide) (t' := (.array .boolean)) (by decide)))
  have f54 := Fld.other W49 f40 (Or.inr (slot_ne (a0 := a0) (C := "com/example/pathweave/pathweave/routing/Pattern") (Or.inr (hw _ (List.mem_of_getElem? (i := 16) rfl))) (Or.inr (hw _ (List.mem_of_getElem? (i := 18) rfl))) (by decide) (t := (.array .boolean)) (by decide) (t' := (.array .boolean)) (by decide)))
  have f55 : Fld Z h46 a1 "com/example/pathweave/pathweave/routing/Pattern" "dropOffs" "[Z" (.ref r5) := Fld.same W49 f41
  have f56 := Fld.other W49 f42 (Or.inr (slot_ne (a0 := a0) (C := "com/example/pathweave/pathweave/routing/Pattern") (Or.inr (hw _ (List.mem_of_getElem? (i := 20) rfl))) (Or.inr (hw _ (List.mem_of_getElem? (i := 18) rfl))) (by decide) (t := (.array .int)) (by decide) (t' := (.array .boolean)) (by decide)))
  have f57 := Fld.other W49 f43 (Or.inr (slot_ne (a0 := a0) (C := "com/example/pathweave/pathweave/routing/Pattern") (Or.inr (hw _ (List.mem_of_getElem? (i := 22) rfl))) (Or.inr (hw _ (List.mem_of_getElem? (i := 18) rfl))) (by decide) (t := (.array .int)) (by decide) (t' := (.array .boolean)) (by decide)))
  have f58 := Fld.other W49 f44 (Or.inr (slot_ne (a0 := a0) (C := "com/example/pathweave/pathweave/routing/Pattern") (Or.inr (hw _ (List.mem_of_getElem? (i := 24) rfl))) (Or.inr (hw _ (List.mem_of_getElem? (i := 18) rfl))) (by decide) (t := (.array .int)) (by decide) (t' := (.array .boolean)) (by decide)))
  show WGo _ _ _ _ _ _ _ _ T45 (mkF m 25 #[.val (.ref a1), .val (.int p2), .val (.ref r3), .val (.ref r4), .val (.ref r5), .val (.ref r6), .val (.ref r7), .val (.ref r8)] [])
  refine WGo.st (fun _ q => XS.aloadN S47.here hx rfl (hb hby d_prog_88_method_1_code_25) rfl rfl q) ?_
  show WGo _ _ _ _ _ _ _ _ T45 (mkF m 26 #[.val (.ref a1), .val (.int p2), .val (.ref r3), .val (.ref r4), .val (.ref r5), .val (.ref r6), .val (.ref r7), .val (.ref r8)] [(.ref a1)])
  refine WGo.st (fun _ q => XS.aload S47.here hx rfl (hb hby d_prog_88_method_1_code_26) rfl rfl q) ?_
  show WGo _ _ _ _ _ _ _ _ T45 (mkF m 28 #[.val (.ref a1), .val (.int p2), .val (.ref r3), .val (.ref r4), .val (.ref r5), .val (.ref r6), .val (.ref r7), .val (.ref r8)] [(.ref r6), (.ref a1)])
  refine w_putfield S47 hown (hw _ (List.mem_of_getElem? (i := 19) rfl)) Via.refl f56 f51 (Or.inr ⟨(hw _ (List.mem_of_getElem? (i := 20) rfl)), rfl, hnm⟩) (hw _ (List.mem_of_getElem? (i := 2) rfl)) g1 (ty := (.array .int)) (by decide) rfl rfl rfl rfl (hb hby d_prog_88_method_1_code_28) ?_
  intro T59 h60 S61 W63 K62
  have P64 := Keep.trans P50 K62 (allS (Or.inl (List.mem_of_getElem? (i := 0) rfl)) all0)
  have f65 := Exa.keep f51 K62
  have f66 := Fld.other W63 f52 (Or.inr (slot_ne (a0 := a0) (C := "com/example/pathweave/pathweave/routing/Pattern") (Or.inr (hw _ (List.mem_of_getElem? (i := 12) rfl))) (Or.inr (hw _ (List.mem_of_getElem? (i := 20) rfl))) (by decide) (t := .int) (by decide) (t' := (.array .int)) (by decide)))
  have f67 := Fld.other W63 f53 (Or.inr (slot_ne (a0 := a0) (C := "com/example/pathweave/pathweave/routing/Pattern") (Or.inr (hw _ (List.mem_of_getElem? (i := 14) rfl))) (Or.inr (hw _ (List.mem_of_getElem? (i := 20) rfl))) (by decide) (t := (.array .int)) (by decide) (t' := (.array .int)) (by decide)))
  have f68 := Fld.other W63 f54 (Or.inr (slot_ne (a0 := a0) (C := "com/example/pathweave/pathweave/routing/Pattern") (Or.inr (hw _ (List.mem_of_getElem? (i := 16) rfl))) (Or.inr (hw _ (List.mem_of_getElem? (i := 20) rfl))) (by decide) (t := (.array .boolean)) (by decide) (t' := (.array .int)) (by decide)))
  have f69 := Fld.other W63 f55 (Or.inr (slot_ne (a0 := a0) (C := "com/example/pathweave/pathweave/routing/Pattern") (Or.inr (hw _ (List.mem_of_getElem? (i := 18) rfl))) (Or.inr (hw _ (List.mem_of_getElem? (i := 20) rfl))) (by decide) (t := (.array .boolean)) (by decide) (t' := (.array .int)) (by decide)))
  have f70 : Fld Z h60 a1 "com/example/pathweave/pathweave/routing/Pattern" "trips" "[I" (.ref r6) := Fld.same W63 f56
  have f71 := Fld.other W63 f57 (Or.inr (slot_ne (a0 := a0) (C := "com/example/pathweave/pathweave/routing/Pattern") (Or.inr (hw _ (List.mem_of_getElem? (i := 22) rfl))) (Or.inr (hw _ (List.mem_of_getElem? (i := 20) rfl))) (by decide) (t := (.array .int)) (by decide) (t' := (.array .int)) (by decide)))
  have f72 := Fld.other W63 f58 (Or.inr (slot_ne (a0 := a0) (C := "com/example/pathweave/pathweave/routing/Pattern") (Or.inr (hw _ (List.mem_of_getElem? (i := 24) rfl))) (Or.inr (hw _ (List.mem_of_getElem? (i := 20) rfl))) (by decide) (t := (.array .int)) (by decide) (t' := (.array .int)) (by decide)))
  show WGo _ _ _ _ _ _ _ _ T59 (mkF m 31 #[.val (.ref a1), .val (.int p2), .val (.ref r3), .val (.ref r4), .val (.ref r5), .val (.ref r6), .val (.ref r7), .val (.ref r8)] [])
  refine WGo.st (fun _ q => XS.aloadN S61.here hx rfl (hb hby d_prog_88_method_1_code_31) rfl rfl q) ?_
  show WGo _ _ _ _ _ _ _ _ T59 (mkF m 32 #[.val (.ref a1), .val (.int p2), .val (.ref r3), .val (.ref r4), .val (.ref r5), .val (.ref r6), .val (.ref r7), .val (.ref r8)] [(.ref a1)])
  refine WGo.st (fun _ q => XS.aload S61.here hx rfl (hb hby d_prog_88_method_1_code_32) rfl rfl q) ?_
  show WGo _ _ _ _ _ _ _ _ T59 (mkF m 34 #[.val (.ref a1), .val (.int p2), .val (.ref r3), .val (.ref r4), .val (.ref r5), .val (.ref r6), .val (.ref r7), .val (.ref r8)] [(.ref r7), (.ref a1)])
  refine w_putfield S61 hown (hw _ (List.mem_of_getElem? (i := 21) rfl)) Via.refl f71 f65 (Or.inr ⟨(hw _ (List.mem_of_getElem? (i := 22) rfl)), rfl, hnm⟩) (hw _ (List.mem_of_getElem? (i := 2) rfl)) g1 (ty := (.array .int)) (by decide) rfl rfl rfl rfl (hb hby d_prog_88_method_1_code_34) ?_
  intro T73 h74 S75 W77 K76
  have P78 := Keep.trans P64 K76 (allS (Or.inl (List.mem_of_getElem? (i := 0) rfl)) all0)
  have f79 := Exa.keep f65 K76
  have f80 := Fld.other W77 f66 (Or.inr (slot_ne (a0 := a0) (C := "com/example/pathweave/pathweave/routing/Pattern") (Or.inr (hw _ (List.mem_of_getElem? (i := 12) rfl))) (Or.inr (hw _ (List.mem_of_getElem? (i := 22) rfl))) (by decide) (t := .int) (by decide) (t' := (.array .int)) (by decide)))
  have f81 := Fld.other W77 f67 (Or.inr (slot_ne (a0 := a0) (C := "com/example/pathweave/pathweave/routing/Pattern") (Or.inr (hw _ (List.mem_of_getElem? (i := 14) rfl))) (Or.inr (hw _ (List.mem_of_getElem? (i := 22) rfl))) (by decide) (t := (.array .int)) (by decide) (t' := (.array .int)) (by decide)))
  have f82 := Fld.other W77 f68 (Or.inr (slot_ne (a0 := a0) (C := "com/example/pathweave/pathweave/routing/Pattern") (Or.inr (hw _ (List.mem_of_getElem? (i := 16) rfl))) (Or.inr (hw _ (List.mem_of_getElem? (i := 22) rfl))) (by decide) (t := (.array .boolean)) (by decide) (t' := (.array .int)) (by decide)))
  have f83 := Fld.other W77 f69 (Or.inr (slot_ne (a0 := a0) (C := "com/example/pathweave/pathweave/routing/Pattern") (Or.inr (hw _ (List.mem_of_getElem? (i := 18) rfl))) (Or.inr (hw _ (List.mem_of_getElem? (i := 22) rfl))) (by decide) (t := (.array .boolean)) (by decide) (t' := (.array .int)) (by decide)))
  have f84 := Fld.other W77 f70 (Or.inr (slot_ne (a0 := a0) (C := "com/example/pathweave/pathweave/routing/Pattern") (Or.inr (hw _ (List.mem_of_getElem? (i := 20) rfl))) (Or.inr (hw _ (List.mem_of_getElem? (i := 22) rfl))) (by decide) (t := (.array .int)) (by decide) (t' := (.array .int)) (by decide)))
  have f85 : Fld Z h74 a1 "com/example/pathweave/pathweave/routing/Pattern" "arrivals" "[I" (.ref r7) := Fld.same W77 f71
  have f86 := Fld.other W77 f72 (Or.inr (slot_ne (a0 := a0) (C := "com/example/pathweave/pathweave/routing/Pattern") (Or.inr (hw _ (List.mem_of_getElem? (i := 24) rfl))) (Or.inr (hw _ (List.mem_of_getElem? (i := 22) rfl))) (by decide) (t := (.array .int)) (by decide) (t' := (.array .int)) (by decide)))
  show WGo _ _ _ _ _ _ _ _ T73 (mkF m 37 #[.val (.ref a1), .val (.int p2), .val (.ref r3), .val (.ref r4), .val (.ref r5), .val (.ref r6), .val (.ref r7), .val (.ref r8)] [])
  refine WGo.st (fun _ q => XS.aloadN S75.here hx rfl (hb hby d_prog_88_method_1_code_37) rfl rfl q) ?_
  show WGo _ _ _ _ _ _ _ _ T73 (mkF m 38 #[.val (.ref a1), .val (.int p2), .val (.ref r3), .val (.ref r4), .val (.ref r5), .val (.ref r6), .val (.ref r7), .val (.ref r8)] [(.ref a1)])
  refine WGo.st (fun _ q => XS.aload S75.here hx rfl (hb hby d_prog_88_method_1_code_38) rfl rfl q) ?_
  show WGo _ _ _ _ _ _ _ _ T73 (mkF m 40 #[.val (.ref a1), .val (.int p2), .val (.ref r3), .val (.ref r4), .val (.ref r5), .val (.ref r6), .val (.ref r7), .val (.ref r8)] [(.ref r8), (.ref a1)])
  refine w_putfield S75 hown (hw _ (List.mem_of_getElem? (i := 23) rfl)) Via.refl f86 f79 (Or.inr ⟨(hw _ (List.mem_of_getElem? (i := 24) rfl)), rfl, hnm⟩) (hw _ (List.mem_of_getElem? (i := 2) rfl)) g1 (ty := (.array .int)) (by decide) rfl rfl rfl rfl (hb hby d_prog_88_method_1_code_40) ?_
  intro T87 h88 S89 W91 K90
  have P92 := Keep.trans P78 K90 (allS (Or.inl (List.mem_of_getElem? (i := 0) rfl)) all0)
  have f93 := Exa.keep f79 K90
  have f94 := Fld.other W91 f80 (Or.inr (slot_ne (a0 := a0) (C := "com/example/pathweave/pathweave/routing/Pattern") (Or.inr (hw _ (List.mem_of_getElem? (i := 12) rfl))) (Or.inr (hw _ (List.mem_of_getElem? (i := 24) rfl))) (by decide) (t := .int) (by decide) (t' := (.array .int)) (by decide)))
  have f95 := Fld.other W91 f81 (Or.inr (slot_ne (a0 := a0) (C := "com/example/pathweave/pathweave/routing/Pattern") (Or.inr (hw _ (List.mem_of_getElem? (i := 14) rfl))) (Or.inr (hw _ (List.mem_of_getElem? (i := 24) rfl))) (by decide) (t := (.array .int)) (by decide) (t' := (.array .int)) (by decide)))
  have f96 := Fld.other W91 f82 (Or.inr (slot_ne (a0 := a0) (C := "com/example/pathweave/pathweave/routing/Pattern") (Or.inr (hw _ (List.mem_of_getElem? (i := 16) rfl))) (Or.inr (hw _ (List.mem_of_getElem? (i := 24) rfl))) (by decide) (t := (.array .boolean)) (by decide) (t' := (.array .int)) (by decide)))
  have f97 := Fld.other W91 f83 (Or.inr (slot_ne (a0 := a0) (C := "com/example/pathweave/pathweave/routing/Pattern") (Or.inr (hw _ (List.mem_of_getElem? (i := 18) rfl))) (Or.inr (hw _ (List.mem_of_getElem? (i := 24) rfl))) (by decide) (t := (.array .boolean)) (by decide) (t' := (.array .int)) (by decide)))
  have f98 := Fld.other W91 f84 (Or.inr (slot_ne (a0 := a0) (C := "com/example/pathweave/pathweave/routing/Pattern") (Or.inr (hw _ (List.mem_of_getElem? (i := 20) rfl))) (Or.inr (hw _ (List.mem_of_getElem? (i := 24) rfl))) (by decide) (t := (.array .int)) (by decide) (t' := (.array .int)) (by decide)))
  have f99 := Fld.other W91 f85 (Or.inr (slot_ne (a0 := a0) (C := "com/example/pathweave/pathweave/routing/Pattern") (Or.inr (hw _ (List.mem_of_getElem? (i := 22) rfl))) (Or.inr (hw _ (List.mem_of_getElem? (i := 24) rfl))) (by decide) (t := (.array .int)) (by decide) (t' := (.array .int)) (by decide)))
  have f100 : Fld Z h88 a1 "com/example/pathweave/pathweave/routing/Pattern" "departures" "[I" (.ref r8) := Fld.same W91 f86
  show WGo _ _ _ _ _ _ _ _ T87 (mkF m 43 #[.val (.ref a1), .val (.int p2), .val (.ref r3), .val (.ref r4), .val (.ref r5), .val (.ref r6), .val (.ref r7), .val (.ref r8)] [])
  refine w_retV S89 hret (hb hby d_prog_88_method_1_code_43) (by decide) (by decide) ?_
  exact ⟨rfl, P92, f93, f95, f97, f99⟩
theorem d_prog_88_method_10_code_0 : decode prog_88_method_10_code 0 = .ok (.aload_n 0, 1) := by decide +kernel
theorem d_prog_88_method_10_code_1 : decode prog_88_method_10_code 1 = .ok (.getfield 27, 3) := by decide +kernel
theorem d_prog_88_method_10_code_4 : decode prog_88_method_10_code 4 = .ok (.iload_n 1, 1) := by decide +kernel
theorem d_prog_88_method_10_code_5 : decode prog_88_method_10_code 5 = .ok (.aload_n 0, 1) := by decide +kernel
theorem d_prog_88_method_10_code_6 : decode prog_88_method_10_code 6 = .ok (.getfield 13, 3) := by decide +kernel
theorem d_prog_88_method_10_code_9 : decode prog_88_method_10_code 9 = .ok (.arraylength, 1) := by decide +kernel
theorem d_prog_88_method_10_code_10 : decode prog_88_method_10_code 10 = .ok (.imul, 1) := by decide +kernel
theorem d_prog_88_method_10_code_11 : decode prog_88_method_10_code 11 = .ok (.iload_n 2, 1) := by decide +kernel
theorem d_prog_88_method_10_code_12 : decode prog_88_method_10_code 12 = .ok (.iadd, 1) := by decide +kernel
theorem d_prog_88_method_10_code_13 : decode prog_88_method_10_code 13 = .ok (.iaload, 1) := by decide +kernel
theorem d_prog_88_method_10_code_14 : decode prog_88_method_10_code 14 = .ok (.ireturn, 1) := by decide +kernel
def QAr (Z : State) (n0 : Nat) (h0 : Heap) (a1 : Addr) (p2 : Int32) (p3 : Int32) (aS : Addr) (aA : Addr) (LS : List Int32) (LA : List Int32) (z : Int32) (v : Option Value) (h : Heap) : Prop := v = some (.int (gi LA ((p2 * z) + p3))) ∧ h = h0
theorem ef_Ar (m : MethodId) (a1 : Addr) (p2 : Int32) (p3 : Int32) : entryFrame m #[(.ref a1), (.int p2), (.int p3)] 3 = mkF m 0 #[.val (.ref a1), .val (.int p2), .val (.int p3)] [] := by first | (simp [entryFrame, mkF, argsToLocals, Value.category, maxLocals]; done) | rfl
set_option maxRecDepth 65536 in
set_option maxHeartbeats 40000000 in
theorem rm_Ar (l : Launch) (Z : State) (a0 : Array Value) (hw : ∀ d ∈ tables_1, d.before a0 Z = true) (n0 : Nat) (h0 : Heap) (a1 : Addr) (p2 : Int32) (p3 : Int32) (aS : Addr) (aA : Addr) (LS : List Int32) (LA : List Int32) (z : Int32) (Z0 : n0 ≤ h0.size) (FS : Fld Z h0 a1 "com/example/pathweave/pathweave/routing/Pattern" "stops" "[I" (.ref aS)) (FA : Fld Z h0 a1 "com/example/pathweave/pathweave/routing/Pattern" "arrivals" "[I" (.ref aA)) (AS : AI Z h0 aS .int LS) (AA : AI Z h0 aA .int LA) (hz : LS.length.toInt32 = z) (b0 : 0 ≤ ((p2 * z) + p3).toInt) (b1 : ((p2 * z) + p3).toInt < LA.length) :
    WCon l Z n0 h0 (⟨"com/example/pathweave/pathweave/routing/Pattern", "arrival", "(II)I"⟩ : MethodName) prog_88_method_10_code 3 (some .int) [] ({ frames := 0, cells := 0, slots := 0, locals := 0 } : Room) #[(.ref a1), (.int p2), (.int p3)] (QAr Z n0 h0 a1 p2 p3 aS aA LS LA z) := by
  refine WCon.of (by first | exact plainFor_of_name (by decide +kernel) | decide +kernel) Z0 ?_
  intro p e s m below meth c T hx hZ hby hml hown hnm hret S
  refine WGo.cast (ef_Ar m a1 p2 p3) ?_
  show WGo _ _ _ _ _ _ _ _ T (mkF m 0 #[.val (.ref a1), .val (.int p2), .val (.int p3)] [])
  refine WGo.st (fun _ q => XS.aloadN S.here hx rfl (hb hby d_prog_88_method_10_code_0) rfl rfl q) ?_
  show WGo _ _ _ _ _ _ _ _ T (mkF m 1 #[.val (.ref a1), .val (.int p2), .val (.int p3)] [(.ref a1)])
  refine w_getfield S hown (hw _ (List.mem_of_getElem? (i := 21) rfl)) Via.refl FA rfl rfl (hb hby d_prog_88_method_10_code_1) ?_
  intro T1 S2
  show WGo _ _ _ _ _ _ _ _ T1 (mkF m 4 #[.val (.ref a1), .val (.int p2), .val (.int p3)] [(.ref aA)])
  refine WGo.st (fun _ q => XS.iloadN S2.here hx rfl (hb hby d_prog_88_method_10_code_4) rfl q) ?_
  show WGo _ _ _ _ _ _ _ _ T1 (mkF m 5 #[.val (.ref a1), .val (.int p2), .val (.int p3)] [(.int p2), (.ref aA)])
  refine WGo.st (fun _ q => XS.aloadN S2.here hx rfl (hb hby d_prog_88_method_10_code_5) rfl rfl q) ?_
  show WGo _ _ _ _ _ _ _ _ T1 (mkF m 6 #[.val (.ref a1), .val (.int p2), .val (.int p3)] [(.ref a1), (.int p2), (.ref aA)])
  refine w_getfield S2 hown (hw _ (List.mem_of_getElem? (i := 13) rfl)) Via.refl FS rfl rfl (hb hby d_prog_88_method_10_code_6) ?_
  intro T3 S4
  show WGo _ _ _ _ _ _ _ _ T3 (mkF m 9 #[.val (.ref a1), .val (.int p2), .val (.int p3)] [(.ref aS), (.int p2), (.ref aA)])
  refine w_arraylength S4 AS rfl (hb hby d_prog_88_method_10_code_9) rfl (z := z) hz ?_
  show WGo _ _ _ _ _ _ _ _ T3 (mkF m 10 #[.val (.ref a1), .val (.int p2), .val (.int p3)] [(.int z), (.int p2), (.ref aA)])
  refine WGo.st (fun _ q => XS.imul S4.here hx rfl (hb hby d_prog_88_method_10_code_10) rfl q) ?_
  show WGo _ _ _ _ _ _ _ _ T3 (mkF m 11 #[.val (.ref a1), .val (.int p2), .val (.int p3)] [(.int (p2 * z)), (.ref aA)])
  refine WGo.st (fun _ q => XS.iloadN S4.here hx rfl (hb hby d_prog_88_method_10_code_11) rfl q) ?_
  show WGo _ _ _ _ _ _ _ _ T3 (mkF m 12 #[.val (.ref a1), .val (.int p2), .val (.int p3)] [(.int p3), (.int (p2 * z)), (.ref aA)])
  refine WGo.st (fun _ q => XS.iadd S4.here hx rfl (hb hby d_prog_88_method_10_code_12) rfl q) ?_
  show WGo _ _ _ _ _ _ _ _ T3 (mkF m 13 #[.val (.ref a1), .val (.int p2), .val (.int p3)] [(.int ((p2 * z) + p3)), (.ref aA)])
  refine w_iaload S4 AA rfl (hb hby d_prog_88_method_10_code_13) rfl b0 b1 rfl ?_
  show WGo _ _ _ _ _ _ _ _ T3 (mkF m 14 #[.val (.ref a1), .val (.int p2), .val (.int p3)] [(.int (gi LA ((p2 * z) + p3)))])
  refine w_retI S4 hret (hb hby d_prog_88_method_10_code_14) (by decide) (by decide) ?_
  exact ⟨rfl, rfl⟩
def Q0 (Z : State) (n0 : Nat) (h0 : Heap) (p1 : Int64) (p2 : Int64) (p3 : Int32) (p4 : Int32) (p5 : Int32) (v : Option Value) (h : Heap) : Prop := v = some (.int 1)
theorem ef_0 (m : MethodId) (p1 : Int64) (p2 : Int64) (p3 : Int32) (p4 : Int32) (p5 : Int32) : entryFrame m #[(.long p1), (.long p2), (.int p3), (.int p4), (.int p5)] maxLocals = mkF m 0 #[.val (.long p1), .second, .val (.long p2), .second, .val (.int p3), .val (.int p4), .val (.int p5), .unset, .unset, .unset, .unset, .unset, .unset, .unset, .unset, .unset, .unset, .unset, .unset, .unset] [] := by first | (simp [entryFrame, mkF, argsToLocals, Value.category, maxLocals]; done) | rfl
set_option maxRecDepth 65536 in
set_option maxHeartbeats 40000000 in
theorem rm_0 (l : Launch) (Z : State) (a0 : Array Value) (hw : ∀ d ∈ tables_1, d.before a0 Z = true) (n0 : Nat) (h0 : Heap) (p1 : Int64) (p2 : Int64) (p3 : Int32) (p4 : Int32) (p5 : Int32) (Z0 : n0 ≤ h0.size)  :
    WCon l Z n0 h0 x code maxLocals ret tables_1 room_1 #[(.long p1), (.long p2), (.int p3), (.int p4), (.int p5)] (Q0 Z n0 h0 p1 p2 p3 p4 p5) := by
  refine WCon.of (by first | exact plainFor_of_name (by decide +kernel) | decide +kernel) Z0 ?_
  intro p e s m below meth c T hx hZ hby hml hown hnm hret S
  refine WGo.cast (ef_0 m p1 p2 p3 p4 p5) ?_
  show WGo _ _ _ _ _ _ _ _ T (mkF m 0 #[.val (.long p1), .second, .val (.long p2), .second, .val (.int p3), .val (.int p4), .val (.int p5), .unset, .unset, .unset, .unset, .unset, .unset, .unset, .unset, .unset, .unset, .unset, .unset, .unset] [])
  refine WGo.st (fun _ q => XS.lloadN S.here hx rfl (hb hby at_0) rfl q) ?_
  show WGo _ _ _ _ _ _ _ _ T (mkF m 1 #[.val (.long p1), .second, .val (.long p2), .second, .val (.int p3), .val (.int p4), .val (.int p5), .unset, .unset, .unset, .unset, .unset, .unset, .unset, .unset, .unset, .unset, .unset, .unset, .unset] [(.long p1)])
  refine WGo.st (fun _ q => XS.l2i S.here hx rfl (hb hby at_1) rfl q) ?_
  show WGo _ _ _ _ _ _ _ _ T (mkF m 2 #[.val (.long p1), .second, .val (.long p2), .second, .val (.int p3), .val (.int p4), .val (.int p5), .unset, .unset, .unset, .unset, .unset, .unset, .unset, .unset, .unset, .unset, .unset, .unset, .unset] [(.int (p1.toInt32))])
  refine WGo.st (fun _ q => XS.istore S.here hx rfl (hb hby at_2) rfl (l' := #[.val (.long p1), .second, .val (.long p2), .second, .val (.int p3), .val (.int p4), .val (.int p5), .val (.int (p1.toInt32)), .unset, .unset, .unset, .unset, .unset, .unset, .unset, .unset, .unset, .unset, .unset, .unset]) rfl q) ?_
  show WGo _ _ _ _ _ _ _ _ T (mkF m 4 #[.val (.long p1), .second, .val (.long p2), .second, .val (.int p3), .val (.int p4), .val (.int p5), .val (.int (p1.toInt32)), .unset, .unset, .unset, .unset, .unset, .unset, .unset, .unset, .unset, .unset, .unset, .unset] [])
  generalize hv2 : (p1.toInt32) = v2
  show WGo _ _ _ _ _ _ _ _ T (mkF m 4 #[.val (.long p1), .second, .val (.long p2), .second, .val (.int p3), .val (.int p4), .val (.int p5), .val (.int v2), .unset, .unset, .unset, .unset, .unset, .unset, .unset, .unset, .unset, .unset, .unset, .unset] [])
  refine WGo.st (fun _ q => XS.lloadN S.here hx rfl (hb hby at_4) rfl q) ?_
  show WGo _ _ _ _ _ _ _ _ T (mkF m 5 #[.val (.long p1), .second, .val (.long p2), .second, .val (.int p3), .val (.int p4), .val (.int p5), .val (.int v2), .unset, .unset, .unset, .unset, .unset, .unset, .unset, .unset, .unset, .unset, .unset, .unset] [(.long p1)])
  refine WGo.st (fun _ q => XS.bipush S.here hx rfl (hb hby at_5) q) ?_
  show WGo _ _ _ _ _ _ _ _ T (mkF m 7 #[.val (.long p1), .second, .val (.long p2), .second, .val (.int p3), .val (.int p4), .val (.int p5), .val (.int v2), .unset, .unset, .unset, .unset, .unset, .unset, .unset, .unset, .unset, .unset, .unset, .unset] [(.int (32 : Int32)), (.long p1)])
  refine WGo.st (fun _ q => XS.lushr S.here hx rfl (hb hby at_7) rfl q) ?_
  show WGo _ _ _ _ _ _ _ _ T (mkF m 8 #[.val (.long p1), .second, .val (.long p2), .second, .val (.int p3), .val (.int p4), .val (.int p5), .val (.int v2), .unset, .unset, .unset, .unset, .unset, .unset, .unset, .unset, .unset, .unset, .unset, .unset] [(.long ((p1.toUInt64 >>> ((32 : Int32) &&& 0x3f).toInt64.toUInt64).toInt64))])
  refine WGo.st (fun _ q => XS.l2i S.here hx rfl (hb hby at_8) rfl q) ?_
  show WGo _ _ _ _ _ _ _ _ T (mkF m 9 #[.val (.long p1), .second, .val (.long p2), .second, .val (.int p3), .val (.int p4), .val (.int p5), .val (.int v2), .unset, .unset, .unset, .unset, .unset, .unset, .unset, .unset, .unset, .unset, .unset, .unset] [(.int (((p1.toUInt64 >>> ((32 : Int32) &&& 0x3f).toInt64.toUInt64).toInt64).toInt32))])
  refine WGo.st (fun _ q => XS.istore S.here hx rfl (hb hby at_9) rfl (l' := #[.val (.long p1), .second, .val (.long p2), .second, .val (.int p3), .val (.int p4), .val (.int p5), .val (.int v2), .val (.int (((p1.toUInt64 >>> ((32 : Int32) &&& 0x3f).toInt64.toUInt64).toInt64).toInt32)), .unset, .unset, .unset, .unset, .unset, .unset, .unset, .unset, .unset, .unset, .unset]) rfl q) ?_
  show WGo _ _ _ _ _ _ _ _ T (mkF m 11 #[.val (.long p1), .second, .val (.long p2), .second, .val (.int p3), .val (.int p4), .val (.int p5), .val (.int v2), .val (.int (((p1.toUInt64 >>> ((32 : Int32) &&& 0x3f).toInt64.toUInt64).toInt64).toInt32)), .unset, .unset, .unset, .unset, .unset, .unset, .unset, .unset, .unset, .unset, .unset] [])
  generalize hv9 : (((p1.toUInt64 >>> ((32 : Int32) &&& 0x3f).toInt64.toUInt64).toInt64).toInt32) = v9
  show WGo _ _ _ _ _ _ _ _ T (mkF m 11 #[.val (.long p1), .second, .val (.long p2), .second, .val (.int p3), .val (.int p4), .val (.int p5), .val (.int v2), .val (.int v9), .unset, .unset, .unset, .unset, .unset, .unset, .unset, .unset, .unset, .unset, .unset] [])
  refine WGo.st (fun _ q => XS.lloadN S.here hx rfl (hb hby at_11) rfl q) ?_
  show WGo _ _ _ _ _ _ _ _ T (mkF m 12 #[.val (.long p1), .second, .val (.long p2), .second, .val (.int p3), .val (.int p4), .val (.int p5), .val (.int v2), .val (.int v9), .unset, .unset, .unset, .unset, .unset, .unset, .unset, .unset, .unset, .unset, .unset] [(.long p2)])
  refine WGo.st (fun _ q => XS.l2i S.here hx rfl (hb hby at_12) rfl q) ?_
  show WGo _ _ _ _ _ _ _ _ T (mkF m 13 #[.val (.long p1), .second, .val (.long p2), .second, .val (.int p3), .val (.int p4), .val (.int p5), .val (.int v2), .val (.int v9), .unset, .unset, .unset, .unset, .unset, .unset, .unset, .unset, .unset, .unset, .unset] [(.int (p2.toInt32))])
  refine WGo.st (fun _ q => XS.istore S.here hx rfl (hb hby at_13) rfl (l' := #[.val (.long p1), .second, .val (.long p2), .second, .val (.int p3), .val (.int p4), .val (.int p5), .val (.int v2), .val (.int v9), .val (.int (p2.toInt32)), .unset, .unset, .unset, .unset, .unset, .unset, .unset, .unset, .unset, .unset]) rfl q) ?_
  show WGo _ _ _ _ _ _ _ _ T (mkF m 15 #[.val (.long p1), .second, .val (.long p2), .second, .val (.int p3), .val (.int p4), .val (.int p5), .val (.int v2), .val (.int v9), .val (.int (p2.toInt32)), .unset, .unset, .unset, .unset, .unset, .unset, .unset, .unset, .unset, .unset] [])
  generalize hv13 : (p2.toInt32) = v13
  show WGo _ _ _ _ _ _ _ _ T (mkF m 15 #[.val (.long p1), .second, .val (.long p2), .second, .val (.int p3), .val (.int p4), .val (.int p5), .val (.int v2), .val (.int v9), .val (.int v13), .unset, .unset, .unset, .unset, .unset, .unset, .unset, .unset, .unset, .unset] [])
  refine WGo.st (fun _ q => XS.lloadN S.here hx rfl (hb hby at_15) rfl q) ?_
  show WGo _ _ _ _ _ _ _ _ T (mkF m 16 #[.val (.long p1), .second, .val (.long p2), .second, .val (.int p3), .val (.int p4), .val (.int p5), .val (.int v2), .val (.int v9), .val (.int v13), .unset, .unset, .unset, .unset, .unset, .unset, .unset, .unset, .unset, .unset] [(.long p2)])
  refine WGo.st (fun _ q => XS.bipush S.here hx rfl (hb hby at_16) q) ?_
  show WGo _ _ _ _ _ _ _ _ T (mkF m 18 #[.val (.long p1), .second, .val (.long p2), .second, .val (.int p3), .val (.int p4), .val (.int p5), .val (.int v2), .val (.int v9), .val (.int v13), .unset, .unset, .unset, .unset, .unset, .unset, .unset, .unset, .unset, .unset] [(.int (32 : Int32)), (.long p2)])
  refine WGo.st (fun _ q => XS.lushr S.here hx rfl (hb hby at_18) rfl q) ?_
  show WGo _ _ _ _ _ _ _ _ T (mkF m 19 #[.val (.long p1), .second, .val (.long p2), .second, .val (.int p3), .val (.int p4), .val (.int p5), .val (.int v2), .val (.int v9), .val (.int v13), .unset, .unset, .unset, .unset, .unset, .unset, .unset, .unset, .unset, .unset] [(.long ((p2.toUInt64 >>> ((32 : Int32) &&& 0x3f).toInt64.toUInt64).toInt64))])
  refine WGo.st (fun _ q => XS.l2i S.here hx rfl (hb hby at_19) rfl q) ?_
  show WGo _ _ _ _ _ _ _ _ T (mkF m 20 #[.val (.long p1), .second, .val (.long p2), .second, .val (.int p3), .val (.int p4), .val (.int p5), .val (.int v2), .val (.int v9), .val (.int v13), .unset, .unset, .unset, .unset, .unset, .unset, .unset, .unset, .unset, .unset] [(.int (((p2.toUInt64 >>> ((32 : Int32) &&& 0x3f).toInt64.toUInt64).toInt64).toInt32))])
  refine WGo.st (fun _ q => XS.istore S.here hx rfl (hb hby at_20) rfl (l' := #[.val (.long p1), .second, .val (.long p2), .second, .val (.int p3), .val (.int p4), .val (.int p5), .val (.int v2), .val (.int v9), .val (.int v13), .val (.int (((p2.toUInt64 >>> ((32 : Int32) &&& 0x3f).toInt64.toUInt64).toInt64).toInt32)), .unset, .unset, .unset, .unset, .unset, .unset, .unset, .unset, .unset]) rfl q) ?_
  show WGo _ _ _ _ _ _ _ _ T (mkF m 22 #[.val (.long p1), .second, .val (.long p2), .second, .val (.int p3), .val (.int p4), .val (.int p5), .val (.int v2), .val (.int v9), .val (.int v13), .val (.int (((p2.toUInt64 >>> ((32 : Int32) &&& 0x3f).toInt64.toUInt64).toInt64).toInt32)), .unset, .unset, .unset, .unset, .unset, .unset, .unset, .unset, .unset] [])
  generalize hv20 : (((p2.toUInt64 >>> ((32 : Int32) &&& 0x3f).toInt64.toUInt64).toInt64).toInt32) = v20
  show WGo _ _ _ _ _ _ _ _ T (mkF m 22 #[.val (.long p1), .second, .val (.long p2), .second, .val (.int p3), .val (.int p4), .val (.int p5), .val (.int v2), .val (.int v9), .val (.int v13), .val (.int v20), .unset, .unset, .unset, .unset, .unset, .unset, .unset, .unset, .unset] [])
  refine WGo.st (fun _ q => XS.iload S.here hx rfl (hb hby at_22) rfl q) ?_
  show WGo _ _ _ _ _ _ _ _ T (mkF m 24 #[.val (.long p1), .second, .val (.long p2), .second, .val (.int p3), .val (.int p4), .val (.int p5), .val (.int v2), .val (.int v9), .val (.int v13), .val (.int v20), .unset, .unset, .unset, .unset, .unset, .unset, .unset, .unset, .unset] [(.int p3)])
  refine WGo.st (fun _ q => XS.istore S.here hx rfl (hb hby at_24) rfl (l' := #[.val (.long p1), .second, .val (.long p2), .second, .val (.int p3), .val (.int p4), .val (.int p5), .val (.int v2), .val (.int v9), .val (.int v13), .val (.int v20), .val (.int p3), .unset, .unset, .unset, .unset, .unset, .unset, .unset, .unset]) rfl q) ?_
  show WGo _ _ _ _ _ _ _ _ T (mkF m 26 #[.val (.long p1), .second, .val (.long p2), .second, .val (.int p3), .val (.int p4), .val (.int p5), .val (.int v2), .val (.int v9), .val (.int v13), .val (.int v20), .val (.int p3), .unset, .unset, .unset, .unset, .unset, .unset, .unset, .unset] [])
  refine WGo.st (fun _ q => XS.iload S.here hx rfl (hb hby at_26) rfl q) ?_
  show WGo _ _ _ _ _ _ _ _ T (mkF m 28 #[.val (.long p1), .second, .val (.long p2), .second, .val (.int p3), .val (.int p4), .val (.int p5), .val (.int v2), .val (.int v9), .val (.int v13), .val (.int v20), .val (.int p3), .unset, .unset, .unset, .unset, .unset, .unset, .unset, .unset] [(.int p4)])
  refine WGo.st (fun _ q => XS.istore S.here hx rfl (hb hby at_28) rfl (l' := #[.val (.long p1), .second, .val (.long p2), .second, .val (.int p3), .val (.int p4), .val (.int p5), .val (.int v2), .val (.int v9), .val (.int v13), .val (.int v20), .val (.int p3), .val (.int p4), .unset, .unset, .unset, .unset, .unset, .unset, .unset]) rfl q) ?_
  show WGo _ _ _ _ _ _ _ _ T (mkF m 30 #[.val (.long p1), .second, .val (.long p2), .second, .val (.int p3), .val (.int p4), .val (.int p5), .val (.int v2), .val (.int v9), .val (.int v13), .val (.int v20), .val (.int p3), .val (.int p4), .unset, .unset, .unset, .unset, .unset, .unset, .unset] [])
  refine WGo.st (fun _ q => XS.bipush S.here hx rfl (hb hby at_30) q) ?_
  show WGo _ _ _ _ _ _ _ _ T (mkF m 32 #[.val (.long p1), .second, .val (.long p2), .second, .val (.int p3), .val (.int p4), .val (.int p5), .val (.int v2), .val (.int v9), .val (.int v13), .val (.int v20), .val (.int p3), .val (.int p4), .unset, .unset, .unset, .unset, .unset, .unset, .unset] [(.int (6 : Int32))])
  refine w_newarray S (hw _ (List.mem_of_getElem? (i := 0) rfl)) rfl rfl (hb hby at_32) rfl (by decide) (cap := 6) (by decide) (by decide) (by decide) (by decide) (L := [(0 : Int32), (0 : Int32), (0 : Int32), (0 : Int32), (0 : Int32), (0 : Int32)]) rfl ?_
  intro T1 h2 a32 S3 K4 e_a32 g_a32 A_a32
  show WGo _ _ _ _ _ _ _ _ T1 (mkF m 34 #[.val (.long p1), .second, .val (.long p2), .second, .val (.int p3), .val (.int p4), .val (.int p5), .val (.int v2), .val (.int v9), .val (.int v13), .val (.int v20), .val (.int p3), .val (.int p4), .unset, .unset, .unset, .unset, .unset, .unset, .unset] [(.ref a32)])
  refine WGo.st (fun _ q => XS.dup S3.here hx rfl (hb hby at_34) rfl rfl q) ?_
  show WGo _ _ _ _ _ _ _ _ T1 (mkF m 35 #[.val (.long p1), .second, .val (.long p2), .second, .val (.int p3), .val (.int p4), .val (.int p5), .val (.int v2), .val (.int v9), .val (.int v13), .val (.int v20), .val (.int p3), .val (.int p4), .unset, .unset, .unset, .unset, .unset, .unset, .unset] [(.ref a32), (.ref a32)])
  refine WGo.st (fun _ q => XS.iconst S3.here hx rfl (hb hby at_35) q) ?_
  show WGo _ _ _ _ _ _ _ _ T1 (mkF m 36 #[.val (.long p1), .second, .val (.long p2), .second, .val (.int p3), .val (.int p4), .val (.int p5), .val (.int v2), .val (.int v9), .val (.int v13), .val (.int v20), .val (.int p3), .val (.int p4), .unset, .unset, .unset, .unset, .unset, .unset, .unset] [(.int (0 : Int32)), (.ref a32), (.ref a32)])
  refine WGo.st (fun _ q => XS.iload S3.here hx rfl (hb hby at_36) rfl q) ?_
  show WGo _ _ _ _ _ _ _ _ T1 (mkF m 38 #[.val (.long p1), .second, .val (.long p2), .second, .val (.int p3), .val (.int p4), .val (.int p5), .val (.int v2), .val (.int v9), .val (.int v13), .val (.int v20), .val (.int p3), .val (.int p4), .unset, .unset, .unset, .unset, .unset, .unset, .unset] [(.int v2), (.int (0 : Int32)), (.ref a32), (.ref a32)])
  refine w_iastore S3 A_a32 g_a32 rfl (hb hby at_38) rfl (by decide) (by decide : (0 : Int32).toInt < ((6 : Nat) : Int)) (L' := [v2, (0 : Int32), (0 : Int32), (0 : Int32), (0 : Int32), (0 : Int32)]) rfl ?_
  intro T5 h6 S7 K8 A9
  show WGo _ _ _ _ _ _ _ _ T5 (mkF m 39 #[.val (.long p1), .second, .val (.long p2), .second, .val (.int p3), .val (.int p4), .val (.int p5), .val (.int v2), .val (.int v9), .val (.int v13), .val (.int v20), .val (.int p3), .val (.int p4), .unset, .unset, .unset, .unset, .unset, .unset, .unset] [(.ref a32)])
  refine WGo.st (fun _ q => XS.dup S7.here hx rfl (hb hby at_39) rfl rfl q) ?_
  show WGo _ _ _ _ _ _ _ _ T5 (mkF m 40 #[.val (.long p1), .second, .val (.long p2), .second, .val (.int p3), .val (.int p4), .val (.int p5), .val (.int v2), .val (.int v9), .val (.int v13), .val (.int v20), .val (.int p3), .val (.int p4), .unset, .unset, .unset, .unset, .unset, .unset, .unset] [(.ref a32), (.ref a32)])
  refine WGo.st (fun _ q => XS.iconst S7.here hx rfl (hb hby at_40) q) ?_
  show WGo _ _ _ _ _ _ _ _ T5 (mkF m 41 #[.val (.long p1), .second, .val (.long p2), .second, .val (.int p3), .val (.int p4), .val (.int p5), .val (.int v2), .val (.int v9), .val (.int v13), .val (.int v20), .val (.int p3), .val (.int p4), .unset, .unset, .unset, .unset, .unset, .unset, .unset] [(.int (1 : Int32)), (.ref a32), (.ref a32)])
  refine WGo.st (fun _ q => XS.iload S7.here hx rfl (hb hby at_41) rfl q) ?_
  show WGo _ _ _ _ _ _ _ _ T5 (mkF m 43 #[.val (.long p1), .second, .val (.long p2), .second, .val (.int p3), .val (.int p4), .val (.int p5), .val (.int v2), .val (.int v9), .val (.int v13), .val (.int v20), .val (.int p3), .val (.int p4), .unset, .unset, .unset, .unset, .unset, .unset, .unset] [(.int v9), (.int (1 : Int32)), (.ref a32), (.ref a32)])
  refine w_iastore S7 A9 g_a32 rfl (hb hby at_43) rfl (by decide) (by decide : (1 : Int32).toInt < ((6 : Nat) : Int)) (L' := [v2, v9, (0 : Int32), (0 : Int32), (0 : Int32), (0 : Int32)]) rfl ?_
  intro T10 h11 S12 K13 A14
  show WGo _ _ _ _ _ _ _ _ T10 (mkF m 44 #[.val (.long p1), .second, .val (.long p2), .second, .val (.int p3), .val (.int p4), .val (.int p5), .val (.int v2), .val (.int v9), .val (.int v13), .val (.int v20), .val (.int p3), .val (.int p4), .unset, .unset, .unset, .unset, .unset, .unset, .unset] [(.ref a32)])
  refine WGo.st (fun _ q => XS.dup S12.here hx rfl (hb hby at_44) rfl rfl q) ?_
  show WGo _ _ _ _ _ _ _ _ T10 (mkF m 45 #[.val (.long p1), .second, .val (.long p2), .second, .val (.int p3), .val (.int p4), .val (.int p5), .val (.int v2), .val (.int v9), .val (.int v13), .val (.int v20), .val (.int p3), .val (.int p4), .unset, .unset, .unset, .unset, .unset, .unset, .unset] [(.ref a32), (.ref a32)])
  refine WGo.st (fun _ q => XS.iconst S12.here hx rfl (hb hby at_45) q) ?_
  show WGo _ _ _ _ _ _ _ _ T10 (mkF m 46 #[.val (.long p1), .second, .val (.long p2), .second, .val (.int p3), .val (.int p4), .val (.int p5), .val (.int v2), .val (.int v9), .val (.int v13), .val (.int v20), .val (.int p3), .val (.int p4), .unset, .unset, .unset, .unset, .unset, .unset, .unset] [(.int (2 : Int32)), (.ref a32), (.ref a32)])
  refine WGo.st (fun _ q => XS.iload S12.here hx rfl (hb hby at_46) rfl q) ?_
  show WGo _ _ _ _ _ _ _ _ T10 (mkF m 48 #[.val (.long p1), .second, .val (.long p2), .second, .val (.int p3), .val (.int p4), .val (.int p5), .val (.int v2), .val (.int v9), .val (.int v13), .val (.int v20), .val (.int p3), .val (.int p4), .unset, .unset, .unset, .unset, .unset, .unset, .unset] [(.int v13), (.int (2 : Int32)), (.ref a32), (.ref a32)])
  refine w_iastore S12 A14 g_a32 rfl (hb hby at_48) rfl (by decide) (by decide : (2 : Int32).toInt < ((6 : Nat) : Int)) (L' := [v2, v9, v13, (0 : Int32), (0 : Int32), (0 : Int32)]) rfl ?_
  intro T15 h16 S17 K18 A19
  show WGo _ _ _ _ _ _ _ _ T15 (mkF m 49 #[.val (.long p1), .second, .val (.long p2), .second, .val (.int p3), .val (.int p4), .val (.int p5), .val (.int v2), .val (.int v9), .val (.int v13), .val (.int v20), .val (.int p3), .val (.int p4), .unset, .unset, .unset, .unset, .unset, .unset, .unset] [(.ref a32)])
  refine WGo.st (fun _ q => XS.dup S17.here hx rfl (hb hby at_49) rfl rfl q) ?_
  show WGo _ _ _ _ _ _ _ _ T15 (mkF m 50 #[.val (.long p1), .second, .val (.long p2), .second, .val (.int p3), .val (.int p4), .val (.int p5), .val (.int v2), .val (.int v9), .val (.int v13), .val (.int v20), .val (.int p3), .val (.int p4), .unset, .unset, .unset, .unset, .unset, .unset, .unset] [(.ref a32), (.ref a32)])
  refine WGo.st (fun _ q => XS.iconst S17.here hx rfl (hb hby at_50) q) ?_
  show WGo _ _ _ _ _ _ _ _ T15 (mkF m 51 #[.val (.long p1), .second, .val (.long p2), .second, .val (.int p3), .val (.int p4), .val (.int p5), .val (.int v2), .val (.int v9), .val (.int v13), .val (.int v20), .val (.int p3), .val (.int p4), .unset, .unset, .unset, .unset, .unset, .unset, .unset] [(.int (3 : Int32)), (.ref a32), (.ref a32)])
  refine WGo.st (fun _ q => XS.iload S17.here hx rfl (hb hby at_51) rfl q) ?_
  show WGo _ _ _ _ _ _ _ _ T15 (mkF m 53 #[.val (.long p1), .second, .val (.long p2), .second, .val (.int p3), .val (.int p4), .val (.int p5), .val (.int v2), .val (.int v9), .val (.int v13), .val (.int v20), .val (.int p3), .val (.int p4), .unset, .unset, .unset, .unset, .unset, .unset, .unset] [(.int v20), (.int (3 : Int32)), (.ref a32), (.ref a32)])
  refine w_iastore S17 A19 g_a32 rfl (hb hby at_53) rfl (by decide) (by decide : (3 : Int32).toInt < ((6 : Nat) : Int)) (L' := [v2, v9, v13, v20, (0 : Int32), (0 : Int32)]) rfl ?_
  intro T20 h21 S22 K23 A24
  show WGo _ _ _ _ _ _ _ _ T20 (mkF m 54 #[.val (.long p1), .second, .val (.long p2), .second, .val (.int p3), .val (.int p4), .val (.int p5), .val (.int v2), .val (.int v9), .val (.int v13), .val (.int v20), .val (.int p3), .val (.int p4), .unset, .unset, .unset, .unset, .unset, .unset, .unset] [(.ref a32)])
  refine WGo.st (fun _ q => XS.dup S22.here hx rfl (hb hby at_54) rfl rfl q) ?_
  show WGo _ _ _ _ _ _ _ _ T20 (mkF m 55 #[.val (.long p1), .second, .val (.long p2), .second, .val (.int p3), .val (.int p4), .val (.int p5), .val (.int v2), .val (.int v9), .val (.int v13), .val (.int v20), .val (.int p3), .val (.int p4), .unset, .unset, .unset, .unset, .unset, .unset, .unset] [(.ref a32), (.ref a32)])
  refine WGo.st (fun _ q => XS.iconst S22.here hx rfl (hb hby at_55) q) ?_
  show WGo _ _ _ _ _ _ _ _ T20 (mkF m 56 #[.val (.long p1), .second, .val (.long p2), .second, .val (.int p3), .val (.int p4), .val (.int p5), .val (.int v2), .val (.int v9), .val (.int v13), .val (.int v20), .val (.int p3), .val (.int p4), .unset, .unset, .unset, .unset, .unset, .unset, .unset] [(.int (4 : Int32)), (.ref a32), (.ref a32)])
  refine WGo.st (fun _ q => XS.iload S22.here hx rfl (hb hby at_56) rfl q) ?_
  show WGo _ _ _ _ _ _ _ _ T20 (mkF m 58 #[.val (.long p1), .second, .val (.long p2), .second, .val (.int p3), .val (.int p4), .val (.int p5), .val (.int v2), .val (.int v9), .val (.int v13), .val (.int v20), .val (.int p3), .val (.int p4), .unset, .unset, .unset, .unset, .unset, .unset, .unset] [(.int p3), (.int (4 : Int32)), (.ref a32), (.ref a32)])
  refine w_iastore S22 A24 g_a32 rfl (hb hby at_58) rfl (by decide) (by decide : (4 : Int32).toInt < ((6 : Nat) : Int)) (L' := [v2, v9, v13, v20, p3, (0 : Int32)]) rfl ?_
  intro T25 h26 S27 K28 A29
  show WGo _ _ _ _ _ _ _ _ T25 (mkF m 59 #[.val (.long p1), .second, .val (.long p2), .second, .val (.int p3), .val (.int p4), .val (.int p5), .val (.int v2), .val (.int v9), .val (.int v13), .val (.int v20), .val (.int p3), .val (.int p4), .unset, .unset, .unset, .unset, .unset, .unset, .unset] [(.ref a32)])
  refine WGo.st (fun _ q => XS.dup S27.here hx rfl (hb hby at_59) rfl rfl q) ?_
  show WGo _ _ _ _ _ _ _ _ T25 (mkF m 60 #[.val (.long p1), .second, .val (.long p2), .second, .val (.int p3), .val (.int p4), .val (.int p5), .val (.int v2), .val (.int v9), .val (.int v13), .val (.int v20), .val (.int p3), .val (.int p4), .unset, .unset, .unset, .unset, .unset, .unset, .unset] [(.ref a32), (.ref a32)])
  refine WGo.st (fun _ q => XS.iconst S27.here hx rfl (hb hby at_60) q) ?_
  show WGo _ _ _ _ _ _ _ _ T25 (mkF m 61 #[.val (.long p1), .second, .val (.long p2), .second, .val (.int p3), .val (.int p4), .val (.int p5), .val (.int v2), .val (.int v9), .val (.int v13), .val (.int v20), .val (.int p3), .val (.int p4), .unset, .unset, .unset, .unset, .unset, .unset, .unset] [(.int (5 : Int32)), (.ref a32), (.ref a32)])
  refine WGo.st (fun _ q => XS.iload S27.here hx rfl (hb hby at_61) rfl q) ?_
  show WGo _ _ _ _ _ _ _ _ T25 (mkF m 63 #[.val (.long p1), .second, .val (.long p2), .second, .val (.int p3), .val (.int p4), .val (.int p5), .val (.int v2), .val (.int v9), .val (.int v13), .val (.int v20), .val (.int p3), .val (.int p4), .unset, .unset, .unset, .unset, .unset, .unset, .unset] [(.int p4), (.int (5 : Int32)), (.ref a32), (.ref a32)])
  refine w_iastore S27 A29 g_a32 rfl (hb hby at_63) rfl (by decide) (by decide : (5 : Int32).toInt < ((6 : Nat) : Int)) (L' := [v2, v9, v13, v20, p3, p4]) rfl ?_
  intro T30 h31 S32 K33 A34
  show WGo _ _ _ _ _ _ _ _ T30 (mkF m 64 #[.val (.long p1), .second, .val (.long p2), .second, .val (.int p3), .val (.int p4), .val (.int p5), .val (.int v2), .val (.int v9), .val (.int v13), .val (.int v20), .val (.int p3), .val (.int p4), .unset, .unset, .unset, .unset, .unset, .unset, .unset] [(.ref a32)])
  refine WGo.st (fun _ q => XS.astore S32.here hx rfl (hb hby at_64) rfl rfl (l' := #[.val (.long p1), .second, .val (.long p2), .second, .val (.int p3), .val (.int p4), .val (.int p5), .val (.int v2), .val (.int v9), .val (.int v13), .val (.int v20), .val (.int p3), .val (.int p4), .val (.ref a32), .unset, .unset, .unset, .unset, .unset, .unset]) rfl q) ?_
  show WGo _ _ _ _ _ _ _ _ T30 (mkF m 66 #[.val (.long p1), .second, .val (.long p2), .second, .val (.int p3), .val (.int p4), .val (.int p5), .val (.int v2), .val (.int v9), .val (.int v13), .val (.int v20), .val (.int p3), .val (.int p4), .val (.ref a32), .unset, .unset, .unset, .unset, .unset, .unset] [])
  refine WGo.st (fun _ q => XS.bipush S32.here hx rfl (hb hby at_66) q) ?_
  show WGo _ _ _ _ _ _ _ _ T30 (mkF m 68 #[.val (.long p1), .second, .val (.long p2), .second, .val (.int p3), .val (.int p4), .val (.int p5), .val (.int v2), .val (.int v9), .val (.int v13), .val (.int v20), .val (.int p3), .val (.int p4), .val (.ref a32), .unset, .unset, .unset, .unset, .unset, .unset] [(.int (6 : Int32))])
  refine w_newarray S32 (hw _ (List.mem_of_getElem? (i := 0) rfl)) rfl rfl (hb hby at_68) rfl (by decide) (cap := 6) (by decide) (by decide) (by decide) (by decide) (L := [(0 : Int32), (0 : Int32), (0 : Int32), (0 : Int32), (0 : Int32), (0 : Int32)]) rfl ?_
  intro T35 h36 a68 S37 K38 e_a68 g_a68 A_a68
  have n_a32_a68 : a32 ≠ a68 := by rw [e_a68]; exact Nat.ne_of_lt A34.lt
  have f39 := AI.keep A34 K38 nin0
  show WGo _ _ _ _ _ _ _ _ T35 (mkF m 70 #[.val (.long p1), .second, .val (.long p2), .second, .val (.int p3), .val (.int p4), .val (.int p5), .val (.int v2), .val (.int v9), .val (.int v13), .val (.int v20), .val (.int p3), .val (.int p4), .val (.ref a32), .unset, .unset, .unset, .unset, .unset, .unset] [(.ref a68)])
  refine WGo.st (fun _ q => XS.dup S37.here hx rfl (hb hby at_70) rfl rfl q) ?_
  show WGo _ _ _ _ _ _ _ _ T35 (mkF m 71 #[.val (.long p1), .second, .val (.long p2), .second, .val (.int p3), .val (.int p4), .val (.int p5), .val (.int v2), .val (.int v9), .val (.int v13), .val (.int v20), .val (.int p3), .val (.int p4), .val (.ref a32), .unset, .unset, .unset, .unset, .unset, .unset] [(.ref a68), (.ref a68)])
  refine WGo.st (fun _ q => XS.iconst S37.here hx rfl (hb hby at_71) q) ?_
  show WGo _ _ _ _ _ _ _ _ T35 (mkF m 72 #[.val (.long p1), .second, .val (.long p2), .second, .val (.int p3), .val (.int p4), .val (.int p5), .val (.int v2), .val (.int v9), .val (.int v13), .val (.int v20), .val (.int p3), .val (.int p4), .val (.ref a32), .unset, .unset, .unset, .unset, .unset, .unset] [(.int (0 : Int32)), (.ref a68), (.ref a68)])
  refine WGo.st (fun _ q => XS.iload S37.here hx rfl (hb hby at_72) rfl q) ?_
  show WGo _ _ _ _ _ _ _ _ T35 (mkF m 74 #[.val (.long p1), .second, .val (.long p2), .second, .val (.int p3), .val (.int p4), .val (.int p5), .val (.int v2), .val (.int v9), .val (.int v13), .val (.int v20), .val (.int p3), .val (.int p4), .val (.ref a32), .unset, .unset, .unset, .unset, .unset, .unset] [(.int v2), (.int (0 : Int32)), (.ref a68), (.ref a68)])
  refine WGo.st (fun _ q => XS.iconst S37.here hx rfl (hb hby at_74) q) ?_
  show WGo _ _ _ _ _ _ _ _ T35 (mkF m 75 #[.val (.long p1), .second, .val (.long p2), .second, .val (.int p3), .val (.int p4), .val (.int p5), .val (.int v2), .val (.int v9), .val (.int v13), .val (.int v20), .val (.int p3), .val (.int p4), .val (.ref a32), .unset, .unset, .unset, .unset, .unset, .unset] [(.int (-1 : Int32)), (.int v2), (.int (0 : Int32)), (.ref a68), (.ref a68)])
  refine WGo.st (fun _ q => XS.ixor S37.here hx rfl (hb hby at_75) rfl q) ?_
  show WGo _ _ _ _ _ _ _ _ T35 (mkF m 76 #[.val (.long p1), .second, .val (.long p2), .second, .val (.int p3), .val (.int p4), .val (.int p5), .val (.int v2), .val (.int v9), .val (.int v13), .val (.int v20), .val (.int p3), .val (.int p4), .val (.ref a32), .unset, .unset, .unset, .unset, .unset, .unset] [(.int (v2 ^^^ (-1 : Int32))), (.int (0 : Int32)), (.ref a68), (.ref a68)])
  refine w_iastore S37 A_a68 g_a68 rfl (hb hby at_76) rfl (by decide) (by decide : (0 : Int32).toInt < ((6 : Nat) : Int)) (L' := [(v2 ^^^ (-1 : Int32)), (0 : Int32), (0 : Int32), (0 : Int32), (0 : Int32), (0 : Int32)]) rfl ?_
  intro T40 h41 S42 K43 A44
  have f45 := AI.keep f39 K43 (ninS n_a32_a68 nin0)
  show WGo _ _ _ _ _ _ _ _ T40 (mkF m 77 #[.val (.long p1), .second, .val (.long p2), .second, .val (.int p3), .val (.int p4), .val (.int p5), .val (.int v2), .val (.int v9), .val (.int v13), .val (.int v20), .val (.int p3), .val (.int p4), .val (.ref a32), .unset, .unset, .unset, .unset, .unset, .unset] [(.ref a68)])
  refine WGo.st (fun _ q => XS.dup S42.here hx rfl (hb hby at_77) rfl rfl q) ?_
  show WGo _ _ _ _ _ _ _ _ T40 (mkF m 78 #[.val (.long p1), .second, .val (.long p2), .second, .val (.int p3), .val (.int p4), .val (.int p5), .val (.int v2), .val (.int v9), .val (.int v13), .val (.int v20), .val (.int p3), .val (.int p4), .val (.ref a32), .unset, .unset, .unset, .unset, .unset, .unset] [(.ref a68), (.ref a68)])
  refine WGo.st (fun _ q => XS.iconst S42.here hx rfl (hb hby at_78) q) ?_
  show WGo _ _ _ _ _ _ _ _ T40 (mkF m 79 #[.val (.long p1), .second, .val (.long p2), .second, .val (.int p3), .val (.int p4), .val (.int p5), .val (.int v2), .val (.int v9), .val (.int v13), .val (.int v20), .val (.int p3), .val (.int p4), .val (.ref a32), .unset, .unset, .unset, .unset, .unset, .unset] [(.int (1 : Int32)), (.ref a68), (.ref a68)])
  refine WGo.st (fun _ q => XS.iload S42.here hx rfl (hb hby at_79) rfl q) ?_
  show WGo _ _ _ _ _ _ _ _ T40 (mkF m 81 #[.val (.long p1), .second, .val (.long p2), .second, .val (.int p3), .val (.int p4), .val (.int p5), .val (.int v2), .val (.int v9), .val (.int v13), .val (.int v20), .val (.int p3), .val (.int p4), .val (.ref a32), .unset, .unset, .unset, .unset, .unset, .unset] [(.int v9), (.int (1 : Int32)), (.ref a68), (.ref a68)])
  refine WGo.st (fun _ q => XS.iconst S42.here hx rfl (hb hby at_81) q) ?_
  show WGo _ _ _ _ _ _ _ _ T40 (mkF m 82 #[.val (.long p1), .second, .val (.long p2), .second, .val (.int p3), .val (.int p4), .val (.int p5), .val (.int v2), .val (.int v9), .val (.int v13), .val (.int v20), .val (.int p3), .val (.int p4), .val (.ref a32), .unset, .unset, .unset, .unset, .unset, .unset] [(.int (-1 : Int32)), (.int v9), (.int (1 : Int32)), (.ref a68), (.ref a68)])
  refine WGo.st (fun _ q => XS.ixor S42.here hx rfl (hb hby at_82) rfl q) ?_
  show WGo _ _ _ _ _ _ _ _ T40 (mkF m 83 #[.val (.long p1), .second, .val (.long p2), .second, .val (.int p3), .val (.int p4), .val (.int p5), .val (.int v2), .val (.int v9), .val (.int v13), .val (.int v20), .val (.int p3), .val (.int p4), .val (.ref a32), .unset, .unset, .unset, .unset, .unset, .unset] [(.int (v9 ^^^ (-1 : Int32))), (.int (1 : Int32)), (.ref a68), (.ref a68)])
  refine w_iastore S42 A44 g_a68 rfl (hb hby at_83) rfl (by decide) (by decide : (1 : Int32).toInt < ((6 : Nat) : Int)) (L' := [(v2 ^^^ (-1 : Int32)), (v9 ^^^ (-1 : Int32)), (0 : Int32), (0 : Int32), (0 : Int32), (0 : Int32)]) rfl ?_
  intro T46 h47 S48 K49 A50
  have f51 := AI.keep f45 K49 (ninS n_a32_a68 nin0)
  show WGo _ _ _ _ _ _ _ _ T46 (mkF m 84 #[.val (.long p1), .second, .val (.long p2), .second, .val (.int p3), .val (.int p4), .val (.int p5), .val (.int v2), .val (.int v9), .val (.int v13), .val (.int v20), .val (.int p3), .val (.int p4), .val (.ref a32), .unset, .unset, .unset, .unset, .unset, .unset] [(.ref a68)])
  refine WGo.st (fun _ q => XS.dup S48.here hx rfl (hb hby at_84) rfl rfl q) ?_
  show WGo _ _ _ _ _ _ _ _ T46 (mkF m 85 #[.val (.long p1), .second, .val (.long p2), .second, .val (.int p3), .val (.int p4), .val (.int p5), .val (.int v2), .val (.int v9), .val (.int v13), .val (.int v20), .val (.int p3), .val (.int p4), .val (.ref a32), .unset, .unset, .unset, .unset, .unset, .unset] [(.ref a68), (.ref a68)])
  refine WGo.st (fun _ q => XS.iconst S48.here hx rfl (hb hby at_85) q) ?_
  show WGo _ _ _ _ _ _ _ _ T46 (mkF m 86 #[.val (.long p1), .second, .val (.long p2), .second, .val (.int p3), .val (.int p4), .val (.int p5), .val (.int v2), .val (.int v9), .val (.int v13), .val (.int v20), .val (.int p3), .val (.int p4), .val (.ref a32), .unset, .unset, .unset, .unset, .unset, .unset] [(.int (2 : Int32)), (.ref a68), (.ref a68)])
  refine WGo.st (fun _ q => XS.iload S48.here hx rfl (hb hby at_86) rfl q) ?_
  show WGo _ _ _ _ _ _ _ _ T46 (mkF m 88 #[.val (.long p1), .second, .val (.long p2), .second, .val (.int p3), .val (.int p4), .val (.int p5), .val (.int v2), .val (.int v9), .val (.int v13), .val (.int v20), .val (.int p3), .val (.int p4), .val (.ref a32), .unset, .unset, .unset, .unset, .unset, .unset] [(.int v13), (.int (2 : Int32)), (.ref a68), (.ref a68)])
  refine WGo.st (fun _ q => XS.iconst S48.here hx rfl (hb hby at_88) q) ?_
  show WGo _ _ _ _ _ _ _ _ T46 (mkF m 89 #[.val (.long p1), .second, .val (.long p2), .second, .val (.int p3), .val (.int p4), .val (.int p5), .val (.int v2), .val (.int v9), .val (.int v13), .val (.int v20), .val (.int p3), .val (.int p4), .val (.ref a32), .unset, .unset, .unset, .unset, .unset, .unset] [(.int (-1 : Int32)), (.int v13), (.int (2 : Int32)), (.ref a68), (.ref a68)])
  refine WGo.st (fun _ q => XS.ixor S48.here hx rfl (hb hby at_89) rfl q) ?_
  show WGo _ _ _ _ _ _ _ _ T46 (mkF m 90 #[.val (.long p1), .second, .val (.long p2), .second, .val (.int p3), .val (.int p4), .val (.int p5), .val (.int v2), .val (.int v9), .val (.int v13), .val (.int v20), .val (.int p3), .val (.int p4), .val (.ref a32), .unset, .unset, .unset, .unset, .unset, .unset] [(.int (v13 ^^^ (-1 : Int32))), (.int (2 : Int32)), (.ref a68), (.ref a68)])
  refine w_iastore S48 A50 g_a68 rfl (hb hby at_90) rfl (by decide) (by decide : (2 : Int32).toInt < ((6 : Nat) : Int)) (L' := [(v2 ^^^ (-1 : Int32)), (v9 ^^^ (-1 : Int32)), (v13 ^^^ (-1 : Int32)), (0 : Int32), (0 : Int32), (0 : Int32)]) rfl ?_
  intro T52 h53 S54 K55 A56
  have f57 := AI.keep f51 K55 (ninS n_a32_a68 nin0)
  show WGo _ _ _ _ _ _ _ _ T52 (mkF m 91 #[.val (.long p1), .second, .val (.long p2), .second, .val (.int p3), .val (.int p4), .val (.int p5), .val (.int v2), .val (.int v9), .val (.int v13), .val (.int v20), .val (.int p3), .val (.int p4), .val (.ref a32), .unset, .unset, .unset, .unset, .unset, .unset] [(.ref a68)])
  refine WGo.st (fun _ q => XS.dup S54.here hx rfl (hb hby at_91) rfl rfl q) ?_
  show WGo _ _ _ _ _ _ _ _ T52 (mkF m 92 #[.val (.long p1), .second, .val (.long p2), .second, .val (.int p3), .val (.int p4), .val (.int p5), .val (.int v2), .val (.int v9), .val (.int v13), .val (.int v20), .val (.int p3), .val (.int p4), .val (.ref a32), .unset, .unset, .unset, .unset, .unset, .unset] [(.ref a68), (.ref a68)])
  refine WGo.st (fun _ q => XS.iconst S54.here hx rfl (hb hby at_92) q) ?_
  show WGo _ _ _ _ _ _ _ _ T52 (mkF m 93 #[.val (.long p1), .second, .val (.long p2), .second, .val (.int p3), .val (.int p4), .val (.int p5), .val (.int v2), .val (.int v9), .val (.int v13), .val (.int v20), .val (.int p3), .val (.int p4), .val (.ref a32), .unset, .unset, .unset, .unset, .unset, .unset] [(.int (3 : Int32)), (.ref a68), (.ref a68)])
  refine WGo.st (fun _ q => XS.iload S54.here hx rfl (hb hby at_93) rfl q) ?_
  show WGo _ _ _ _ _ _ _ _ T52 (mkF m 95 #[.val (.long p1), .second, .val (.long p2), .second, .val (.int p3), .val (.int p4), .val (.int p5), .val (.int v2), .val (.int v9), .val (.int v13), .val (.int v20), .val (.int p3), .val (.int p4), .val (.ref a32), .unset, .unset, .unset, .unset, .unset, .unset] [(.int v20), (.int (3 : Int32)), (.ref a68), (.ref a68)])
  refine WGo.st (fun _ q => XS.iconst S54.here hx rfl (hb hby at_95) q) ?_
  show WGo _ _ _ _ _ _ _ _ T52 (mkF m 96 #[.val (.long p1), .second, .val (.long p2), .second, .val (.int p3), .val (.int p4), .val (.int p5), .val (.int v2), .val (.int v9), .val (.int v13), .val (.int v20), .val (.int p3), .val (.int p4), .val (.ref a32), .unset, .unset, .unset, .unset, .unset, .unset] [(.int (-1 : Int32)), (.int v20), (.int (3 : Int32)), (.ref a68), (.ref a68)])
  refine WGo.st (fun _ q => XS.ixor S54.here hx rfl (hb hby at_96) rfl q) ?_
  show WGo _ _ _ _ _ _ _ _ T52 (mkF m 97 #[.val (.long p1), .second, .val (.long p2), .second, .val (.int p3), .val (.int p4), .val (.int p5), .val (.int v2), .val (.int v9), .val (.int v13), .val (.int v20), .val (.int p3), .val (.int p4), .val (.ref a32), .unset, .unset, .unset, .unset, .unset, .unset] [(.int (v20 ^^^ (-1 : Int32))), (.int (3 : Int32)), (.ref a68), (.ref a68)])
  refine w_iastore S54 A56 g_a68 rfl (hb hby at_97) rfl (by decide) (by decide : (3 : Int32).toInt < ((6 : Nat) : Int)) (L' := [(v2 ^^^ (-1 : Int32)), (v9 ^^^ (-1 : Int32)), (v13 ^^^ (-1 : Int32)), (v20 ^^^ (-1 : Int32)), (0 : Int32), (0 : Int32)]) rfl ?_
  intro T58 h59 S60 K61 A62
  have f63 := AI.keep f57 K61 (ninS n_a32_a68 nin0)
  show WGo _ _ _ _ _ _ _ _ T58 (mkF m 98 #[.val (.long p1), .second, .val (.long p2), .second, .val (.int p3), .val (.int p4), .val (.int p5), .val (.int v2), .val (.int v9), .val (.int v13), .val (.int v20), .val (.int p3), .val (.int p4), .val (.ref a32), .unset, .unset, .unset, .unset, .unset, .unset] [(.ref a68)])
  refine WGo.st (fun _ q => XS.dup S60.here hx rfl (hb hby at_98) rfl rfl q) ?_
  show WGo _ _ _ _ _ _ _ _ T58 (mkF m 99 #[.val (.long p1), .second, .val (.long p2), .second, .val (.int p3), .val (.int p4), .val (.int p5), .val (.int v2), .val (.int v9), .val (.int v13), .val (.int v20), .val (.int p3), .val (.int p4), .val (.ref a32), .unset, .unset, .unset, .unset, .unset, .unset] [(.ref a68), (.ref a68)])
  refine WGo.st (fun _ q => XS.iconst S60.here hx rfl (hb hby at_99) q) ?_
  show WGo _ _ _ _ _ _ _ _ T58 (mkF m 100 #[.val (.long p1), .second, .val (.long p2), .second, .val (.int p3), .val (.int p4), .val (.int p5), .val (.int v2), .val (.int v9), .val (.int v13), .val (.int v20), .val (.int p3), .val (.int p4), .val (.ref a32), .unset, .unset, .unset, .unset, .unset, .unset] [(.int (4 : Int32)), (.ref a68), (.ref a68)])
  refine WGo.st (fun _ q => XS.iload S60.here hx rfl (hb hby at_100) rfl q) ?_
  show WGo _ _ _ _ _ _ _ _ T58 (mkF m 102 #[.val (.long p1), .second, .val (.long p2), .second, .val (.int p3), .val (.int p4), .val (.int p5), .val (.int v2), .val (.int v9), .val (.int v13), .val (.int v20), .val (.int p3), .val (.int p4), .val (.ref a32), .unset, .unset, .unset, .unset, .unset, .unset] [(.int p3), (.int (4 : Int32)), (.ref a68), (.ref a68)])
  refine WGo.st (fun _ q => XS.iconst S60.here hx rfl (hb hby at_102) q) ?_
  show WGo _ _ _ _ _ _ _ _ T58 (mkF m 103 #[.val (.long p1), .second, .val (.long p2), .second, .val (.int p3), .val (.int p4), .val (.int p5), .val (.int v2), .val (.int v9), .val (.int v13), .val (.int v20), .val (.int p3), .val (.int p4), .val (.ref a32), .unset, .unset, .unset, .unset, .unset, .unset] [(.int (-1 : Int32)), (.int p3), (.int (4 : Int32)), (.ref a68), (.ref a68)])
  refine WGo.st (fun _ q => XS.ixor S60.here hx rfl (hb hby at_103) rfl q) ?_
  show WGo _ _ _ _ _ _ _ _ T58 (mkF m 104 #[.val (.long p1), .second, .val (.long p2), .second, .val (.int p3), .val (.int p4), .val (.int p5), .val (.int v2), .val (.int v9), .val (.int v13), .val (.int v20), .val (.int p3), .val (.int p4), .val (.ref a32), .unset, .unset, .unset, .unset, .unset, .unset] [(.int (p3 ^^^ (-1 : Int32))), (.int (4 : Int32)), (.ref a68), (.ref a68)])
  refine w_iastore S60 A62 g_a68 rfl (hb hby at_104) rfl (by decide) (by decide : (4 : Int32).toInt < ((6 : Nat) : Int)) (L' := [(v2 ^^^ (-1 : Int32)), (v9 ^^^ (-1 : Int32)), (v13 ^^^ (-1 : Int32)), (v20 ^^^ (-1 : Int32)), (p3 ^^^ (-1 : Int32)), (0 : Int32)]) rfl ?_
  intro T64 h65 S66 K67 A68
  have f69 := AI.keep f63 K67 (ninS n_a32_a68 nin0)
  show WGo _ _ _ _ _ _ _ _ T64 (mkF m 105 #[.val (.long p1), .second, .val (.long p2), .second, .val (.int p3), .val (.int p4), .val (.int p5), .val (.int v2), .val (.int v9), .val (.int v13), .val (.int v20), .val (.int p3), .val (.int p4), .val (.ref a32), .unset, .unset, .unset, .unset, .unset, .unset] [(.ref a68)])
  refine WGo.st (fun _ q => XS.dup S66.here hx rfl (hb hby at_105) rfl rfl q) ?_
  show WGo _ _ _ _ _ _ _ _ T64 (mkF m 106 #[.val (.long p1), .second, .val (.long p2), .second, .val (.int p3), .val (.int p4), .val (.int p5), .val (.int v2), .val (.int v9), .val (.int v13), .val (.int v20), .val (.int p3), .val (.int p4), .val (.ref a32), .unset, .unset, .unset, .unset, .unset, .unset] [(.ref a68), (.ref a68)])
  refine WGo.st (fun _ q => XS.iconst S66.here hx rfl (hb hby at_106) q) ?_
  show WGo _ _ _ _ _ _ _ _ T64 (mkF m 107 #[.val (.long p1), .second, .val (.long p2), .second, .val (.int p3), .val (.int p4), .val (.int p5), .val (.int v2), .val (.int v9), .val (.int v13), .val (.int v20), .val (.int p3), .val (.int p4), .val (.ref a32), .unset, .unset, .unset, .unset, .unset, .unset] [(.int (5 : Int32)), (.ref a68), (.ref a68)])
  refine WGo.st (fun _ q => XS.iload S66.here hx rfl (hb hby at_107) rfl q) ?_
  show WGo _ _ _ _ _ _ _ _ T64 (mkF m 109 #[.val (.long p1), .second, .val (.long p2), .second, .val (.int p3), .val (.int p4), .val (.int p5), .val (.int v2), .val (.int v9), .val (.int v13), .val (.int v20), .val (.int p3), .val (.int p4), .val (.ref a32), .unset, .unset, .unset, .unset, .unset, .unset] [(.int p4), (.int (5 : Int32)), (.ref a68), (.ref a68)])
  refine WGo.st (fun _ q => XS.iconst S66.here hx rfl (hb hby at_109) q) ?_
  show WGo _ _ _ _ _ _ _ _ T64 (mkF m 110 #[.val (.long p1), .second, .val (.long p2), .second, .val (.int p3), .val (.int p4), .val (.int p5), .val (.int v2), .val (.int v9), .val (.int v13), .val (.int v20), .val (.int p3), .val (.int p4), .val (.ref a32), .unset, .unset, .unset, .unset, .unset, .unset] [(.int (-1 : Int32)), (.int p4), (.int (5 : Int32)), (.ref a68), (.ref a68)])
  refine WGo.st (fun _ q => XS.ixor S66.here hx rfl (hb hby at_110) rfl q) ?_
  show WGo _ _ _ _ _ _ _ _ T64 (mkF m 111 #[.val (.long p1), .second, .val (.long p2), .second, .val (.int p3), .val (.int p4), .val (.int p5), .val (.int v2), .val (.int v9), .val (.int v13), .val (.int v20), .val (.int p3), .val (.int p4), .val (.ref a32), .unset, .unset, .unset, .unset, .unset, .unset] [(.int (p4 ^^^ (-1 : Int32))), (.int (5 : Int32)), (.ref a68), (.ref a68)])
  refine w_iastore S66 A68 g_a68 rfl (hb hby at_111) rfl (by decide) (by decide : (5 : Int32).toInt < ((6 : Nat) : Int)) (L' := [(v2 ^^^ (-1 : Int32)), (v9 ^^^ (-1 : Int32)), (v13 ^^^ (-1 : Int32)), (v20 ^^^ (-1 : Int32)), (p3 ^^^ (-1 : Int32)), (p4 ^^^ (-1 : Int32))]) rfl ?_
  intro T70 h71 S72 K73 A74
  have f75 := AI.keep f69 K73 (ninS n_a32_a68 nin0)
  show WGo _ _ _ _ _ _ _ _ T70 (mkF m 112 #[.val (.long p1), .second, .val (.long p2), .second, .val (.int p3), .val (.int p4), .val (.int p5), .val (.int v2), .val (.int v9), .val (.int v13), .val (.int v20), .val (.int p3), .val (.int p4), .val (.ref a32), .unset, .unset, .unset, .unset, .unset, .unset] [(.ref a68)])
  refine WGo.st (fun _ q => XS.astore S72.here hx rfl (hb hby at_112) rfl rfl (l' := #[.val (.long p1), .second, .val (.long p2), .second, .val (.int p3), .val (.int p4), .val (.int p5), .val (.int v2), .val (.int v9), .val (.int v13), .val (.int v20), .val (.int p3), .val (.int p4), .val (.ref a32), .val (.ref a68), .unset, .unset, .unset, .unset, .unset]) rfl q) ?_
  show WGo _ _ _ _ _ _ _ _ T70 (mkF m 114 #[.val (.long p1), .second, .val (.long p2), .second, .val (.int p3), .val (.int p4), .val (.int p5), .val (.int v2), .val (.int v9), .val (.int v13), .val (.int v20), .val (.int p3), .val (.int p4), .val (.ref a32), .val (.ref a68), .unset, .unset, .unset, .unset, .unset] [])
  refine WGo.st (fun _ q => XS.iload S72.here hx rfl (hb hby at_114) rfl q) ?_
  show WGo _ _ _ _ _ _ _ _ T70 (mkF m 116 #[.val (.long p1), .second, .val (.long p2), .second, .val (.int p3), .val (.int p4), .val (.int p5), .val (.int v2), .val (.int v9), .val (.int v13), .val (.int v20), .val (.int p3), .val (.int p4), .val (.ref a32), .val (.ref a68), .unset, .unset, .unset, .unset, .unset] [(.int p5)])
  refine WGo.st (fun _ q => XS.iconst S72.here hx rfl (hb hby at_116) q) ?_
  show WGo _ _ _ _ _ _ _ _ T70 (mkF m 117 #[.val (.long p1), .second, .val (.long p2), .second, .val (.int p3), .val (.int p4), .val (.int p5), .val (.int v2), .val (.int v9), .val (.int v13), .val (.int v20), .val (.int p3), .val (.int p4), .val (.ref a32), .val (.ref a68), .unset, .unset, .unset, .unset, .unset] [(.int (1 : Int32)), (.int p5)])
  refine WGo.st (fun _ q => XS.iand S72.here hx rfl (hb hby at_117) rfl q) ?_
  show WGo _ _ _ _ _ _ _ _ T70 (mkF m 118 #[.val (.long p1), .second, .val (.long p2), .second, .val (.int p3), .val (.int p4), .val (.int p5), .val (.int v2), .val (.int v9), .val (.int v13), .val (.int v20), .val (.int p3), .val (.int p4), .val (.ref a32), .val (.ref a68), .unset, .unset, .unset, .unset, .unset] [(.int (p5 &&& (1 : Int32)))])
  by_cases c118 : (p5 &&& (1 : Int32)) = (0 : Int32)
  · refine WGo.st (fun _ q => XS.ifYes S72.here hx rfl (pc0 := 118) (pc' := 125) rfl (hb hby at_118) rfl ((if0 _ _).trans (teq c118).1) (by decide) (by decide) q) ?_
    show WGo _ _ _ _ _ _ _ _ T70 (mkF m 125 #[.val (.long p1), .second, .val (.long p2), .second, .val (.int p3), .val (.int p4), .val (.int p5), .val (.int v2), .val (.int v9), .val (.int v13), .val (.int v20), .val (.int p3), .val (.int p4), .val (.ref a32), .val (.ref a68), .unset, .unset, .unset, .unset, .unset] [])
    refine WGo.st (fun _ q => XS.iconst S72.here hx rfl (hb hby at_125) q) ?_
    show WGo _ _ _ _ _ _ _ _ T70 (mkF m 126 #[.val (.long p1), .second, .val (.long p2), .second, .val (.int p3), .val (.int p4), .val (.int p5), .val (.int v2), .val (.int v9), .val (.int v13), .val (.int v20), .val (.int p3), .val (.int p4), .val (.ref a32), .val (.ref a68), .unset, .unset, .unset, .unset, .unset] [(.int (0 : Int32))])
    refine WGo.st (fun _ q => XS.istore S72.here hx rfl (hb hby at_126) rfl (l' := #[.val (.long p1), .second, .val (.long p2), .second, .val (.int p3), .val (.int p4), .val (.int p5), .val (.int v2), .val (.int v9), .val (.int v13), .val (.int v20), .val (.int p3), .val (.int p4), .val (.ref a32), .val (.ref a68), .val (.int (0 : Int32)), .unset, .unset, .unset, .unset]) rfl q) ?_
    show WGo _ _ _ _ _ _ _ _ T70 (mkF m 128 #[.val (.long p1), .second, .val (.long p2), .second, .val (.int p3), .val (.int p4), .val (.int p5), .val (.int v2), .val (.int v9), .val (.int v13), .val (.int v20), .val (.int p3), .val (.int p4), .val (.ref a32), .val (.ref a68), .val (.int (0 : Int32)), .unset, .unset, .unset, .unset] [])
    refine WGo.st (fun _ q => XS.iload S72.here hx rfl (hb hby at_128) rfl q) ?_
    show WGo _ _ _ _ _ _ _ _ T70 (mkF m 130 #[.val (.long p1), .second, .val (.long p2), .second, .val (.int p3), .val (.int p4), .val (.int p5), .val (.int v2), .val (.int v9), .val (.int v13), .val (.int v20), .val (.int p3), .val (.int p4), .val (.ref a32), .val (.ref a68), .val (.int (0 : Int32)), .unset, .unset, .unset, .unset] [(.int (0 : Int32))])
    refine WGo.st (fun _ q => XS.ifYes S72.here hx rfl (pc0 := 130) (pc' := 238) rfl (hb hby at_130) rfl ((if0 _ _).trans (teq (by decide : ((0 : Int32) = (0 : Int32)))).1) (by decide) (by decide) q) ?_
    show WGo _ _ _ _ _ _ _ _ T70 (mkF m 238 #[.val (.long p1), .second, .val (.long p2), .second, .val (.int p3), .val (.int p4), .val (.int p5), .val (.int v2), .val (.int v9), .val (.int v13), .val (.int v20), .val (.int p3), .val (.int p4), .val (.ref a32), .val (.ref a68), .val (.int (0 : Int32)), .unset, .unset, .unset, .unset] [])
    refine WGo.st (fun _ q => XS.iload S72.here hx rfl (hb hby at_238) rfl q) ?_
    show WGo _ _ _ _ _ _ _ _ T70 (mkF m 240 #[.val (.long p1), .second, .val (.long p2), .second, .val (.int p3), .val (.int p4), .val (.int p5), .val (.int v2), .val (.int v9), .val (.int v13), .val (.int v20), .val (.int p3), .val (.int p4), .val (.ref a32), .val (.ref a68), .val (.int (0 : Int32)), .unset, .unset, .unset, .unset] [(.int p5)])
    refine WGo.st (fun _ q => XS.iconst S72.here hx rfl (hb hby at_240) q) ?_
    show WGo _ _ _ _ _ _ _ _ T70 (mkF m 241 #[.val (.long p1), .second, .val (.long p2), .second, .val (.int p3), .val (.int p4), .val (.int p5), .val (.int v2), .val (.int v9), .val (.int v13), .val (.int v20), .val (.int p3), .val (.int p4), .val (.ref a32), .val (.ref a68), .val (.int (0 : Int32)), .unset, .unset, .unset, .unset] [(.int (1 : Int32)), (.int p5)])
    refine WGo.st (fun _ q => XS.iushr S72.here hx rfl (hb hby at_241) rfl q) ?_
    show WGo _ _ _ _ _ _ _ _ T70 (mkF m 242 #[.val (.long p1), .second, .val (.long p2), .second, .val (.int p3), .val (.int p4), .val (.int p5), .val (.int v2), .val (.int v9), .val (.int v13), .val (.int v20), .val (.int p3), .val (.int p4), .val (.ref a32), .val (.ref a68), .val (.int (0 : Int32)), .unset, .unset, .unset, .unset] [(.int ((p5.toUInt32 >>> ((1 : Int32) &&& 31).toUInt32).toInt32))])
    refine WGo.st (fun _ q => XS.iconst S72.here hx rfl (hb hby at_242) q) ?_
    show WGo _ _ _ _ _ _ _ _ T70 (mkF m 243 #[.val (.long p1), .second, .val (.long p2), .second, .val (.int p3), .val (.int p4), .val (.int p5), .val (.int v2), .val (.int v9), .val (.int v13), .val (.int v20), .val (.int p3), .val (.int p4), .val (.ref a32), .val (.ref a68), .val (.int (0 : Int32)), .unset, .unset, .unset, .unset] [(.int (1 : Int32)), (.int ((p5.toUInt32 >>> ((1 : Int32) &&& 31).toUInt32).toInt32))])
    refine WGo.st (fun _ q => XS.iand S72.here hx rfl (hb hby at_243) rfl q) ?_
    show WGo _ _ _ _ _ _ _ _ T70 (mkF m 244 #[.val (.long p1), .second, .val (.long p2), .second, .val (.int p3), .val (.int p4), .val (.int p5), .val (.int v2), .val (.int v9), .val (.int v13), .val (.int v20), .val (.int p3), .val (.int p4), .val (.ref a32), .val (.ref a68), .val (.int (0 : Int32)), .unset, .unset, .unset, .unset] [(.int (((p5.toUInt32 >>> ((1 : Int32) &&& 31).toUInt32).toInt32) &&& (1 : Int32)))])
    refine WGo.st (fun _ q => XS.istore S72.here hx rfl (hb hby at_244) rfl (l' := #[.val (.long p1), .second, .val (.long p2), .second, .val (.int p3), .val (.int p4), .val (.int p5), .val (.int v2), .val (.int v9), .val (.int v13), .val (.int v20), .val (.int p3), .val (.int p4), .val (.ref a32), .val (.ref a68), .val (.int (0 : Int32)), .unset, .val (.int (((p5.toUInt32 >>> ((1 : Int32) &&& 31).toUInt32).toInt32) &&& (1 : Int32))), .unset, .unset]) rfl q) ?_
    show WGo _ _ _ _ _ _ _ _ T70 (mkF m 246 #[.val (.long p1), .second, .val (.long p2), .second, .val (.int p3), .val (.int p4), .val (.int p5), .val (.int v2), .val (.int v9), .val (.int v13), .val (.int v20), .val (.int p3), .val (.int p4), .val (.ref a32), .val (.ref a68), .val (.int (0 : Int32)), .unset, .val (.int (((p5.toUInt32 >>> ((1 : Int32) &&& 31).toUInt32).toInt32) &&& (1 : Int32))), .unset, .unset] [])
    generalize hv244 : (((p5.toUInt32 >>> ((1 : Int32) &&& 31).toUInt32).toInt32) &&& (1 : Int32)) = v244
    show WGo _ _ _ _ _ _ _ _ T70 (mkF m 246 #[.val (.long p1), .second, .val (.long p2), .second, .val (.int p3), .val (.int p4), .val (.int p5), .val (.int v2), .val (.int v9), .val (.int v13), .val (.int v20), .val (.int p3), .val (.int p4), .val (.ref a32), .val (.ref a68), .val (.int (0 : Int32)), .unset, .val (.int v244), .unset, .unset] [])
    refine WGo.st (fun _ q => XS.iload S72.here hx rfl (hb hby at_246) rfl q) ?_
    show WGo _ _ _ _ _ _ _ _ T70 (mkF m 248 #[.val (.long p1), .second, .val (.long p2), .second, .val (.int p3), .val (.int p4), .val (.int p5), .val (.int v2), .val (.int v9), .val (.int v13), .val (.int v20), .val (.int p3), .val (.int p4), .val (.ref a32), .val (.ref a68), .val (.int (0 : Int32)), .unset, .val (.int v244), .unset, .unset] [(.int p5)])
    refine WGo.st (fun _ q => XS.iconst S72.here hx rfl (hb hby at_248) q) ?_
    show WGo _ _ _ _ _ _ _ _ T70 (mkF m 249 #[.val (.long p1), .second, .val (.long p2), .second, .val (.int p3), .val (.int p4), .val (.int p5), .val (.int v2), .val (.int v9), .val (.int v13), .val (.int v20), .val (.int p3), .val (.int p4), .val (.ref a32), .val (.ref a68), .val (.int (0 : Int32)), .unset, .val (.int v244), .unset, .unset] [(.int (2 : Int32)), (.int p5)])
    refine WGo.st (fun _ q => XS.iushr S72.here hx rfl (hb hby at_249) rfl q) ?_
    show WGo _ _ _ _ _ _ _ _ T70 (mkF m 250 #[.val (.long p1), .second, .val (.long p2), .second, .val (.int p3), .val (.int p4), .val (.int p5), .val (.int v2), .val (.int v9), .val (.int v13), .val (.int v20), .val (.int p3), .val (.int p4), .val (.ref a32), .val (.ref a68), .val (.int (0 : Int32)), .unset, .val (.int v244), .unset, .unset] [(.int ((p5.toUInt32 >>> ((2 : Int32) &&& 31).toUInt32).toInt32))])
    refine WGo.st (fun _ q => XS.iconst S72.here hx rfl (hb hby at_250) q) ?_
    show WGo _ _ _ _ _ _ _ _ T70 (mkF m 251 #[.val (.long p1), .second, .val (.long p2), .second, .val (.int p3), .val (.int p4), .val (.int p5), .val (.int v2), .val (.int v9), .val (.int v13), .val (.int v20), .val (.int p3), .val (.int p4), .val (.ref a32), .val (.ref a68), .val (.int (0 : Int32)), .unset, .val (.int v244), .unset, .unset] [(.int (3 : Int32)), (.int ((p5.toUInt32 >>> ((2 : Int32) &&& 31).toUInt32).toInt32))])
    refine w_irem S72 rfl (hb hby at_251) rfl (by decide) ?_
    show WGo _ _ _ _ _ _ _ _ T70 (mkF m 252 #[.val (.long p1), .second, .val (.long p2), .second, .val (.int p3), .val (.int p4), .val (.int p5), .val (.int v2), .val (.int v9), .val (.int v13), .val (.int v20), .val (.int p3), .val (.int p4), .val (.ref a32), .val (.ref a68), .val (.int (0 : Int32)), .unset, .val (.int v244), .unset, .unset] [(.int (((p5.toUInt32 >>> ((2 : Int32) &&& 31).toUInt32).toInt32) % (3 : Int32)))])
    refine WGo.st (fun _ q => XS.istore S72.here hx rfl (hb hby at_252) rfl (l' := #[.val (.long p1), .second, .val (.long p2), .second, .val (.int p3), .val (.int p4), .val (.int p5), .val (.int v2), .val (.int v9), .val (.int v13), .val (.int v20), .val (.int p3), .val (.int p4), .val (.ref a32), .val (.ref a68), .val (.int (0 : Int32)), .val (.int (((p5.toUInt32 >>> ((2 : Int32) &&& 31).toUInt32).toInt32) % (3 : Int32))), .val (.int v244), .unset, .unset]) rfl q) ?_
    show WGo _ _ _ _ _ _ _ _ T70 (mkF m 254 #[.val (.long p1), .second, .val (.long p2), .second, .val (.int p3), .val (.int p4), .val (.int p5), .val (.int v2), .val (.int v9), .val (.int v13), .val (.int v20), .val (.int p3), .val (.int p4), .val (.ref a32), .val (.ref a68), .val (.int (0 : Int32)), .val (.int (((p5.toUInt32 >>> ((2 : Int32) &&& 31).toUInt32).toInt32) % (3 : Int32))), .val (.int v244), .unset, .unset] [])
    generalize hv252 : (((p5.toUInt32 >>> ((2 : Int32) &&& 31).toUInt32).toInt32) % (3 : Int32)) = v252
    show WGo _ _ _ _ _ _ _ _ T70 (mkF m 254 #[.val (.long p1), .second, .val (.long p2), .second, .val (.int p3), .val (.int p4), .val (.int p5), .val (.int v2), .val (.int v9), .val (.int v13), .val (.int v20), .val (.int p3), .val (.int p4), .val (.ref a32), .val (.ref a68), .val (.int (0 : Int32)), .val (.int v252), .val (.int v244), .unset, .unset] [])
    refine w_new S72 hown (hw _ (List.mem_of_getElem? (i := 1) rfl)) (hw _ (List.mem_of_getElem? (i := 2) rfl)) (hw _ (List.mem_of_getElem? (i := 3) rfl)) rfl (hb hby at_254) (by decide) (by decide) ?_
    intro T76 h77 a254 S78 K79 e_a254 g_a254 E_a254 D_a254
    have n_a32_a254 : a32 ≠ a254 := by rw [e_a254]; exact Nat.ne_of_lt f75.lt
    have n_a68_a254 : a68 ≠ a254 := by rw [e_a254]; exact Nat.ne_of_lt A74.lt
    have f80 := AI.keep f75 K79 nin0
    have f81 := AI.keep A74 K79 nin0
    have F_a254_route : Fld Z h77 a254 "com/example/pathweave/pathweave/routing/Pattern" "route" "I" (.int (0 : Int32)) := D_a254 (Or.inr (hw _ (List.mem_of_getElem? (i := 12) rfl))) (ty := .int) (by decide)
    have F_a254_stops : Fld Z h77 a254 "com/example/pathweave/pathweave/routing/Pattern" "stops" "[I" (.null) := D_a254 (Or.inr (hw _ (List.mem_of_getElem? (i := 14) rfl))) (ty := (.array .int)) (by decide)
    have F_a254_pickups : Fld Z h77 a254 "com/example/pathweave/pathweave/routing/Pattern" "pickups" "[Z" (.null) := D_a254 (Or.inr (hw _ (List.mem_of_getElem? (i := 16) rfl))) (ty := (.array .boolean)) (by decide)
    have F_a254_dropOffs : Fld Z h77 a254 "com/example/pathweave/pathweave/routing/Pattern" "dropOffs" "[Z" (.null) := D_a254 (Or.inr (hw _ (List.mem_of_getElem? (i := 18) rfl))) (ty := (.array .boolean)) (by decide)
    have F_a254_trips : Fld Z h77 a254 "com/example/pathweave/pathweave/routing/Pattern" "trips" "[I" (.null) := D_a254 (Or.inr (hw _ (List.mem_of_getElem? (i := 20) rfl))) (ty := (.array .int)) (by decide)
    have F_a254_arrivals : Fld Z h77 a254 "com/example/pathweave/pathweave/routing/Pattern" "arrivals" "[I" (.null) := D_a254 (Or.inr (hw _ (List.mem_of_getElem? (i := 22) rfl))) (ty := (.array .int)) (by decide)
    have F_a254_departures : Fld Z h77 a254 "com/example/pathweave/pathweave/routing/Pattern" "departures" "[I" (.null) := D_a254 (Or.inr (hw _ (List.mem_of_getElem? (i := 24) rfl))) (ty := (.array .int)) (by decide)
    show WGo _ _ _ _ _ _ _ _ T76 (mkF m 257 #[.val (.long p1), .second, .val (.long p2), .second, .val (.int p3), .val (.int p4), .val (.int p5), .val (.int v2), .val (.int v9), .val (.int v13), .val (.int v20), .val (.int p3), .val (.int p4), .val (.ref a32), .val (.ref a68), .val (.int (0 : Int32)), .val (.int v252), .val (.int v244), .unset, .unset] [(.ref a254)])
    refine WGo.st (fun _ q => XS.dup S78.here hx rfl (hb hby at_257) rfl rfl q) ?_
    show WGo _ _ _ _ _ _ _ _ T76 (mkF m 258 #[.val (.long p1), .second, .val (.long p2), .second, .val (.int p3), .val (.int p4), .val (.int p5), .val (.int v2), .val (.int v9), .val (.int v13), .val (.int v20), .val (.int p3), .val (.int p4), .val (.ref a32), .val (.ref a68), .val (.int (0 : Int32)), .val (.int v252), .val (.int v244), .unset, .unset] [(.ref a254), (.ref a254)])
    refine WGo.st (fun _ q => XS.bipush S78.here hx rfl (hb hby at_258) q) ?_
    show WGo _ _ _ _ _ _ _ _ T76 (mkF m 260 #[.val (.long p1), .second, .val (.long p2), .second, .val (.int p3), .val (.int p4), .val (.int p5), .val (.int v2), .val (.int v9), .val (.int v13), .val (.int v20), .val (.int p3), .val (.int p4), .val (.ref a32), .val (.ref a68), .val (.int (0 : Int32)), .val (.int v252), .val (.int v244), .unset, .unset] [(.int (7 : Int32)), (.ref a254), (.ref a254)])
    refine WGo.st (fun _ q => XS.iconst S78.here hx rfl (hb hby at_260) q) ?_
    show WGo _ _ _ _ _ _ _ _ T76 (mkF m 261 #[.val (.long p1), .second, .val (.long p2), .second, .val (.int p3), .val (.int p4), .val (.int p5), .val (.int v2), .val (.int v9), .val (.int v13), .val (.int v20), .val (.int p3), .val (.int p4), .val (.ref a32), .val (.ref a68), .val (.int (0 : Int32)), .val (.int v252), .val (.int v244), .unset, .unset] [(.int (2 : Int32)), (.int (7 : Int32)), (.ref a254), (.ref a254)])
    refine w_newarray S78 (hw _ (List.mem_of_getElem? (i := 0) rfl)) rfl rfl (hb hby at_261) rfl (by decide) (cap := 2) (by decide) (by decide) (by decide) (by decide) (L := [(0 : Int32), (0 : Int32)]) rfl ?_
    intro T82 h83 a261 S84 K85 e_a261 g_a261 A_a261
    have n_a32_a261 : a32 ≠ a261 := by rw [e_a261]; exact Nat.ne_of_lt f80.lt
    have n_a68_a261 : a68 ≠ a261 := by rw [e_a261]; exact Nat.ne_of_lt f81.lt
    have n_a254_a261 : a254 ≠ a261 := by rw [e_a261]; exact Nat.ne_of_lt E_a254.lt
    have f86 := AI.keep f80 K85 nin0
    have f87 := AI.keep f81 K85 nin0
    have f88 := Exa.keep E_a254 K85
    have f89 := Fld.keep F_a254_route K85 nin0
    have f90 := Fld.keep F_a254_stops K85 nin0
    have f91 := Fld.keep F_a254_pickups K85 nin0
    have f92 := Fld.keep F_a254_dropOffs K85 nin0
    have f93 := Fld.keep F_a254_trips K85 nin0
    have f94 := Fld.keep F_a254_arrivals K85 nin0
    have f95 := Fld.keep F_a254_departures K85 nin0
    show WGo _ _ _ _ _ _ _ _ T82 (mkF m 263 #[.val (.long p1), .second, .val (.long p2), .second, .val (.int p3), .val (.int p4), .val (.int p5), .val (.int v2), .val (.int v9), .val (.int v13), .val (.int v20), .val (.int p3), .val (.int p4), .val (.ref a32), .val (.ref a68), .val (.int (0 : Int32)), .val (.int v252), .val (.int v244), .unset, .unset] [(.ref a261), (.int (7 : Int32)), (.ref a254), (.ref a254)])
    refine WGo.st (fun _ q => XS.dup S84.here hx rfl (hb hby at_263) rfl rfl q) ?_
    show WGo _ _ _ _ _ _ _ _ T82 (mkF m 264 #[.val (.long p1), .second, .val (.long p2), .second, .val (.int p3), .val (.int p4), .val (.int p5), .val (.int v2), .val (.int v9), .val (.int v13), .val (.int v20), .val (.int p3), .val (.int p4), .val (.ref a32), .val (.ref a68), .val (.int (0 : Int32)), .val (.int v252), .val (.int v244), .unset, .unset] [(.ref a261), (.ref a261), (.int (7 : Int32)), (.ref a254), (.ref a254)])
    refine WGo.st (fun _ q => XS.iconst S84.here hx rfl (hb hby at_264) q) ?_
    show WGo _ _ _ _ _ _ _ _ T82 (mkF m 265 #[.val (.long p1), .second, .val (.long p2), .second, .val (.int p3), .val (.int p4), .val (.int p5), .val (.int v2), .val (.int v9), .val (.int v13), .val (.int v20), .val (.int p3), .val (.int p4), .val (.ref a32), .val (.ref a68), .val (.int (0 : Int32)), .val (.int v252), .val (.int v244), .unset, .unset] [(.int (0 : Int32)), (.ref a261), (.ref a261), (.int (7 : Int32)), (.ref a254), (.ref a254)])
    refine WGo.st (fun _ q => XS.bipush S84.here hx rfl (hb hby at_265) q) ?_
    show WGo _ _ _ _ _ _ _ _ T82 (mkF m 267 #[.val (.long p1), .second, .val (.long p2), .second, .val (.int p3), .val (.int p4), .val (.int p5), .val (.int v2), .val (.int v9), .val (.int v13), .val (.int v20), .val (.int p3), .val (.int p4), .val (.ref a32), .val (.ref a68), .val (.int (0 : Int32)), .val (.int v252), .val (.int v244), .unset, .unset] [(.int (10 : Int32)), (.int (0 : Int32)), (.ref a261), (.ref a261), (.int (7 : Int32)), (.ref a254), (.ref a254)])
    refine w_iastore S84 A_a261 g_a261 rfl (hb hby at_267) rfl (by decide) (by decide : (0 : Int32).toInt < ((2 : Nat) : Int)) (L' := [(10 : Int32), (0 : Int32)]) rfl ?_
    intro T96 h97 S98 K99 A100
    have f101 := AI.keep f86 K99 (ninS n_a32_a261 nin0)
    have f102 := AI.keep f87 K99 (ninS n_a68_a261 nin0)
    have f103 := Exa.keep f88 K99
    have f104 := Fld.keep f89 K99 (ninS n_a254_a261 nin0)
    have f105 := Fld.keep f90 K99 (ninS n_a254_a261 nin0)
    have f106 := Fld.keep f91 K99 (ninS n_a254_a261 nin0)
    have f107 := Fld.keep f92 K99 (ninS n_a254_a261 nin0)
    have f108 := Fld.keep f93 K99 (ninS n_a254_a261 nin0)
    have f109 := Fld.keep f94 K99 (ninS n_a254_a261 nin0)
    have f110 := Fld.keep f95 K99 (ninS n_a254_a261 nin0)
    show WGo _ _ _ _ _ _ _ _ T96 (mkF m 268 #[.val (.long p1), .second, .val (.long p2), .second, .val (.int p3), .val (.int p4), .val (.int p5), .val (.int v2), .val (.int v9), .val (.int v13), .val (.int v20), .val (.int p3), .val (.int p4), .val (.ref a32), .val (.ref a68), .val (.int (0 : Int32)), .val (.int v252), .val (.int v244), .unset, .unset] [(.ref a261), (.int (7 : Int32)), (.ref a254), (.ref a254)])
    refine WGo.st (fun _ q => XS.dup S98.here hx rfl (hb hby at_268) rfl rfl q) ?_
    show WGo _ _ _ _ _ _ _ _ T96 (mkF m 269 #[.val (.long p1), .second, .val (.long p2), .second, .val (.int p3), .val (.int p4), .val (.int p5), .val (.int v2), .val (.int v9), .val (.int v13), .val (.int v20), .val (.int p3), .val (.int p4), .val (.ref a32), .val (.ref a68), .val (.int (0 : Int32)), .val (.int v252), .val (.int v244), .unset, .unset] [(.ref a261), (.ref a261), (.int (7 : Int32)), (.ref a254), (.ref a254)])
    refine WGo.st (fun _ q => XS.iconst S98.here hx rfl (hb hby at_269) q) ?_
    show WGo _ _ _ _ _ _ _ _ T96 (mkF m 270 #[.val (.long p1), .second, .val (.long p2), .second, .val (.int p3), .val (.int p4), .val (.int p5), .val (.int v2), .val (.int v9), .val (.int v13), .val (.int v20), .val (.int p3), .val (.int p4), .val (.ref a32), .val (.ref a68), .val (.int (0 : Int32)), .val (.int v252), .val (.int v244), .unset, .unset] [(.int (1 : Int32)), (.ref a261), (.ref a261), (.int (7 : Int32)), (.ref a254), (.ref a254)])
    refine WGo.st (fun _ q => XS.bipush S98.here hx rfl (hb hby at_270) q) ?_
    show WGo _ _ _ _ _ _ _ _ T96 (mkF m 272 #[.val (.long p1), .second, .val (.long p2), .second, .val (.int p3), .val (.int p4), .val (.int p5), .val (.int v2), .val (.int v9), .val (.int v13), .val (.int v20), .val (.int p3), .val (.int p4), .val (.ref a32), .val (.ref a68), .val (.int (0 : Int32)), .val (.int v252), .val (.int v244), .unset, .unset] [(.int (11 : Int32)), (.int (1 : Int32)), (.ref a261), (.ref a261), (.int (7 : Int32)), (.ref a254), (.ref a254)])
    refine w_iastore S98 A100 g_a261 rfl (hb hby at_272) rfl (by decide) (by decide : (1 : Int32).toInt < ((2 : Nat) : Int)) (L' := [(10 : Int32), (11 : Int32)]) rfl ?_
    intro T111 h112 S113 K114 A115
    have f116 := AI.keep f101 K114 (ninS n_a32_a261 nin0)
    have f117 := AI.keep f102 K114 (ninS n_a68_a261 nin0)
    have f118 := Exa.keep f103 K114
    have f119 := Fld.keep f104 K114 (ninS n_a254_a261 nin0)
    have f120 := Fld.keep f105 K114 (ninS n_a254_a261 nin0)
    have f121 := Fld.keep f106 K114 (ninS n_a254_a261 nin0)
    have f122 := Fld.keep f107 K114 (ninS n_a254_a261 nin0)
    have f123 := Fld.keep f108 K114 (ninS n_a254_a261 nin0)
    have f124 := Fld.keep f109 K114 (ninS n_a254_a261 nin0)
    have f125 := Fld.keep f110 K114 (ninS n_a254_a261 nin0)
    show WGo _ _ _ _ _ _ _ _ T111 (mkF m 273 #[.val (.long p1), .second, .val (.long p2), .second, .val (.int p3), .val (.int p4), .val (.int p5), .val (.int v2), .val (.int v9), .val (.int v13), .val (.int v20), .val (.int p3), .val (.int p4), .val (.ref a32), .val (.ref a68), .val (.int (0 : Int32)), .val (.int v252), .val (.int v244), .unset, .unset] [(.ref a261), (.int (7 : Int32)), (.ref a254), (.ref a254)])
    refine WGo.st (fun _ q => XS.iconst S113.here hx rfl (hb hby at_273) q) ?_
    show WGo _ _ _ _ _ _ _ _ T111 (mkF m 274 #[.val (.long p1), .second, .val (.long p2), .second, .val (.int p3), .val (.int p4), .val (.int p5), .val (.int v2), .val (.int v9), .val (.int v13), .val (.int v20), .val (.int p3), .val (.int p4), .val (.ref a32), .val (.ref a68), .val (.int (0 : Int32)), .val (.int v252), .val (.int v244), .unset, .unset] [(.int (2 : Int32)), (.ref a261), (.int (7 : Int32)), (.ref a254), (.ref a254)])
    refine w_newarray S113 (hw _ (List.mem_of_getElem? (i := 4) rfl)) rfl rfl (hb hby at_274) rfl (by decide) (cap := 2) (by decide) (by decide) (by decide) (by decide) (L := [(0 : Int32), (0 : Int32)]) rfl ?_
    intro T126 h127 a274 S128 K129 e_a274 g_a274 A_a274
    have n_a32_a274 : a32 ≠ a274 := by rw [e_a274]; exact Nat.ne_of_lt f116.lt
    have n_a68_a274 : a68 ≠ a274 := by rw [e_a274]; exact Nat.ne_of_lt f117.lt
    have n_a254_a274 : a254 ≠ a274 := by rw [e_a274]; exact Nat.ne_of_lt f118.lt
    have n_a261_a274 : a261 ≠ a274 := by rw [e_a274]; exact Nat.ne_of_lt A115.lt
    have f130 := AI.keep f116 K129 nin0
    have f131 := AI.keep f117 K129 nin0
    have f132 := Exa.keep f118 K129
    have f133 := Fld.keep f119 K129 nin0
    have f134 := Fld.keep f120 K129 nin0
    have f135 := Fld.keep f121 K129 nin0
    have f136 := Fld.keep f122 K129 nin0
    have f137 := Fld.keep f123 K129 nin0
    have f138 := Fld.keep f124 K129 nin0
    have f139 := Fld.keep f125 K129 nin0
    have f140 := AI.keep A115 K129 nin0
    show WGo _ _ _ _ _ _ _ _ T126 (mkF m 276 #[.val (.long p1), .second, .val (.long p2), .second, .val (.int p3), .val (.int p4), .val (.int p5), .val (.int v2), .val (.int v9), .val (.int v13), .val (.int v20), .val (.int p3), .val (.int p4), .val (.ref a32), .val (.ref a68), .val (.int (0 : Int32)), .val (.int v252), .val (.int v244), .unset, .unset] [(.ref a274), (.ref a261), (.int (7 : Int32)), (.ref a254), (.ref a254)])
    refine WGo.st (fun _ q => XS.iconst S128.here hx rfl (hb hby at_276) q) ?_
    show WGo _ _ _ _ _ _ _ _ T126 (mkF m 277 #[.val (.long p1), .second, .val (.long p2), .second, .val (.int p3), .val (.int p4), .val (.int p5), .val (.int v2), .val (.int v9), .val (.int v13), .val (.int v20), .val (.int p3), .val (.int p4), .val (.ref a32), .val (.ref a68), .val (.int (0 : Int32)), .val (.int v252), .val (.int v244), .unset, .unset] [(.int (2 : Int32)), (.ref a274), (.ref a261), (.int (7 : Int32)), (.ref a254), (.ref a254)])
    refine w_newarray S128 (hw _ (List.mem_of_getElem? (i := 4) rfl)) rfl rfl (hb hby at_277) rfl (by decide) (cap := 2) (by decide) (by decide) (by decide) (by decide) (L := [(0 : Int32), (0 : Int32)]) rfl ?_
    intro T141 h142 a277 S143 K144 e_a277 g_a277 A_a277
    have n_a32_a277 : a32 ≠ a277 := by rw [e_a277]; exact Nat.ne_of_lt f130.lt
    have n_a68_a277 : a68 ≠ a277 := by rw [e_a277]; exact Nat.ne_of_lt f131.lt
    have n_a254_a277 : a254 ≠ a277 := by rw [e_a277]; exact Nat.ne_of_lt f132.lt
    have n_a261_a277 : a261 ≠ a277 := by rw [e_a277]; exact Nat.ne_of_lt f140.lt
    have n_a274_a277 : a274 ≠ a277 := by rw [e_a277]; exact Nat.ne_of_lt A_a274.lt
    have f145 := AI.keep f130 K144 nin0
    have f146 := AI.keep f131 K144 nin0
    have f147 := Exa.keep f132 K144
    have f148 := Fld.keep f133 K144 nin0
    have f149 := Fld.keep f134 K144 nin0
    have f150 := Fld.keep f135 K144 nin0
    have f151 := Fld.keep f136 K144 nin0
    have f152 := Fld.keep f137 K144 nin0
    have f153 := Fld.keep f138 K144 nin0
    have f154 := Fld.keep f139 K144 nin0
    have f155 := AI.keep f140 K144 nin0
    have f156 := AI.keep A_a274 K144 nin0
    show WGo _ _ _ _ _ _ _ _ T141 (mkF m 279 #[.val (.long p1), .second, .val (.long p2), .second, .val (.int p3), .val (.int p4), .val (.int p5), .val (.int v2), .val (.int v9), .val (.int v13), .val (.int v20), .val (.int p3), .val (.int p4), .val (.ref a32), .val (.ref a68), .val (.int (0 : Int32)), .val (.int v252), .val (.int v244), .unset, .unset] [(.ref a277), (.ref a274), (.ref a261), (.int (7 : Int32)), (.ref a254), (.ref a254)])
    refine WGo.st (fun _ q => XS.iconst S143.here hx rfl (hb hby at_279) q) ?_
    show WGo _ _ _ _ _ _ _ _ T141 (mkF m 280 #[.val (.long p1), .second, .val (.long p2), .second, .val (.int p3), .val (.int p4), .val (.int p5), .val (.int v2), .val (.int v9), .val (.int v13), .val (.int v20), .val (.int p3), .val (.int p4), .val (.ref a32), .val (.ref a68), .val (.int (0 : Int32)), .val (.int v252), .val (.int v244), .unset, .unset] [(.int (3 : Int32)), (.ref a277), (.ref a274), (.ref a261), (.int (7 : Int32)), (.ref a254), (.ref a254)])
    refine w_newarray S143 (hw _ (List.mem_of_getElem? (i := 0) rfl)) rfl rfl (hb hby at_280) rfl (by decide) (cap := 3) (by decide) (by decide) (by decide) (by decide) (L := [(0 : Int32), (0 : Int32), (0 : Int32)]) rfl ?_
    intro T157 h158 a280 S159 K160 e_a280 g_a280 A_a280
    have n_a32_a280 : a32 ≠ a280 := by rw [e_a280]; exact Nat.ne_of_lt f145.lt
    have n_a68_a280 : a68 ≠ a280 := by rw [e_a280]; exact Nat.ne_of_lt f146.lt
    have n_a254_a280 : a254 ≠ a280 := by rw [e_a280]; exact Nat.ne_of_lt f147.lt
    have n_a261_a280 : a261 ≠ a280 := by rw [e_a280]; exact Nat.ne_of_lt f155.lt
    have n_a274_a280 : a274 ≠ a280 := by rw [e_a280]; exact Nat.ne_of_lt f156.lt
    have n_a277_a280 : a277 ≠ a280 := by rw [e_a280]; exact Nat.ne_of_lt A_a277.lt
    have f161 := AI.keep f145 K160 nin0
    have f162 := AI.keep f146 K160 nin0
    have f163 := Exa.keep f147 K160
    have f164 := Fld.keep f148 K160 nin0
    have f165 := Fld.keep f149 K160 nin0
    have f166 := Fld.keep f150 K160 nin0
    have f167 := Fld.keep f151 K160 nin0
    have f168 := Fld.keep f152 K160 nin0
    have f169 := Fld.keep f153 K160 nin0
    have f170 := Fld.keep f154 K160 nin0
    have f171 := AI.keep f155 K160 nin0
    have f172 := AI.keep f156 K160 nin0
    have f173 := AI.keep A_a277 K160 nin0
    show WGo _ _ _ _ _ _ _ _ T157 (mkF m 282 #[.val (.long p1), .second, .val (.long p2), .second, .val (.int p3), .val (.int p4), .val (.int p5), .val (.int v2), .val (.int v9), .val (.int v13), .val (.int v20), .val (.int p3), .val (.int p4), .val (.ref a32), .val (.ref a68), .val (.int (0 : Int32)), .val (.int v252), .val (.int v244), .unset, .unset] [(.ref a280), (.ref a277), (.ref a274), (.ref a261), (.int (7 : Int32)), (.ref a254), (.ref a254)])
    refine WGo.st (fun _ q => XS.dup S159.here hx rfl (hb hby at_282) rfl rfl q) ?_
    show WGo _ _ _ _ _ _ _ _ T157 (mkF m 283 #[.val (.long p1), .second, .val (.long p2), .second, .val (.int p3), .val (.int p4), .val (.int p5), .val (.int v2), .val (.int v9), .val (.int v13), .val (.int v20), .val (.int p3), .val (.int p4), .val (.ref a32), .val (.ref a68), .val (.int (0 : Int32)), .val (.int v252), .val (.int v244), .unset, .unset] [(.ref a280), (.ref a280), (.ref a277), (.ref a274), (.ref a261), (.int (7 : Int32)), (.ref a254), (.ref a254)])
    refine WGo.st (fun _ q => XS.iconst S159.here hx rfl (hb hby at_283) q) ?_
    show WGo _ _ _ _ _ _ _ _ T157 (mkF m 284 #[.val (.long p1), .second, .val (.long p2), .second, .val (.int p3), .val (.int p4), .val (.int p5), .val (.int v2), .val (.int v9), .val (.int v13), .val (.int v20), .val (.int p3), .val (.int p4), .val (.ref a32), .val (.ref a68), .val (.int (0 : Int32)), .val (.int v252), .val (.int v244), .unset, .unset] [(.int (0 : Int32)), (.ref a280), (.ref a280), (.ref a277), (.ref a274), (.ref a261), (.int (7 : Int32)), (.ref a254), (.ref a254)])
    refine WGo.st (fun _ q => XS.bipush S159.here hx rfl (hb hby at_284) q) ?_
    show WGo _ _ _ _ _ _ _ _ T157 (mkF m 286 #[.val (.long p1), .second, .val (.long p2), .second, .val (.int p3), .val (.int p4), .val (.int p5), .val (.int v2), .val (.int v9), .val (.int v13), .val (.int v20), .val (.int p3), .val (.int p4), .val (.ref a32), .val (.ref a68), .val (.int (0 : Int32)), .val (.int v252), .val (.int v244), .unset, .unset] [(.int (20 : Int32)), (.int (0 : Int32)), (.ref a280), (.ref a280), (.ref a277), (.ref a274), (.ref a261), (.int (7 : Int32)), (.ref a254), (.ref a254)])
    refine w_iastore S159 A_a280 g_a280 rfl (hb hby at_286) rfl (by decide) (by decide : (0 : Int32).toInt < ((3 : Nat) : Int)) (L' := [(20 : Int32), (0 : Int32), (0 : Int32)]) rfl ?_
    intro T174 h175 S176 K177 A178
    have f179 := AI.keep f161 K177 (ninS n_a32_a280 nin0)
    have f180 := AI.keep f162 K177 (ninS n_a68_a280 nin0)
    have f181 := Exa.keep f163 K177
    have f182 := Fld.keep f164 K177 (ninS n_a254_a280 nin0)
    have f183 := Fld.keep f165 K177 (ninS n_a254_a280 nin0)
    have f184 := Fld.keep f166 K177 (ninS n_a254_a280 nin0)
    have f185 := Fld.keep f167 K177 (ninS n_a254_a280 nin0)
    have f186 := Fld.keep f168 K177 (ninS n_a254_a280 nin0)
    have f187 := Fld.keep f169 K177 (ninS n_a254_a280 nin0)
    have f188 := Fld.keep f170 K177 (ninS n_a254_a280 nin0)
    have f189 := AI.keep f171 K177 (ninS n_a261_a280 nin0)
    have f190 := AI.keep f172 K177 (ninS n_a274_a280 nin0)
    have f191 := AI.keep f173 K177 (ninS n_a277_a280 nin0)
    show WGo _ _ _ _ _ _ _ _ T174 (mkF m 287 #[.val (.long p1), .second, .val (.long p2), .second, .val (.int p3), .val (.int p4), .val (.int p5), .val (.int v2), .val (.int v9), .val (.int v13), .val (.int v20), .val (.int p3), .val (.int p4), .val (.ref a32), .val (.ref a68), .val (.int (0 : Int32)), .val (.int v252), .val (.int v244), .unset, .unset] [(.ref a280), (.ref a277), (.ref a274), (.ref a261), (.int (7 : Int32)), (.ref a254), (.ref a254)])
    refine WGo.st (fun _ q => XS.dup S176.here hx rfl (hb hby at_287) rfl rfl q) ?_
    show WGo _ _ _ _ _ _ _ _ T174 (mkF m 288 #[.val (.long p1), .second, .val (.long p2), .second, .val (.int p3), .val (.int p4), .val (.int p5), .val (.int v2), .val (.int v9), .val (.int v13), .val (.int v20), .val (.int p3), .val (.int p4), .val (.ref a32), .val (.ref a68), .val (.int (0 : Int32)), .val (.int v252), .val (.int v244), .unset, .unset] [(.ref a280), (.ref a280), (.ref a277), (.ref a274), (.ref a261), (.int (7 : Int32)), (.ref a254), (.ref a254)])
    refine WGo.st (fun _ q => XS.iconst S176.here hx rfl (hb hby at_288) q) ?_
    show WGo _ _ _ _ _ _ _ _ T174 (mkF m 289 #[.val (.long p1), .second, .val (.long p2), .second, .val (.int p3), .val (.int p4), .val (.int p5), .val (.int v2), .val (.int v9), .val (.int v13), .val (.int v20), .val (.int p3), .val (.int p4), .val (.ref a32), .val (.ref a68), .val (.int (0 : Int32)), .val (.int v252), .val (.int v244), .unset, .unset] [(.int (1 : Int32)), (.ref a280), (.ref a280), (.ref a277), (.ref a274), (.ref a261), (.int (7 : Int32)), (.ref a254), (.ref a254)])
    refine WGo.st (fun _ q => XS.bipush S176.here hx rfl (hb hby at_289) q) ?_
    show WGo _ _ _ _ _ _ _ _ T174 (mkF m 291 #[.val (.long p1), .second, .val (.long p2), .second, .val (.int p3), .val (.int p4), .val (.int p5), .val (.int v2), .val (.int v9), .val (.int v13), .val (.int v20), .val (.int p3), .val (.int p4), .val (.ref a32), .val (.ref a68), .val (.int (0 : Int32)), .val (.int v252), .val (.int v244), .unset, .unset] [(.int (21 : Int32)), (.int (1 : Int32)), (.ref a280), (.ref a280), (.ref a277), (.ref a274), (.ref a261), (.int (7 : Int32)), (.ref a254), (.ref a254)])
    refine w_iastore S176 A178 g_a280 rfl (hb hby at_291) rfl (by decide) (by decide : (1 : Int32).toInt < ((3 : Nat) : Int)) (L' := [(20 : Int32), (21 : Int32), (0 : Int32)]) rfl ?_
    intro T192 h193 S194 K195 A196
    have f197 := AI.keep f179 K195 (ninS n_a32_a280 nin0)
    have f198 := AI.keep f180 K195 (ninS n_a68_a280 nin0)
    have f199 := Exa.keep f181 K195
    have f200 := Fld.keep f182 K195 (ninS n_a254_a280 nin0)
    have f201 := Fld.keep f183 K195 (ninS n_a254_a280 nin0)
    have f202 := Fld.keep f184 K195 (ninS n_a254_a280 nin0)
    have f203 := Fld.keep f185 K195 (ninS n_a254_a280 nin0)
    have f204 := Fld.keep f186 K195 (ninS n_a254_a280 nin0)
    have f205 := Fld.keep f187 K195 (ninS n_a254_a280 nin0)
    have f206 := Fld.keep f188 K195 (ninS n_a254_a280 nin0)
    have f207 := AI.keep f189 K195 (ninS n_a261_a280 nin0)
    have f208 := AI.keep f190 K195 (ninS n_a274_a280 nin0)
    have f209 := AI.keep f191 K195 (ninS n_a277_a280 nin0)
    show WGo _ _ _ _ _ _ _ _ T192 (mkF m 292 #[.val (.long p1), .second, .val (.long p2), .second, .val (.int p3), .val (.int p4), .val (.int p5), .val (.int v2), .val (.int v9), .val (.int v13), .val (.int v20), .val (.int p3), .val (.int p4), .val (.ref a32), .val (.ref a68), .val (.int (0 : Int32)), .val (.int v252), .val (.int v244), .unset, .unset] [(.ref a280), (.ref a277), (.ref a274), (.ref a261), (.int (7 : Int32)), (.ref a254), (.ref a254)])
    refine WGo.st (fun _ q => XS.dup S194.here hx rfl (hb hby at_292) rfl rfl q) ?_
    show WGo _ _ _ _ _ _ _ _ T192 (mkF m 293 #[.val (.long p1), .second, .val (.long p2), .second, .val (.int p3), .val (.int p4), .val (.int p5), .val (.int v2), .val (.int v9), .val (.int v13), .val (.int v20), .val (.int p3), .val (.int p4), .val (.ref a32), .val (.ref a68), .val (.int (0 : Int32)), .val (.int v252), .val (.int v244), .unset, .unset] [(.ref a280), (.ref a280), (.ref a277), (.ref a274), (.ref a261), (.int (7 : Int32)), (.ref a254), (.ref a254)])
    refine WGo.st (fun _ q => XS.iconst S194.here hx rfl (hb hby at_293) q) ?_
    show WGo _ _ _ _ _ _ _ _ T192 (mkF m 294 #[.val (.long p1), .second, .val (.long p2), .second, .val (.int p3), .val (.int p4), .val (.int p5), .val (.int v2), .val (.int v9), .val (.int v13), .val (.int v20), .val (.int p3), .val (.int p4), .val (.ref a32), .val (.ref a68), .val (.int (0 : Int32)), .val (.int v252), .val (.int v244), .unset, .unset] [(.int (2 : Int32)), (.ref a280), (.ref a280), (.ref a277), (.ref a274), (.ref a261), (.int (7 : Int32)), (.ref a254), (.ref a254)])
    refine WGo.st (fun _ q => XS.bipush S194.here hx rfl (hb hby at_294) q) ?_
    show WGo _ _ _ _ _ _ _ _ T192 (mkF m 296 #[.val (.long p1), .second, .val (.long p2), .second, .val (.int p3), .val (.int p4), .val (.int p5), .val (.int v2), .val (.int v9), .val (.int v13), .val (.int v20), .val (.int p3), .val (.int p4), .val (.ref a32), .val (.ref a68), .val (.int (0 : Int32)), .val (.int v252), .val (.int v244), .unset, .unset] [(.int (22 : Int32)), (.int (2 : Int32)), (.ref a280), (.ref a280), (.ref a277), (.ref a274), (.ref a261), (.int (7 : Int32)), (.ref a254), (.ref a254)])
    refine w_iastore S194 A196 g_a280 rfl (hb hby at_296) rfl (by decide) (by decide : (2 : Int32).toInt < ((3 : Nat) : Int)) (L' := [(20 : Int32), (21 : Int32), (22 : Int32)]) rfl ?_
    intro T210 h211 S212 K213 A214
    have f215 := AI.keep f197 K213 (ninS n_a32_a280 nin0)
    have f216 := AI.keep f198 K213 (ninS n_a68_a280 nin0)
    have f217 := Exa.keep f199 K213
    have f218 := Fld.keep f200 K213 (ninS n_a254_a280 nin0)
    have f219 := Fld.keep f201 K213 (ninS n_a254_a280 nin0)
    have f220 := Fld.keep f202 K213 (ninS n_a254_a280 nin0)
    have f221 := Fld.keep f203 K213 (ninS n_a254_a280 nin0)
    have f222 := Fld.keep f204 K213 (ninS n_a254_a280 nin0)
    have f223 := Fld.keep f205 K213 (ninS n_a254_a280 nin0)
    have f224 := Fld.keep f206 K213 (ninS n_a254_a280 nin0)
    have f225 := AI.keep f207 K213 (ninS n_a261_a280 nin0)
    have f226 := AI.keep f208 K213 (ninS n_a274_a280 nin0)
    have f227 := AI.keep f209 K213 (ninS n_a277_a280 nin0)
    show WGo _ _ _ _ _ _ _ _ T210 (mkF m 297 #[.val (.long p1), .second, .val (.long p2), .second, .val (.int p3), .val (.int p4), .val (.int p5), .val (.int v2), .val (.int v9), .val (.int v13), .val (.int v20), .val (.int p3), .val (.int p4), .val (.ref a32), .val (.ref a68), .val (.int (0 : Int32)), .val (.int v252), .val (.int v244), .unset, .unset] [(.ref a280), (.ref a277), (.ref a274), (.ref a261), (.int (7 : Int32)), (.ref a254), (.ref a254)])
    refine WGo.st (fun _ q => XS.aload S212.here hx rfl (hb hby at_297) rfl rfl q) ?_
    show WGo _ _ _ _ _ _ _ _ T210 (mkF m 299 #[.val (.long p1), .second, .val (.long p2), .second, .val (.int p3), .val (.int p4), .val (.int p5), .val (.int v2), .val (.int v9), .val (.int v13), .val (.int v20), .val (.int p3), .val (.int p4), .val (.ref a32), .val (.ref a68), .val (.int (0 : Int32)), .val (.int v252), .val (.int v244), .unset, .unset] [(.ref a32), (.ref a280), (.ref a277), (.ref a274), (.ref a261), (.int (7 : Int32)), (.ref a254), (.ref a254)])
    refine WGo.st (fun _ q => XS.aload S212.here hx rfl (hb hby at_299) rfl rfl q) ?_
    show WGo _ _ _ _ _ _ _ _ T210 (mkF m 301 #[.val (.long p1), .second, .val (.long p2), .second, .val (.int p3), .val (.int p4), .val (.int p5), .val (.int v2), .val (.int v9), .val (.int v13), .val (.int v20), .val (.int p3), .val (.int p4), .val (.ref a32), .val (.ref a68), .val (.int (0 : Int32)), .val (.int v252), .val (.int v244), .unset, .unset] [(.ref a68), (.ref a32), (.ref a280), (.ref a277), (.ref a274), (.ref a261), (.int (7 : Int32)), (.ref a254), (.ref a254)])
    refine w_special S212 (y := (⟨"com/example/pathweave/pathweave/routing/Pattern", "<init>", "(I[I[Z[Z[I[I[I)V"⟩ : MethodName)) rfl hown (hw _ (List.mem_of_getElem? (i := 5) rfl)) (hw _ (List.mem_of_getElem? (i := 6) rfl)) (hw _ (List.mem_of_getElem? (i := 3) rfl)) (hw _ (List.mem_of_getElem? (i := 7) rfl)) (by decide) (rm_K l Z a0 hw n0 h211 a254 (7 : Int32) a261 a274 a277 a280 a32 a68 S212.ge g_a254 f217 f218 f219 f220 f221 f222 f223 f224) (W := 1) (by decide) (by decide) (by decide) (by decide) rfl (by rw [hml]; rfl) (argsL := [(.int (7 : Int32)), (.ref a261), (.ref a274), (.ref a277), (.ref a280), (.ref a32), (.ref a68)]) (rest := [(.ref a254)]) (ps := [.int, (.array .int), (.array .boolean), (.array .boolean), (.array .int), (.array .int), (.array .int)]) (rt := none) (by decide) rfl rfl rfl (by show 2 * 0 + _ ≤ _; exact Nat.le_of_eq rfl) (hb hby at_301) ?_
    intro T228 h230 w231 S229 q232
    obtain ⟨q232a, q232K, q232f0, q232f1, q232f2, q232f3⟩ := q232
    subst q232a
    have f233 := AI.keep f215 q232K (ninS n_a32_a254 nin0)
    have f234 := AI.keep f216 q232K (ninS n_a68_a254 nin0)
    have f235 := AI.keep f225 q232K (ninS (Ne.symm n_a254_a261) nin0)
    have f236 := AI.keep f226 q232K (ninS (Ne.symm n_a254_a274) nin0)
    have f237 := AI.keep f227 q232K (ninS (Ne.symm n_a254_a277) nin0)
    have f238 := AI.keep A214 q232K (ninS (Ne.symm n_a254_a280) nin0)
    show WGo _ _ _ _ _ _ _ _ T228 (mkF m 304 #[.val (.long p1), .second, .val (.long p2), .second, .val (.int p3), .val (.int p4), .val (.int p5), .val (.int v2), .val (.int v9), .val (.int v13), .val (.int v20), .val (.int p3), .val (.int p4), .val (.ref a32), .val (.ref a68), .val (.int (0 : Int32)), .val (.int v252), .val (.int v244), .unset, .unset] [(.ref a254)])
    refine WGo.st (fun _ q => XS.astore S229.here hx rfl (hb hby at_304) rfl rfl (l' := #[.val (.long p1), .second, .val (.long p2), .second, .val (.int p3), .val (.int p4), .val (.int p5), .val (.int v2), .val (.int v9), .val (.int v13), .val (.int v20), .val (.int p3), .val (.int p4), .val (.ref a32), .val (.ref a68), .val (.int (0 : Int32)), .val (.int v252), .val (.int v244), .unset, .val (.ref a254)]) rfl q) ?_
    show WGo _ _ _ _ _ _ _ _ T228 (mkF m 306 #[.val (.long p1), .second, .val (.long p2), .second, .val (.int p3), .val (.int p4), .val (.int p5), .val (.int v2), .val (.int v9), .val (.int v13), .val (.int v20), .val (.int p3), .val (.int p4), .val (.ref a32), .val (.ref a68), .val (.int (0 : Int32)), .val (.int v252), .val (.int v244), .unset, .val (.ref a254)] [])
    have hi : v252 = 0 ∨ v252 = 1 ∨ v252 = 2 := by rw [← hv252]; exact rem3 p5
    have hp : v244 = 0 ∨ v244 = 1 := by rw [← hv244]; exact and_one _
    have hix := idx2 hi hp
    refine WGo.st (fun _ q => XS.iload S229.here hx rfl (hb hby at_306) rfl q) ?_
    show WGo _ _ _ _ _ _ _ _ T228 (mkF m 308 #[.val (.long p1), .second, .val (.long p2), .second, .val (.int p3), .val (.int p4), .val (.int p5), .val (.int v2), .val (.int v9), .val (.int v13), .val (.int v20), .val (.int p3), .val (.int p4), .val (.ref a32), .val (.ref a68), .val (.int (0 : Int32)), .val (.int v252), .val (.int v244), .unset, .val (.ref a254)] [(.int v252)])
    by_cases c308 : v252 = (0 : Int32)
    · refine WGo.st (fun _ q => XS.ifNo S229.here hx rfl (hb hby at_308) rfl ((if0 _ _).trans (teq c308).2) q) ?_
      show WGo _ _ _ _ _ _ _ _ T228 (mkF m 311 #[.val (.long p1), .second, .val (.long p2), .second, .val (.int p3), .val (.int p4), .val (.int p5), .val (.int v2), .val (.int v9), .val (.int v13), .val (.int v20), .val (.int p3), .val (.int p4), .val (.ref a32), .val (.ref a68), .val (.int (0 : Int32)), .val (.int v252), .val (.int v244), .unset, .val (.ref a254)] [])
      refine WGo.st (fun _ q => XS.iload S229.here hx rfl (hb hby at_311) rfl q) ?_
      show WGo _ _ _ _ _ _ _ _ T228 (mkF m 313 #[.val (.long p1), .second, .val (.long p2), .second, .val (.int p3), .val (.int p4), .val (.int p5), .val (.int v2), .val (.int v9), .val (.int v13), .val (.int v20), .val (.int p3), .val (.int p4), .val (.ref a32), .val (.ref a68), .val (.int (0 : Int32)), .val (.int v252), .val (.int v244), .unset, .val (.ref a254)] [(.int v244)])
      refine WGo.st (fun _ q => XS.iload S229.here hx rfl (hb hby at_313) rfl q) ?_
      show WGo _ _ _ _ _ _ _ _ T228 (mkF m 315 #[.val (.long p1), .second, .val (.long p2), .second, .val (.int p3), .val (.int p4), .val (.int p5), .val (.int v2), .val (.int v9), .val (.int v13), .val (.int v20), .val (.int p3), .val (.int p4), .val (.ref a32), .val (.ref a68), .val (.int (0 : Int32)), .val (.int v252), .val (.int v244), .unset, .val (.ref a254)] [(.int v2), (.int v244)])
      refine WGo.st (fun _ q => XS.iload S229.here hx rfl (hb hby at_315) rfl q) ?_
      show WGo _ _ _ _ _ _ _ _ T228 (mkF m 317 #[.val (.long p1), .second, .val (.long p2), .second, .val (.int p3), .val (.int p4), .val (.int p5), .val (.int v2), .val (.int v9), .val (.int v13), .val (.int v20), .val (.int p3), .val (.int p4), .val (.ref a32), .val (.ref a68), .val (.int (0 : Int32)), .val (.int v252), .val (.int v244), .unset, .val (.ref a254)] [(.int v9), (.int v2), (.int v244)])
      refine w_static S229 (y := (⟨"com/example/pathweave/pathweave/routing/PatternArrivalPinLaw", "pick2", "(III)I"⟩ : MethodName)) hown (hw _ (List.mem_of_getElem? (i := 25) rfl)) (hw _ (List.mem_of_getElem? (i := 26) rfl)) (hw _ (List.mem_of_getElem? (i := 27) rfl)) (hw _ (List.mem_of_getElem? (i := 28) rfl)) (by decide) (rm_P2 l Z a0 hw n0 h230 v244 v2 v9 S229.ge) (W := 0) (by decide) (by decide) (by decide) (by decide) rfl (by rw [hml]; rfl) (argsL := [(.int v244), (.int v2), (.int v9)]) (rest := []) (ps := [.int, .int, .int]) (rt := (some .int)) (by decide) rfl rfl rfl (by show 2 * 0 + _ ≤ _; exact Nat.le_of_eq rfl) (hb hby at_317) ?_
      intro T239 h241 w242 S240 q243
      obtain ⟨q243a, q243b⟩ := q243
      subst q243a
      replace q243b := Eq.symm q243b
      subst q243b
      show WGo _ _ _ _ _ _ _ _ T239 (mkF m 320 #[.val (.long p1), .second, .val (.long p2), .second, .val (.int p3), .val (.int p4), .val (.int p5), .val (.int v2), .val (.int v9), .val (.int v13), .val (.int v20), .val (.int p3), .val (.int p4), .val (.ref a32), .val (.ref a68), .val (.int (0 : Int32)), .val (.int v252), .val (.int v244), .unset, .val (.ref a254)] [(.int (pick2F v244 v2 v9))])
      refine WGo.st (fun _ q => XS.istore S240.here hx rfl (hb hby at_320) rfl (l' := #[.val (.long p1), .second, .val (.long p2), .second, .val (.int p3), .val (.int p4), .val (.int p5), .val (.int v2), .val (.int v9), .val (.int v13), .val (.int v20), .val (.int p3), .val (.int p4), .val (.ref a32), .val (.ref a68), .val (.int (0 : Int32)), .val (.int v252), .val (.int v244), .val (.int (pick2F v244 v2 v9)), .val (.ref a254)]) rfl q) ?_
      show WGo _ _ _ _ _ _ _ _ T239 (mkF m 322 #[.val (.long p1), .second, .val (.long p2), .second, .val (.int p3), .val (.int p4), .val (.int p5), .val (.int v2), .val (.int v9), .val (.int v13), .val (.int v20), .val (.int p3), .val (.int p4), .val (.ref a32), .val (.ref a68), .val (.int (0 : Int32)), .val (.int v252), .val (.int v244), .val (.int (pick2F v244 v2 v9)), .val (.ref a254)] [])
      refine WGo.st (fun _ q => XS.goto S240.here hx rfl (pc0 := 322) (pc' := 356) rfl (hb hby at_322) (by decide) (by decide) q) ?_
      show WGo _ _ _ _ _ _ _ _ T239 (mkF m 356 #[.val (.long p1), .second, .val (.long p2), .second, .val (.int p3), .val (.int p4), .val (.int p5), .val (.int v2), .val (.int v9), .val (.int v13), .val (.int v20), .val (.int p3), .val (.int p4), .val (.ref a32), .val (.ref a68), .val (.int (0 : Int32)), .val (.int v252), .val (.int v244), .val (.int (pick2F v244 v2 v9)), .val (.ref a254)] [])
      refine WGo.st (fun _ q => XS.aload S240.here hx rfl (hb hby at_356) rfl rfl q) ?_
      show WGo _ _ _ _ _ _ _ _ T239 (mkF m 358 #[.val (.long p1), .second, .val (.long p2), .second, .val (.int p3), .val (.int p4), .val (.int p5), .val (.int v2), .val (.int v9), .val (.int v13), .val (.int v20), .val (.int p3), .val (.int p4), .val (.ref a32), .val (.ref a68), .val (.int (0 : Int32)), .val (.int v252), .val (.int v244), .val (.int (pick2F v244 v2 v9)), .val (.ref a254)] [(.ref a254)])
      refine WGo.st (fun _ q => XS.iload S240.here hx rfl (hb hby at_358) rfl q) ?_
      show WGo _ _ _ _ _ _ _ _ T239 (mkF m 360 #[.val (.long p1), .second, .val (.long p2), .second, .val (.int p3), .val (.int p4), .val (.int p5), .val (.int v2), .val (.int v9), .val (.int v13), .val (.int v20), .val (.int p3), .val (.int p4), .val (.ref a32), .val (.ref a68), .val (.int (0 : Int32)), .val (.int v252), .val (.int v244), .val (.int (pick2F v244 v2 v9)), .val (.ref a254)] [(.int v252), (.ref a254)])
      refine WGo.st (fun _ q => XS.iload S240.here hx rfl (hb hby at_360) rfl q) ?_
      show WGo _ _ _ _ _ _ _ _ T239 (mkF m 362 #[.val (.long p1), .second, .val (.long p2), .second, .val (.int p3), .val (.int p4), .val (.int p5), .val (.int v2), .val (.int v9), .val (.int v13), .val (.int v20), .val (.int p3), .val (.int p4), .val (.ref a32), .val (.ref a68), .val (.int (0 : Int32)), .val (.int v252), .val (.int v244), .val (.int (pick2F v244 v2 v9)), .val (.ref a254)] [(.int v244), (.int v252), (.ref a254)])
      refine w_virtual S240 (y := (⟨"com/example/pathweave/pathweave/routing/Pattern", "arrival", "(II)I"⟩ : MethodName)) hown (hw _ (List.mem_of_getElem? (i := 29) rfl)) (hw _ (List.mem_of_getElem? (i := 30) rfl)) (hw _ (List.mem_of_getElem? (i := 32) rfl)) (hw _ (List.mem_of_getElem? (i := 31) rfl)) (hw _ (List.mem_of_getElem? (i := 3) rfl)) (hw _ (List.mem_of_getElem? (i := 33) rfl)) (by decide) q232f0 (rm_Ar l Z a0 hw n0 h230 a254 v252 v244 a261 a32 [(10 : Int32), (11 : Int32)] [v2, v9, v13, v20, p3, p4] (2 : Int32) S240.ge q232f1 q232f3 f235 f233 rfl hix.1 hix.2) (W := 0) (by decide) (by decide) (by decide) (by decide) rfl (by rw [hml]; rfl) (argsL := [(.int v252), (.int v244)]) (rest := []) (ps := [.int, .int]) (rt := (some .int)) (by decide) rfl rfl rfl (by show 2 * 0 + _ ≤ _; exact Nat.le_of_eq rfl) (hb hby at_362) ?_
      intro T244 h246 w247 S245 q248
      obtain ⟨q248a, q248b⟩ := q248
      subst q248a
      replace q248b := Eq.symm q248b
      subst q248b
      show WGo _ _ _ _ _ _ _ _ T244 (mkF m 365 #[.val (.long p1), .second, .val (.long p2), .second, .val (.int p3), .val (.int p4), .val (.int p5), .val (.int v2), .val (.int v9), .val (.int v13), .val (.int v20), .val (.int p3), .val (.int p4), .val (.ref a32), .val (.ref a68), .val (.int (0 : Int32)), .val (.int v252), .val (.int v244), .val (.int (pick2F v244 v2 v9)), .val (.ref a254)] [(.int (gi [v2, v9, v13, v20, p3, p4] ((v252 * (2 : Int32)) + v244)))])
      refine WGo.st (fun _ q => XS.iload S245.here hx rfl (hb hby at_365) rfl q) ?_
      show WGo _ _ _ _ _ _ _ _ T244 (mkF m 367 #[.val (.long p1), .second, .val (.long p2), .second, .val (.int p3), .val (.int p4), .val (.int p5), .val (.int v2), .val (.int v9), .val (.int v13), .val (.int v20), .val (.int p3), .val (.int p4), .val (.ref a32), .val (.ref a68), .val (.int (0 : Int32)), .val (.int v252), .val (.int v244), .val (.int (pick2F v244 v2 v9)), .val (.ref a254)] [(.int (pick2F v244 v2 v9)), (.int (gi [v2, v9, v13, v20, p3, p4] ((v252 * (2 : Int32)) + v244)))])
      refine WGo.st (fun _ q => XS.icmpNo S245.here hx rfl (hb hby at_367) rfl (teq (g20 c308 hp)).2 q) ?_
      show WGo _ _ _ _ _ _ _ _ T244 (mkF m 370 #[.val (.long p1), .second, .val (.long p2), .second, .val (.int p3), .val (.int p4), .val (.int p5), .val (.int v2), .val (.int v9), .val (.int v13), .val (.int v20), .val (.int p3), .val (.int p4), .val (.ref a32), .val (.ref a68), .val (.int (0 : Int32)), .val (.int v252), .val (.int v244), .val (.int (pick2F v244 v2 v9)), .val (.ref a254)] [])
      refine WGo.st (fun _ q => XS.iconst S245.here hx rfl (hb hby at_370) q) ?_
      show WGo _ _ _ _ _ _ _ _ T244 (mkF m 371 #[.val (.long p1), .second, .val (.long p2), .second, .val (.int p3), .val (.int p4), .val (.int p5), .val (.int v2), .val (.int v9), .val (.int v13), .val (.int v20), .val (.int p3), .val (.int p4), .val (.ref a32), .val (.ref a68), .val (.int (0 : Int32)), .val (.int v252), .val (.int v244), .val (.int (pick2F v244 v2 v9)), .val (.ref a254)] [(.int (1 : Int32))])
      refine WGo.st (fun _ q => XS.goto S245.here hx rfl (pc0 := 371) (pc' := 375) rfl (hb hby at_371) (by decide) (by decide) q) ?_
      show WGo _ _ _ _ _ _ _ _ T244 (mkF m 375 #[.val (.long p1), .second, .val (.long p2), .second, .val (.int p3), .val (.int p4), .val (.int p5), .val (.int v2), .val (.int v9), .val (.int v13), .val (.int v20), .val (.int p3), .val (.int p4), .val (.ref a32), .val (.ref a68), .val (.int (0 : Int32)), .val (.int v252), .val (.int v244), .val (.int (pick2F v244 v2 v9)), .val (.ref a254)] [(.int (1 : Int32))])
      refine w_retZ S245 hret (hb hby at_375) (by decide) (by decide) (by decide) ?_
      exact rfl
    · refine WGo.st (fun _ q => XS.ifYes S229.here hx rfl (pc0 := 308) (pc' := 325) rfl (hb hby at_308) rfl ((if0 _ _).trans (feq c308).2) (by decide) (by decide) q) ?_
      show WGo _ _ _ _ _ _ _ _ T228 (mkF m 325 #[.val (.long p1), .second, .val (.long p2), .second, .val (.int p3), .val (.int p4), .val (.int p5), .val (.int v2), .val (.int v9), .val (.int v13), .val (.int v20), .val (.int p3), .val (.int p4), .val (.ref a32), .val (.ref a68), .val (.int (0 : Int32)), .val (.int v252), .val (.int v244), .unset, .val (.ref a254)] [])
      refine WGo.st (fun _ q => XS.iload S229.here hx rfl (hb hby at_325) rfl q) ?_
      show WGo _ _ _ _ _ _ _ _ T228 (mkF m 327 #[.val (.long p1), .second, .val (.long p2), .second, .val (.int p3), .val (.int p4), .val (.int p5), .val (.int v2), .val (.int v9), .val (.int v13), .val (.int v20), .val (.int p3), .val (.int p4), .val (.ref a32), .val (.ref a68), .val (.int (0 : Int32)), .val (.int v252), .val (.int v244), .unset, .val (.ref a254)] [(.int v252)])
      refine WGo.st (fun _ q => XS.iconst S229.here hx rfl (hb hby at_327) q) ?_
      show WGo _ _ _ _ _ _ _ _ T228 (mkF m 328 #[.val (.long p1), .second, .val (.long p2), .second, .val (.int p3), .val (.int p4), .val (.int p5), .val (.int v2), .val (.int v9), .val (.int v13), .val (.int v20), .val (.int p3), .val (.int p4), .val (.ref a32), .val (.ref a68), .val (.int (0 : Int32)), .val (.int v252), .val (.int v244), .unset, .val (.ref a254)] [(.int (1 : Int32)), (.int v252)])
      by_cases c328 : v252 = (1 : Int32)
      · refine WGo.st (fun _ q => XS.icmpNo S229.here hx rfl (hb hby at_328) rfl (teq c328).2 q) ?_
        show WGo _ _ _ _ _ _ _ _ T228 (mkF m 331 #[.val (.long p1), .second, .val (.long p2), .second, .val (.int p3), .val (.int p4), .val (.int p5), .val (.int v2), .val (.int v9), .val (.int v13), .val (.int v20), .val (.int p3), .val (.int p4), .val (.ref a32), .val (.ref a68), .val (.int (0 : Int32)), .val (.int v252), .val (.int v244), .unset, .val (.ref a254)] [])
        refine WGo.st (fun _ q => XS.iload S229.here hx rfl (hb hby at_331) rfl q) ?_
        show WGo _ _ _ _ _ _ _ _ T228 (mkF m 333 #[.val (.long p1), .second, .val (.long p2), .second, .val (.int p3), .val (.int p4), .val (.int p5), .val (.int v2), .val (.int v9), .val (.int v13), .val (.int v20), .val (.int p3), .val (.int p4), .val (.ref a32), .val (.ref a68), .val (.int (0 : Int32)), .val (.int v252), .val (.int v244), .unset, .val (.ref a254)] [(.int v244)])
        refine WGo.st (fun _ q => XS.iload S229.here hx rfl (hb hby at_333) rfl q) ?_
        show WGo _ _ _ _ _ _ _ _ T228 (mkF m 335 #[.val (.long p1), .second, .val (.long p2), .second, .val (.int p3), .val (.int p4), .val (.int p5), .val (.int v2), .val (.int v9), .val (.int v13), .val (.int v20), .val (.int p3), .val (.int p4), .val (.ref a32), .val (.ref a68), .val (.int (0 : Int32)), .val (.int v252), .val (.int v244), .unset, .val (.ref a254)] [(.int v13), (.int v244)])
        refine WGo.st (fun _ q => XS.iload S229.here hx rfl (hb hby at_335) rfl q) ?_
        show WGo _ _ _ _ _ _ _ _ T228 (mkF m 337 #[.val (.long p1), .second, .val (.long p2), .second, .val (.int p3), .val (.int p4), .val (.int p5), .val (.int v2), .val (.int v9), .val (.int v13), .val (.int v20), .val (.int p3), .val (.int p4), .val (.ref a32), .val (.ref a68), .val (.int (0 : Int32)), .val (.int v252), .val (.int v244), .unset, .val (.ref a254)] [(.int v20), (.int v13), (.int v244)])
        refine w_static S229 (y := (⟨"com/example/pathweave/pathweave/routing/PatternArrivalPinLaw", "pick2", "(III)I"⟩ : MethodName)) hown (hw _ (List.mem_of_getElem? (i := 25) rfl)) (hw _ (List.mem_of_getElem? (i := 26) rfl)) (hw _ (List.mem_of_getElem? (i := 27) rfl)) (hw _ (List.mem_of_getElem? (i := 28) rfl)) (by decide) (rm_P2 l Z a0 hw n0 h230 v244 v13 v20 S229.ge) (W := 0) (by decide) (by decide) (by decide) (by decide) rfl (by rw [hml]; rfl) (argsL := [(.int v244), (.int v13), (.int v20)]) (rest := []) (ps := [.int, .int, .int]) (rt := (some .int)) (by decide) rfl rfl rfl (by show 2 * 0 + _ ≤ _; exact Nat.le_of_eq rfl) (hb hby at_337) ?_
        intro T249 h251 w252 S250 q253
        obtain ⟨q253a, q253b⟩ := q253
        subst q253a
        replace q253b := Eq.symm q253b
        subst q253b
        show WGo _ _ _ _ _ _ _ _ T249 (mkF m 340 #[.val (.long p1), .second, .val (.long p2), .second, .val (.int p3), .val (.int p4), .val (.int p5), .val (.int v2), .val (.int v9), .val (.int v13), .val (.int v20), .val (.int p3), .val (.int p4), .val (.ref a32), .val (.ref a68), .val (.int (0 : Int32)), .val (.int v252), .val (.int v244), .unset, .val (.ref a254)] [(.int (pick2F v244 v13 v20))])
        refine WGo.st (fun _ q => XS.istore S250.here hx rfl (hb hby at_340) rfl (l' := #[.val (.long p1), .second, .val (.long p2), .second, .val (.int p3), .val (.int p4), .val (.int p5), .val (.int v2), .val (.int v9), .val (.int v13), .val (.int v20), .val (.int p3), .val (.int p4), .val (.ref a32), .val (.ref a68), .val (.int (0 : Int32)), .val (.int v252), .val (.int v244), .val (.int (pick2F v244 v13 v20)), .val (.ref a254)]) rfl q) ?_
        show WGo _ _ _ _ _ _ _ _ T249 (mkF m 342 #[.val (.long p1), .second, .val (.long p2), .second, .val (.int p3), .val (.int p4), .val (.int p5), .val (.int v2), .val (.int v9), .val (.int v13), .val (.int v20), .val (.int p3), .val (.int p4), .val (.ref a32), .val (.ref a68), .val (.int (0 : Int32)), .val (.int v252), .val (.int v244), .val (.int (pick2F v244 v13 v20)), .val (.ref a254)] [])
        refine WGo.st (fun _ q => XS.goto S250.here hx rfl (pc0 := 342) (pc' := 356) rfl (hb hby at_342) (by decide) (by decide) q) ?_
        show WGo _ _ _ _ _ _ _ _ T249 (mkF m 356 #[.val (.long p1), .second, .val (.long p2), .second, .val (.int p3), .val (.int p4), .val (.int p5), .val (.int v2), .val (.int v9), .val (.int v13), .val (.int v20), .val (.int p3), .val (.int p4), .val (.ref a32), .val (.ref a68), .val (.int (0 : Int32)), .val (.int v252), .val (.int v244), .val (.int (pick2F v244 v13 v20)), .val (.ref a254)] [])
        refine WGo.st (fun _ q => XS.aload S250.here hx rfl (hb hby at_356) rfl rfl q) ?_
        show WGo _ _ _ _ _ _ _ _ T249 (mkF m 358 #[.val (.long p1), .second, .val (.long p2), .second, .val (.int p3), .val (.int p4), .val (.int p5), .val (.int v2), .val (.int v9), .val (.int v13), .val (.int v20), .val (.int p3), .val (.int p4), .val (.ref a32), .val (.ref a68), .val (.int (0 : Int32)), .val (.int v252), .val (.int v244), .val (.int (pick2F v244 v13 v20)), .val (.ref a254)] [(.ref a254)])
        refine WGo.st (fun _ q => XS.iload S250.here hx rfl (hb hby at_358) rfl q) ?_
        show WGo _ _ _ _ _ _ _ _ T249 (mkF m 360 #[.val (.long p1), .second, .val (.long p2), .second, .val (.int p3), .val (.int p4), .val (.int p5), .val (.int v2), .val (.int v9), .val (.int v13), .val (.int v20), .val (.int p3), .val (.int p4), .val (.ref a32), .val (.ref a68), .val (.int (0 : Int32)), .val (.int v252), .val (.int v244), .val (.int (pick2F v244 v13 v20)), .val (.ref a254)] [(.int v252), (.ref a254)])
        refine WGo.st (fun _ q => XS.iload S250.here hx rfl (hb hby at_360) rfl q) ?_
        show WGo _ _ _ _ _ _ _ _ T249 (mkF m 362 #[.val (.long p1), .second, .val (.long p2), .second, .val (.int p3), .val (.int p4), .val (.int p5), .val (.int v2), .val (.int v9), .val (.int v13), .val (.int v20), .val (.int p3), .val (.int p4), .val (.ref a32), .val (.ref a68), .val (.int (0 : Int32)), .val (.int v252), .val (.int v244), .val (.int (pick2F v244 v13 v20)), .val (.ref a254)] [(.int v244), (.int v252), (.ref a254)])
        refine w_virtual S250 (y := (⟨"com/example/pathweave/pathweave/routing/Pattern", "arrival", "(II)I"⟩ : MethodName)) hown (hw _ (List.mem_of_getElem? (i := 29) rfl)) (hw _ (List.mem_of_getElem? (i := 30) rfl)) (hw _ (List.mem_of_getElem? (i := 32) rfl)) (hw _ (List.mem_of_getElem? (i := 31) rfl)) (hw _ (List.mem_of_getElem? (i := 3) rfl)) (hw _ (List.mem_of_getElem? (i := 33) rfl)) (by decide) q232f0 (rm_Ar l Z a0 hw n0 h230 a254 v252 v244 a261 a32 [(10 : Int32), (11 : Int32)] [v2, v9, v13, v20, p3, p4] (2 : Int32) S250.ge q232f1 q232f3 f235 f233 rfl hix.1 hix.2) (W := 0) (by decide) (by decide) (by decide) (by decide) rfl (by rw [hml]; rfl) (argsL := [(.int v252), (.int v244)]) (rest := []) (ps := [.int, .int]) (rt := (some .int)) (by decide) rfl rfl rfl (by show 2 * 0 + _ ≤ _; exact Nat.le_of_eq rfl) (hb hby at_362) ?_
        intro T254 h256 w257 S255 q258
        obtain ⟨q258a, q258b⟩ := q258
        subst q258a
        replace q258b := Eq.symm q258b
        subst q258b
        show WGo _ _ _ _ _ _ _ _ T254 (mkF m 365 #[.val (.long p1), .second, .val (.long p2), .second, .val (.int p3), .val (.int p4), .val (.int p5), .val (.int v2), .val (.int v9), .val (.int v13), .val (.int v20), .val (.int p3), .val (.int p4), .val (.ref a32), .val (.ref a68), .val (.int (0 : Int32)), .val (.int v252), .val (.int v244), .val (.int (pick2F v244 v13 v20)), .val (.ref a254)] [(.int (gi [v2, v9, v13, v20, p3, p4] ((v252 * (2 : Int32)) + v244)))])
        refine WGo.st (fun _ q => XS.iload S255.here hx rfl (hb hby at_365) rfl q) ?_
        show WGo _ _ _ _ _ _ _ _ T254 (mkF m 367 #[.val (.long p1), .second, .val (.long p2), .second, .val (.int p3), .val (.int p4), .val (.int p5), .val (.int v2), .val (.int v9), .val (.int v13), .val (.int v20), .val (.int p3), .val (.int p4), .val (.ref a32), .val (.ref a68), .val (.int (0 : Int32)), .val (.int v252), .val (.int v244), .val (.int (pick2F v244 v13 v20)), .val (.ref a254)] [(.int (pick2F v244 v13 v20)), (.int (gi [v2, v9, v13, v20, p3, p4] ((v252 * (2 : Int32)) + v244)))])
        refine WGo.st (fun _ q => XS.icmpNo S255.here hx rfl (hb hby at_367) rfl (teq (g21 c328 hp)).2 q) ?_
        show WGo _ _ _ _ _ _ _ _ T254 (mkF m 370 #[.val (.long p1), .second, .val (.long p2), .second, .val (.int p3), .val (.int p4), .val (.int p5), .val (.int v2), .val (.int v9), .val (.int v13), .val (.int v20), .val (.int p3), .val (.int p4), .val (.ref a32), .val (.ref a68), .val (.int (0 : Int32)), .val (.int v252), .val (.int v244), .val (.int (pick2F v244 v13 v20)), .val (.ref a254)] [])
        refine WGo.st (fun _ q => XS.iconst S255.here hx rfl (hb hby at_370) q) ?_
        show WGo _ _ _ _ _ _ _ _ T254 (mkF m 371 #[.val (.long p1), .second, .val (.long p2), .second, .val (.int p3), .val (.int p4), .val (.int p5), .val (.int v2), .val (.int v9), .val (.int v13), .val (.int v20), .val (.int p3), .val (.int p4), .val (.ref a32), .val (.ref a68), .val (.int (0 : Int32)), .val (.int v252), .val (.int v244), .val (.int (pick2F v244 v13 v20)), .val (.ref a254)] [(.int (1 : Int32))])
        refine WGo.st (fun _ q => XS.goto S255.here hx rfl (pc0 := 371) (pc' := 375) rfl (hb hby at_371) (by decide) (by decide) q) ?_
        show WGo _ _ _ _ _ _ _ _ T254 (mkF m 375 #[.val (.long p1), .second, .val (.long p2), .second, .val (.int p3), .val (.int p4), .val (.int p5), .val (.int v2), .val (.int v9), .val (.int v13), .val (.int v20), .val (.int p3), .val (.int p4), .val (.ref a32), .val (.ref a68), .val (.int (0 : Int32)), .val (.int v252), .val (.int v244), .val (.int (pick2F v244 v13 v20)), .val (.ref a254)] [(.int (1 : Int32))])
        refine w_retZ S255 hret (hb hby at_375) (by decide) (by decide) (by decide) ?_
        exact rfl
      · refine WGo.st (fun _ q => XS.icmpYes S229.here hx rfl (pc0 := 328) (pc' := 345) rfl (hb hby at_328) rfl (feq c328).2 (by decide) (by decide) q) ?_
        show WGo _ _ _ _ _ _ _ _ T228 (mkF m 345 #[.val (.long p1), .second, .val (.long p2), .second, .val (.int p3), .val (.int p4), .val (.int p5), .val (.int v2), .val (.int v9), .val (.int v13), .val (.int v20), .val (.int p3), .val (.int p4), .val (.ref a32), .val (.ref a68), .val (.int (0 : Int32)), .val (.int v252), .val (.int v244), .unset, .val (.ref a254)] [])
        refine WGo.st (fun _ q => XS.iload S229.here hx rfl (hb hby at_345) rfl q) ?_
        show WGo _ _ _ _ _ _ _ _ T228 (mkF m 347 #[.val (.long p1), .second, .val (.long p2), .second, .val (.int p3), .val (.int p4), .val (.int p5), .val (.int v2), .val (.int v9), .val (.int v13), .val (.int v20), .val (.int p3), .val (.int p4), .val (.ref a32), .val (.ref a68), .val (.int (0 : Int32)), .val (.int v252), .val (.int v244), .unset, .val (.ref a254)] [(.int v244)])
        refine WGo.st (fun _ q => XS.iload S229.here hx rfl (hb hby at_347) rfl q) ?_
        show WGo _ _ _ _ _ _ _ _ T228 (mkF m 349 #[.val (.long p1), .second, .val (.long p2), .second, .val (.int p3), .val (.int p4), .val (.int p5), .val (.int v2), .val (.int v9), .val (.int v13), .val (.int v20), .val (.int p3), .val (.int p4), .val (.ref a32), .val (.ref a68), .val (.int (0 : Int32)), .val (.int v252), .val (.int v244), .unset, .val (.ref a254)] [(.int p3), (.int v244)])
        refine WGo.st (fun _ q => XS.iload S229.here hx rfl (hb hby at_349) rfl q) ?_
        show WGo _ _ _ _ _ _ _ _ T228 (mkF m 351 #[.val (.long p1), .second, .val (.long p2), .second, .val (.int p3), .val (.int p4), .val (.int p5), .val (.int v2), .val (.int v9), .val (.int v13), .val (.int v20), .val (.int p3), .val (.int p4), .val (.ref a32), .val (.ref a68), .val (.int (0 : Int32)), .val (.int v252), .val (.int v244), .unset, .val (.ref a254)] [(.int p4), (.int p3), (.int v244)])
        refine w_static S229 (y := (⟨"com/example/pathweave/pathweave/routing/PatternArrivalPinLaw", "pick2", "(III)I"⟩ : MethodName)) hown (hw _ (List.mem_of_getElem? (i := 25) rfl)) (hw _ (List.mem_of_getElem? (i := 26) rfl)) (hw _ (List.mem_of_getElem? (i := 27) rfl)) (hw _ (List.mem_of_getElem? (i := 28) rfl)) (by decide) (rm_P2 l Z a0 hw n0 h230 v244 p3 p4 S229.ge) (W := 0) (by decide) (by decide) (by decide) (by decide) rfl (by rw [hml]; rfl) (argsL := [(.int v244), (.int p3), (.int p4)]) (rest := []) (ps := [.int, .int, .int]) (rt := (some .int)) (by decide) rfl rfl rfl (by show 2 * 0 + _ ≤ _; exact Nat.le_of_eq rfl) (hb hby at_351) ?_
        intro T259 h261 w262 S260 q263
        obtain ⟨q263a, q263b⟩ := q263
        subst q263a
        replace q263b := Eq.symm q263b
        subst q263b
        show WGo _ _ _ _ _ _ _ _ T259 (mkF m 354 #[.val (.long p1), .second, .val (.long p2), .second, .val (.int p3), .val (.int p4), .val (.int p5), .val (.int v2), .val (.int v9), .val (.int v13), .val (.int v20), .val (.int p3), .val (.int p4), .val (.ref a32), .val (.ref a68), .val (.int (0 : Int32)), .val (.int v252), .val (.int v244), .unset, .val (.ref a254)] [(.int (pick2F v244 p3 p4))])
        refine WGo.st (fun _ q => XS.istore S260.here hx rfl (hb hby at_354) rfl (l' := #[.val (.long p1), .second, .val (.long p2), .second, .val (.int p3), .val (.int p4), .val (.int p5), .val (.int v2), .val (.int v9), .val (.int v13), .val (.int v20), .val (.int p3), .val (.int p4), .val (.ref a32), .val (.ref a68), .val (.int (0 : Int32)), .val (.int v252), .val (.int v244), .val (.int (pick2F v244 p3 p4)), .val (.ref a254)]) rfl q) ?_
        show WGo _ _ _ _ _ _ _ _ T259 (mkF m 356 #[.val (.long p1), .second, .val (.long p2), .second, .val (.int p3), .val (.int p4), .val (.int p5), .val (.int v2), .val (.int v9), .val (.int v13), .val (.int v20), .val (.int p3), .val (.int p4), .val (.ref a32), .val (.ref a68), .val (.int (0 : Int32)), .val (.int v252), .val (.int v244), .val (.int (pick2F v244 p3 p4)), .val (.ref a254)] [])
        refine WGo.st (fun _ q => XS.aload S260.here hx rfl (hb hby at_356) rfl rfl q) ?_
        show WGo _ _ _ _ _ _ _ _ T259 (mkF m 358 #[.val (.long p1), .second, .val (.long p2), .second, .val (.int p3), .val (.int p4), .val (.int p5), .val (.int v2), .val (.int v9), .val (.int v13), .val (.int v20), .val (.int p3), .val (.int p4), .val (.ref a32), .val (.ref a68), .val (.int (0 : Int32)), .val (.int v252), .val (.int v244), .val (.int (pick2F v244 p3 p4)), .val (.ref a254)] [(.ref a254)])
        refine WGo.st (fun _ q => XS.iload S260.here hx rfl (hb hby at_358) rfl q) ?_
        show WGo _ _ _ _ _ _ _ _ T259 (mkF m 360 #[.val (.long p1), .second, .val (.long p2), .second, .val (.int p3), .val (.int p4), .val (.int p5), .val (.int v2), .val (.int v9), .val (.int v13), .val (.int v20), .val (.int p3), .val (.int p4), .val (.ref a32), .val (.ref a68), .val (.int (0 : Int32)), .val (.int v252), .val (.int v244), .val (.int (pick2F v244 p3 p4)), .val (.ref a254)] [(.int v252), (.ref a254)])
        refine WGo.st (fun _ q => XS.iload S260.here hx rfl (hb hby at_360) rfl q) ?_
        show WGo _ _ _ _ _ _ _ _ T259 (mkF m 362 #[.val (.long p1), .second, .val (.long p2), .second, .val (.int p3), .val (.int p4), .val (.int p5), .val (.int v2), .val (.int v9), .val (.int v13), .val (.int v20), .val (.int p3), .val (.int p4), .val (.ref a32), .val (.ref a68), .val (.int (0 : Int32)), .val (.int v252), .val (.int v244), .val (.int (pick2F v244 p3 p4)), .val (.ref a254)] [(.int v244), (.int v252), (.ref a254)])
        refine w_virtual S260 (y := (⟨"com/example/pathweave/pathweave/routing/Pattern", "arrival", "(II)I"⟩ : MethodName)) hown (hw _ (List.mem_of_getElem? (i := 29) rfl)) (hw _ (List.mem_of_getElem? (i := 30) rfl)) (hw _ (List.mem_of_getElem? (i := 32) rfl)) (hw _ (List.mem_of_getElem? (i := 31) rfl)) (hw _ (List.mem_of_getElem? (i := 3) rfl)) (hw _ (List.mem_of_getElem? (i := 33) rfl)) (by decide) q232f0 (rm_Ar l Z a0 hw n0 h230 a254 v252 v244 a261 a32 [(10 : Int32), (11 : Int32)] [v2, v9, v13, v20, p3, p4] (2 : Int32) S260.ge q232f1 q232f3 f235 f233 rfl hix.1 hix.2) (W := 0) (by decide) (by decide) (by decide) (by decide) rfl (by rw [hml]; rfl) (argsL := [(.int v252), (.int v244)]) (rest := []) (ps := [.int, .int]) (rt := (some .int)) (by decide) rfl rfl rfl (by show 2 * 0 + _ ≤ _; exact Nat.le_of_eq rfl) (hb hby at_362) ?_
        intro T264 h266 w267 S265 q268
        obtain ⟨q268a, q268b⟩ := q268
        subst q268a
        replace q268b := Eq.symm q268b
        subst q268b
        show WGo _ _ _ _ _ _ _ _ T264 (mkF m 365 #[.val (.long p1), .second, .val (.long p2), .second, .val (.int p3), .val (.int p4), .val (.int p5), .val (.int v2), .val (.int v9), .val (.int v13), .val (.int v20), .val (.int p3), .val (.int p4), .val (.ref a32), .val (.ref a68), .val (.int (0 : Int32)), .val (.int v252), .val (.int v244), .val (.int (pick2F v244 p3 p4)), .val (.ref a254)] [(.int (gi [v2, v9, v13, v20, p3, p4] ((v252 * (2 : Int32)) + v244)))])
        refine WGo.st (fun _ q => XS.iload S265.here hx rfl (hb hby at_365) rfl q) ?_
        show WGo _ _ _ _ _ _ _ _ T264 (mkF m 367 #[.val (.long p1), .second, .val (.long p2), .second, .val (.int p3), .val (.int p4), .val (.int p5), .val (.int v2), .val (.int v9), .val (.int v13), .val (.int v20), .val (.int p3), .val (.int p4), .val (.ref a32), .val (.ref a68), .val (.int (0 : Int32)), .val (.int v252), .val (.int v244), .val (.int (pick2F v244 p3 p4)), .val (.ref a254)] [(.int (pick2F v244 p3 p4)), (.int (gi [v2, v9, v13, v20, p3, p4] ((v252 * (2 : Int32)) + v244)))])
        refine WGo.st (fun _ q => XS.icmpNo S265.here hx rfl (hb hby at_367) rfl (teq (g22 ((hi.resolve_left c308).resolve_left c328) hp)).2 q) ?_
        show WGo _ _ _ _ _ _ _ _ T264 (mkF m 370 #[.val (.long p1), .second, .val (.long p2), .second, .val (.int p3), .val (.int p4), .val (.int p5), .val (.int v2), .val (.int v9), .val (.int v13), .val (.int v20), .val (.int p3), .val (.int p4), .val (.ref a32), .val (.ref a68), .val (.int (0 : Int32)), .val (.int v252), .val (.int v244), .val (.int (pick2F v244 p3 p4)), .val (.ref a254)] [])
        refine WGo.st (fun _ q => XS.iconst S265.here hx rfl (hb hby at_370) q) ?_
        show WGo _ _ _ _ _ _ _ _ T264 (mkF m 371 #[.val (.long p1), .second, .val (.long p2), .second, .val (.int p3), .val (.int p4), .val (.int p5), .val (.int v2), .val (.int v9), .val (.int v13), .val (.int v20), .val (.int p3), .val (.int p4), .val (.ref a32), .val (.ref a68), .val (.int (0 : Int32)), .val (.int v252), .val (.int v244), .val (.int (pick2F v244 p3 p4)), .val (.ref a254)] [(.int (1 : Int32))])
        refine WGo.st (fun _ q => XS.goto S265.here hx rfl (pc0 := 371) (pc' := 375) rfl (hb hby at_371) (by decide) (by decide) q) ?_
        show WGo _ _ _ _ _ _ _ _ T264 (mkF m 375 #[.val (.long p1), .second, .val (.long p2), .second, .val (.int p3), .val (.int p4), .val (.int p5), .val (.int v2), .val (.int v9), .val (.int v13), .val (.int v20), .val (.int p3), .val (.int p4), .val (.ref a32), .val (.ref a68), .val (.int (0 : Int32)), .val (.int v252), .val (.int v244), .val (.int (pick2F v244 p3 p4)), .val (.ref a254)] [(.int (1 : Int32))])
        refine w_retZ S265 hret (hb hby at_375) (by decide) (by decide) (by decide) ?_
        exact rfl
  · refine WGo.st (fun _ q => XS.ifNo S72.here hx rfl (hb hby at_118) rfl ((if0 _ _).trans (feq c118).1) q) ?_
    show WGo _ _ _ _ _ _ _ _ T70 (mkF m 121 #[.val (.long p1), .second, .val (.long p2), .second, .val (.int p3), .val (.int p4), .val (.int p5), .val (.int v2), .val (.int v9), .val (.int v13), .val (.int v20), .val (.int p3), .val (.int p4), .val (.ref a32), .val (.ref a68), .unset, .unset, .unset, .unset, .unset] [])
    refine WGo.st (fun _ q => XS.iconst S72.here hx rfl (hb hby at_121) q) ?_
    show WGo _ _ _ _ _ _ _ _ T70 (mkF m 122 #[.val (.long p1), .second, .val (.long p2), .second, .val (.int p3), .val (.int p4), .val (.int p5), .val (.int v2), .val (.int v9), .val (.int v13), .val (.int v20), .val (.int p3), .val (.int p4), .val (.ref a32), .val (.ref a68), .unset, .unset, .unset, .unset, .unset] [(.int (1 : Int32))])
    refine WGo.st (fun _ q => XS.goto S72.here hx rfl (pc0 := 122) (pc' := 126) rfl (hb hby at_122) (by decide) (by decide) q) ?_
    show WGo _ _ _ _ _ _ _ _ T70 (mkF m 126 #[.val (.long p1), .second, .val (.long p2), .second, .val (.int p3), .val (.int p4), .val (.int p5), .val (.int v2), .val (.int v9), .val (.int v13), .val (.int v20), .val (.int p3), .val (.int p4), .val (.ref a32), .val (.ref a68), .unset, .unset, .unset, .unset, .unset] [(.int (1 : Int32))])
    refine WGo.st (fun _ q => XS.istore S72.here hx rfl (hb hby at_126) rfl (l' := #[.val (.long p1), .second, .val (.long p2), .second, .val (.int p3), .val (.int p4), .val (.int p5), .val (.int v2), .val (.int v9), .val (.int v13), .val (.int v20), .val (.int p3), .val (.int p4), .val (.ref a32), .val (.ref a68), .val (.int (1 : Int32)), .unset, .unset, .unset, .unset]) rfl q) ?_
    show WGo _ _ _ _ _ _ _ _ T70 (mkF m 128 #[.val (.long p1), .second, .val (.long p2), .second, .val (.int p3), .val (.int p4), .val (.int p5), .val (.int v2), .val (.int v9), .val (.int v13), .val (.int v20), .val (.int p3), .val (.int p4), .val (.ref a32), .val (.ref a68), .val (.int (1 : Int32)), .unset, .unset, .unset, .unset] [])
    refine WGo.st (fun _ q => XS.iload S72.here hx rfl (hb hby at_128) rfl q) ?_
    show WGo _ _ _ _ _ _ _ _ T70 (mkF m 130 #[.val (.long p1), .second, .val (.long p2), .second, .val (.int p3), .val (.int p4), .val (.int p5), .val (.int v2), .val (.int v9), .val (.int v13), .val (.int v20), .val (.int p3), .val (.int p4), .val (.ref a32), .val (.ref a68), .val (.int (1 : Int32)), .unset, .unset, .unset, .unset] [(.int (1 : Int32))])
    refine WGo.st (fun _ q => XS.ifNo S72.here hx rfl (hb hby at_130) rfl ((if0 _ _).trans (feq (by decide : ¬ ((1 : Int32) = (0 : Int32)))).1) q) ?_
    show WGo _ _ _ _ _ _ _ _ T70 (mkF m 133 #[.val (.long p1), .second, .val (.long p2), .second, .val (.int p3), .val (.int p4), .val (.int p5), .val (.int v2), .val (.int v9), .val (.int v13), .val (.int v20), .val (.int p3), .val (.int p4), .val (.ref a32), .val (.ref a68), .val (.int (1 : Int32)), .unset, .unset, .unset, .unset] [])
    refine WGo.st (fun _ q => XS.iload S72.here hx rfl (hb hby at_133) rfl q) ?_
    show WGo _ _ _ _ _ _ _ _ T70 (mkF m 135 #[.val (.long p1), .second, .val (.long p2), .second, .val (.int p3), .val (.int p4), .val (.int p5), .val (.int v2), .val (.int v9), .val (.int v13), .val (.int v20), .val (.int p3), .val (.int p4), .val (.ref a32), .val (.ref a68), .val (.int (1 : Int32)), .unset, .unset, .unset, .unset] [(.int p5)])
    refine WGo.st (fun _ q => XS.iconst S72.here hx rfl (hb hby at_135) q) ?_
    show WGo _ _ _ _ _ _ _ _ T70 (mkF m 136 #[.val (.long p1), .second, .val (.long p2), .second, .val (.int p3), .val (.int p4), .val (.int p5), .val (.int v2), .val (.int v9), .val (.int v13), .val (.int v20), .val (.int p3), .val (.int p4), .val (.ref a32), .val (.ref a68), .val (.int (1 : Int32)), .unset, .unset, .unset, .unset] [(.int (1 : Int32)), (.int p5)])
    refine WGo.st (fun _ q => XS.iushr S72.here hx rfl (hb hby at_136) rfl q) ?_
    show WGo _ _ _ _ _ _ _ _ T70 (mkF m 137 #[.val (.long p1), .second, .val (.long p2), .second, .val (.int p3), .val (.int p4), .val (.int p5), .val (.int v2), .val (.int v9), .val (.int v13), .val (.int v20), .val (.int p3), .val (.int p4), .val (.ref a32), .val (.ref a68), .val (.int (1 : Int32)), .unset, .unset, .unset, .unset] [(.int ((p5.toUInt32 >>> ((1 : Int32) &&& 31).toUInt32).toInt32))])
    refine WGo.st (fun _ q => XS.iconst S72.here hx rfl (hb hby at_137) q) ?_
    show WGo _ _ _ _ _ _ _ _ T70 (mkF m 138 #[.val (.long p1), .second, .val (.long p2), .second, .val (.int p3), .val (.int p4), .val (.int p5), .val (.int v2), .val (.int v9), .val (.int v13), .val (.int v20), .val (.int p3), .val (.int p4), .val (.ref a32), .val (.ref a68), .val (.int (1 : Int32)), .unset, .unset, .unset, .unset] [(.int (1 : Int32)), (.int ((p5.toUInt32 >>> ((1 : Int32) &&& 31).toUInt32).toInt32))])
    refine WGo.st (fun _ q => XS.iand S72.here hx rfl (hb hby at_138) rfl q) ?_
    show WGo _ _ _ _ _ _ _ _ T70 (mkF m 139 #[.val (.long p1), .second, .val (.long p2), .second, .val (.int p3), .val (.int p4), .val (.int p5), .val (.int v2), .val (.int v9), .val (.int v13), .val (.int v20), .val (.int p3), .val (.int p4), .val (.ref a32), .val (.ref a68), .val (.int (1 : Int32)), .unset, .unset, .unset, .unset] [(.int (((p5.toUInt32 >>> ((1 : Int32) &&& 31).toUInt32).toInt32) &&& (1 : Int32)))])
    refine WGo.st (fun _ q => XS.istore S72.here hx rfl (hb hby at_139) rfl (l' := #[.val (.long p1), .second, .val (.long p2), .second, .val (.int p3), .val (.int p4), .val (.int p5), .val (.int v2), .val (.int v9), .val (.int v13), .val (.int v20), .val (.int p3), .val (.int p4), .val (.ref a32), .val (.ref a68), .val (.int (1 : Int32)), .val (.int (((p5.toUInt32 >>> ((1 : Int32) &&& 31).toUInt32).toInt32) &&& (1 : Int32))), .unset, .unset, .unset]) rfl q) ?_
    show WGo _ _ _ _ _ _ _ _ T70 (mkF m 141 #[.val (.long p1), .second, .val (.long p2), .second, .val (.int p3), .val (.int p4), .val (.int p5), .val (.int v2), .val (.int v9), .val (.int v13), .val (.int v20), .val (.int p3), .val (.int p4), .val (.ref a32), .val (.ref a68), .val (.int (1 : Int32)), .val (.int (((p5.toUInt32 >>> ((1 : Int32) &&& 31).toUInt32).toInt32) &&& (1 : Int32))), .unset, .unset, .unset] [])
    generalize hv139 : (((p5.toUInt32 >>> ((1 : Int32) &&& 31).toUInt32).toInt32) &&& (1 : Int32)) = v139
    show WGo _ _ _ _ _ _ _ _ T70 (mkF m 141 #[.val (.long p1), .second, .val (.long p2), .second, .val (.int p3), .val (.int p4), .val (.int p5), .val (.int v2), .val (.int v9), .val (.int v13), .val (.int v20), .val (.int p3), .val (.int p4), .val (.ref a32), .val (.ref a68), .val (.int (1 : Int32)), .val (.int v139), .unset, .unset, .unset] [])
    refine WGo.st (fun _ q => XS.iload S72.here hx rfl (hb hby at_141) rfl q) ?_
    show WGo _ _ _ _ _ _ _ _ T70 (mkF m 143 #[.val (.long p1), .second, .val (.long p2), .second, .val (.int p3), .val (.int p4), .val (.int p5), .val (.int v2), .val (.int v9), .val (.int v13), .val (.int v20), .val (.int p3), .val (.int p4), .val (.ref a32), .val (.ref a68), .val (.int (1 : Int32)), .val (.int v139), .unset, .unset, .unset] [(.int p5)])
    refine WGo.st (fun _ q => XS.iconst S72.here hx rfl (hb hby at_143) q) ?_
    show WGo _ _ _ _ _ _ _ _ T70 (mkF m 144 #[.val (.long p1), .second, .val (.long p2), .second, .val (.int p3), .val (.int p4), .val (.int p5), .val (.int v2), .val (.int v9), .val (.int v13), .val (.int v20), .val (.int p3), .val (.int p4), .val (.ref a32), .val (.ref a68), .val (.int (1 : Int32)), .val (.int v139), .unset, .unset, .unset] [(.int (2 : Int32)), (.int p5)])
    refine WGo.st (fun _ q => XS.iushr S72.here hx rfl (hb hby at_144) rfl q) ?_
    show WGo _ _ _ _ _ _ _ _ T70 (mkF m 145 #[.val (.long p1), .second, .val (.long p2), .second, .val (.int p3), .val (.int p4), .val (.int p5), .val (.int v2), .val (.int v9), .val (.int v13), .val (.int v20), .val (.int p3), .val (.int p4), .val (.ref a32), .val (.ref a68), .val (.int (1 : Int32)), .val (.int v139), .unset, .unset, .unset] [(.int ((p5.toUInt32 >>> ((2 : Int32) &&& 31).toUInt32).toInt32))])
    refine WGo.st (fun _ q => XS.iconst S72.here hx rfl (hb hby at_145) q) ?_
    show WGo _ _ _ _ _ _ _ _ T70 (mkF m 146 #[.val (.long p1), .second, .val (.long p2), .second, .val (.int p3), .val (.int p4), .val (.int p5), .val (.int v2), .val (.int v9), .val (.int v13), .val (.int v20), .val (.int p3), .val (.int p4), .val (.ref a32), .val (.ref a68), .val (.int (1 : Int32)), .val (.int v139), .unset, .unset, .unset] [(.int (3 : Int32)), (.int ((p5.toUInt32 >>> ((2 : Int32) &&& 31).toUInt32).toInt32))])
    refine w_irem S72 rfl (hb hby at_146) rfl (by decide) ?_
    show WGo _ _ _ _ _ _ _ _ T70 (mkF m 147 #[.val (.long p1), .second, .val (.long p2), .second, .val (.int p3), .val (.int p4), .val (.int p5), .val (.int v2), .val (.int v9), .val (.int v13), .val (.int v20), .val (.int p3), .val (.int p4), .val (.ref a32), .val (.ref a68), .val (.int (1 : Int32)), .val (.int v139), .unset, .unset, .unset] [(.int (((p5.toUInt32 >>> ((2 : Int32) &&& 31).toUInt32).toInt32) % (3 : Int32)))])
    refine WGo.st (fun _ q => XS.istore S72.here hx rfl (hb hby at_147) rfl (l' := #[.val (.long p1), .second, .val (.long p2), .second, .val (.int p3), .val (.int p4), .val (.int p5), .val (.int v2), .val (.int v9), .val (.int v13), .val (.int v20), .val (.int p3), .val (.int p4), .val (.ref a32), .val (.ref a68), .val (.int (1 : Int32)), .val (.int v139), .val (.int (((p5.toUInt32 >>> ((2 : Int32) &&& 31).toUInt32).toInt32) % (3 : Int32))), .unset, .unset]) rfl q) ?_
    show WGo _ _ _ _ _ _ _ _ T70 (mkF m 149 #[.val (.long p1), .second, .val (.long p2), .second, .val (.int p3), .val (.int p4), .val (.int p5), .val (.int v2), .val (.int v9), .val (.int v13), .val (.int v20), .val (.int p3), .val (.int p4), .val (.ref a32), .val (.ref a68), .val (.int (1 : Int32)), .val (.int v139), .val (.int (((p5.toUInt32 >>> ((2 : Int32) &&& 31).toUInt32).toInt32) % (3 : Int32))), .unset, .unset] [])
    generalize hv147 : (((p5.toUInt32 >>> ((2 : Int32) &&& 31).toUInt32).toInt32) % (3 : Int32)) = v147
    show WGo _ _ _ _ _ _ _ _ T70 (mkF m 149 #[.val (.long p1), .second, .val (.long p2), .second, .val (.int p3), .val (.int p4), .val (.int p5), .val (.int v2), .val (.int v9), .val (.int v13), .val (.int v20), .val (.int p3), .val (.int p4), .val (.ref a32), .val (.ref a68), .val (.int (1 : Int32)), .val (.int v139), .val (.int v147), .unset, .unset] [])
    refine w_new S72 hown (hw _ (List.mem_of_getElem? (i := 1) rfl)) (hw _ (List.mem_of_getElem? (i := 2) rfl)) (hw _ (List.mem_of_getElem? (i := 3) rfl)) rfl (hb hby at_149) (by decide) (by decide) ?_
    intro T269 h270 a149 S271 K272 e_a149 g_a149 E_a149 D_a149
    have n_a32_a149 : a32 ≠ a149 := by rw [e_a149]; exact Nat.ne_of_lt f75.lt
    have n_a68_a149 : a68 ≠ a149 := by rw [e_a149]; exact Nat.ne_of_lt A74.lt
    have f273 := AI.keep f75 K272 nin0
    have f274 := AI.keep A74 K272 nin0
    have F_a149_route : Fld Z h270 a149 "com/example/pathweave/pathweave/routing/Pattern" "route" "I" (.int (0 : Int32)) := D_a149 (Or.inr (hw _ (List.mem_of_getElem? (i := 12) rfl))) (ty := .int) (by decide)
    have F_a149_stops : Fld Z h270 a149 "com/example/pathweave/pathweave/routing/Pattern" "stops" "[I" (.null) := D_a149 (Or.inr (hw _ (List.mem_of_getElem? (i := 14) rfl))) (ty := (.array .int)) (by decide)
    have F_a149_pickups : Fld Z h270 a149 "com/example/pathweave/pathweave/routing/Pattern" "pickups" "[Z" (.null) := D_a149 (Or.inr (hw _ (List.mem_of_getElem? (i := 16) rfl))) (ty := (.array .boolean)) (by decide)
    have F_a149_dropOffs : Fld Z h270 a149 "com/example/pathweave/pathweave/routing/Pattern" "dropOffs" "[Z" (.null) := D_a149 (Or.inr (hw _ (List.mem_of_getElem? (i := 18) rfl))) (ty := (.array .boolean)) (by decide)
    have F_a149_trips : Fld Z h270 a149 "com/example/pathweave/pathweave/routing/Pattern" "trips" "[I" (.null) := D_a149 (Or.inr (hw _ (List.mem_of_getElem? (i := 20) rfl))) (ty := (.array .int)) (by decide)
    have F_a149_arrivals : Fld Z h270 a149 "com/example/pathweave/pathweave/routing/Pattern" "arrivals" "[I" (.null) := D_a149 (Or.inr (hw _ (List.mem_of_getElem? (i := 22) rfl))) (ty := (.array .int)) (by decide)
    have F_a149_departures : Fld Z h270 a149 "com/example/pathweave/pathweave/routing/Pattern" "departures" "[I" (.null) := D_a149 (Or.inr (hw _ (List.mem_of_getElem? (i := 24) rfl))) (ty := (.array .int)) (by decide)
    show WGo _ _ _ _ _ _ _ _ T269 (mkF m 152 #[.val (.long p1), .second, .val (.long p2), .second, .val (.int p3), .val (.int p4), .val (.int p5), .val (.int v2), .val (.int v9), .val (.int v13), .val (.int v20), .val (.int p3), .val (.int p4), .val (.ref a32), .val (.ref a68), .val (.int (1 : Int32)), .val (.int v139), .val (.int v147), .unset, .unset] [(.ref a149)])
    refine WGo.st (fun _ q => XS.dup S271.here hx rfl (hb hby at_152) rfl rfl q) ?_
    show WGo _ _ _ _ _ _ _ _ T269 (mkF m 153 #[.val (.long p1), .second, .val (.long p2), .second, .val (.int p3), .val (.int p4), .val (.int p5), .val (.int v2), .val (.int v9), .val (.int v13), .val (.int v20), .val (.int p3), .val (.int p4), .val (.ref a32), .val (.ref a68), .val (.int (1 : Int32)), .val (.int v139), .val (.int v147), .unset, .unset] [(.ref a149), (.ref a149)])
    refine WGo.st (fun _ q => XS.bipush S271.here hx rfl (hb hby at_153) q) ?_
    show WGo _ _ _ _ _ _ _ _ T269 (mkF m 155 #[.val (.long p1), .second, .val (.long p2), .second, .val (.int p3), .val (.int p4), .val (.int p5), .val (.int v2), .val (.int v9), .val (.int v13), .val (.int v20), .val (.int p3), .val (.int p4), .val (.ref a32), .val (.ref a68), .val (.int (1 : Int32)), .val (.int v139), .val (.int v147), .unset, .unset] [(.int (7 : Int32)), (.ref a149), (.ref a149)])
    refine WGo.st (fun _ q => XS.iconst S271.here hx rfl (hb hby at_155) q) ?_
    show WGo _ _ _ _ _ _ _ _ T269 (mkF m 156 #[.val (.long p1), .second, .val (.long p2), .second, .val (.int p3), .val (.int p4), .val (.int p5), .val (.int v2), .val (.int v9), .val (.int v13), .val (.int v20), .val (.int p3), .val (.int p4), .val (.ref a32), .val (.ref a68), .val (.int (1 : Int32)), .val (.int v139), .val (.int v147), .unset, .unset] [(.int (3 : Int32)), (.int (7 : Int32)), (.ref a149), (.ref a149)])
    refine w_newarray S271 (hw _ (List.mem_of_getElem? (i := 0) rfl)) rfl rfl (hb hby at_156) rfl (by decide) (cap := 3) (by decide) (by decide) (by decide) (by decide) (L := [(0 : Int32), (0 : Int32), (0 : Int32)]) rfl ?_
    intro T275 h276 a156 S277 K278 e_a156 g_a156 A_a156
    have n_a32_a156 : a32 ≠ a156 := by rw [e_a156]; exact Nat.ne_of_lt f273.lt
    have n_a68_a156 : a68 ≠ a156 := by rw [e_a156]; exact Nat.ne_of_lt f274.lt
    have n_a149_a156 : a149 ≠ a156 := by rw [e_a156]; exact Nat.ne_of_lt E_a149.lt
    have f279 := AI.keep f273 K278 nin0
    have f280 := AI.keep f274 K278 nin0
    have f281 := Exa.keep E_a149 K278
    have f282 := Fld.keep F_a149_route K278 nin0
    have f283 := Fld.keep F_a149_stops K278 nin0
    have f284 := Fld.keep F_a149_pickups K278 nin0
    have f285 := Fld.keep F_a149_dropOffs K278 nin0
    have f286 := Fld.keep F_a149_trips K278 nin0
    have f287 := Fld.keep F_a149_arrivals K278 nin0
    have f288 := Fld.keep F_a149_departures K278 nin0
    show WGo _ _ _ _ _ _ _ _ T275 (mkF m 158 #[.val (.long p1), .second, .val (.long p2), .second, .val (.int p3), .val (.int p4), .val (.int p5), .val (.int v2), .val (.int v9), .val (.int v13), .val (.int v20), .val (.int p3), .val (.int p4), .val (.ref a32), .val (.ref a68), .val (.int (1 : Int32)), .val (.int v139), .val (.int v147), .unset, .unset] [(.ref a156), (.int (7 : Int32)), (.ref a149), (.ref a149)])
    refine WGo.st (fun _ q => XS.dup S277.here hx rfl (hb hby at_158) rfl rfl q) ?_
    show WGo _ _ _ _ _ _ _ _ T275 (mkF m 159 #[.val (.long p1), .second, .val (.long p2), .second, .val (.int p3), .val (.int p4), .val (.int p5), .val (.int v2), .val (.int v9), .val (.int v13), .val (.int v20), .val (.int p3), .val (.int p4), .val (.ref a32), .val (.ref a68), .val (.int (1 : Int32)), .val (.int v139), .val (.int v147), .unset, .unset] [(.ref a156), (.ref a156), (.int (7 : Int32)), (.ref a149), (.ref a149)])
    refine WGo.st (fun _ q => XS.iconst S277.here hx rfl (hb hby at_159) q) ?_
    show WGo _ _ _ _ _ _ _ _ T275 (mkF m 160 #[.val (.long p1), .second, .val (.long p2), .second, .val (.int p3), .val (.int p4), .val (.int p5), .val (.int v2), .val (.int v9), .val (.int v13), .val (.int v20), .val (.int p3), .val (.int p4), .val (.ref a32), .val (.ref a68), .val (.int (1 : Int32)), .val (.int v139), .val (.int v147), .unset, .unset] [(.int (0 : Int32)), (.ref a156), (.ref a156), (.int (7 : Int32)), (.ref a149), (.ref a149)])
    refine WGo.st (fun _ q => XS.bipush S277.here hx rfl (hb hby at_160) q) ?_
    show WGo _ _ _ _ _ _ _ _ T275 (mkF m 162 #[.val (.long p1), .second, .val (.long p2), .second, .val (.int p3), .val (.int p4), .val (.int p5), .val (.int v2), .val (.int v9), .val (.int v13), .val (.int v20), .val (.int p3), .val (.int p4), .val (.ref a32), .val (.ref a68), .val (.int (1 : Int32)), .val (.int v139), .val (.int v147), .unset, .unset] [(.int (10 : Int32)), (.int (0 : Int32)), (.ref a156), (.ref a156), (.int (7 : Int32)), (.ref a149), (.ref a149)])
    refine w_iastore S277 A_a156 g_a156 rfl (hb hby at_162) rfl (by decide) (by decide : (0 : Int32).toInt < ((3 : Nat) : Int)) (L' := [(10 : Int32), (0 : Int32), (0 : Int32)]) rfl ?_
    intro T289 h290 S291 K292 A293
    have f294 := AI.keep f279 K292 (ninS n_a32_a156 nin0)
    have f295 := AI.keep f280 K292 (ninS n_a68_a156 nin0)
    have f296 := Exa.keep f281 K292
    have f297 := Fld.keep f282 K292 (ninS n_a149_a156 nin0)
    have f298 := Fld.keep f283 K292 (ninS n_a149_a156 nin0)
    have f299 := Fld.keep f284 K292 (ninS n_a149_a156 nin0)
    have f300 := Fld.keep f285 K292 (ninS n_a149_a156 nin0)
    have f301 := Fld.keep f286 K292 (ninS n_a149_a156 nin0)
    have f302 := Fld.keep f287 K292 (ninS n_a149_a156 nin0)
    have f303 := Fld.keep f288 K292 (ninS n_a149_a156 nin0)
    show WGo _ _ _ _ _ _ _ _ T289 (mkF m 163 #[.val (.long p1), .second, .val (.long p2), .second, .val (.int p3), .val (.int p4), .val (.int p5), .val (.int v2), .val (.int v9), .val (.int v13), .val (.int v20), .val (.int p3), .val (.int p4), .val (.ref a32), .val (.ref a68), .val (.int (1 : Int32)), .val (.int v139), .val (.int v147), .unset, .unset] [(.ref a156), (.int (7 : Int32)), (.ref a149), (.ref a149)])
    refine WGo.st (fun _ q => XS.dup S291.here hx rfl (hb hby at_163) rfl rfl q) ?_
    show WGo _ _ _ _ _ _ _ _ T289 (mkF m 164 #[.val (.long p1), .second, .val (.long p2), .second, .val (.int p3), .val (.int p4), .val (.int p5), .val (.int v2), .val (.int v9), .val (.int v13), .val (.int v20), .val (.int p3), .val (.int p4), .val (.ref a32), .val (.ref a68), .val (.int (1 : Int32)), .val (.int v139), .val (.int v147), .unset, .unset] [(.ref a156), (.ref a156), (.int (7 : Int32)), (.ref a149), (.ref a149)])
    refine WGo.st (fun _ q => XS.iconst S291.here hx rfl (hb hby at_164) q) ?_
    show WGo _ _ _ _ _ _ _ _ T289 (mkF m 165 #[.val (.long p1), .second, .val (.long p2), .second, .val (.int p3), .val (.int p4), .val (.int p5), .val (.int v2), .val (.int v9), .val (.int v13), .val (.int v20), .val (.int p3), .val (.int p4), .val (.ref a32), .val (.ref a68), .val (.int (1 : Int32)), .val (.int v139), .val (.int v147), .unset, .unset] [(.int (1 : Int32)), (.ref a156), (.ref a156), (.int (7 : Int32)), (.ref a149), (.ref a149)])
    refine WGo.st (fun _ q => XS.bipush S291.here hx rfl (hb hby at_165) q) ?_
    show WGo _ _ _ _ _ _ _ _ T289 (mkF m 167 #[.val (.long p1), .second, .val (.long p2), .second, .val (.int p3), .val (.int p4), .val (.int p5), .val (.int v2), .val (.int v9), .val (.int v13), .val (.int v20), .val (.int p3), .val (.int p4), .val (.ref a32), .val (.ref a68), .val (.int (1 : Int32)), .val (.int v139), .val (.int v147), .unset, .unset] [(.int (11 : Int32)), (.int (1 : Int32)), (.ref a156), (.ref a156), (.int (7 : Int32)), (.ref a149), (.ref a149)])
    refine w_iastore S291 A293 g_a156 rfl (hb hby at_167) rfl (by decide) (by decide : (1 : Int32).toInt < ((3 : Nat) : Int)) (L' := [(10 : Int32), (11 : Int32), (0 : Int32)]) rfl ?_
    intro T304 h305 S306 K307 A308
    have f309 := AI.keep f294 K307 (ninS n_a32_a156 nin0)
    have f310 := AI.keep f295 K307 (ninS n_a68_a156 nin0)
    have f311 := Exa.keep f296 K307
    have f312 := Fld.keep f297 K307 (ninS n_a149_a156 nin0)
    have f313 := Fld.keep f298 K307 (ninS n_a149_a156 nin0)
    have f314 := Fld.keep f299 K307 (ninS n_a149_a156 nin0)
    have f315 := Fld.keep f300 K307 (ninS n_a149_a156 nin0)
    have f316 := Fld.keep f301 K307 (ninS n_a149_a156 nin0)
    have f317 := Fld.keep f302 K307 (ninS n_a149_a156 nin0)
    have f318 := Fld.keep f303 K307 (ninS n_a149_a156 nin0)
    show WGo _ _ _ _ _ _ _ _ T304 (mkF m 168 #[.val (.long p1), .second, .val (.long p2), .second, .val (.int p3), .val (.int p4), .val (.int p5), .val (.int v2), .val (.int v9), .val (.int v13), .val (.int v20), .val (.int p3), .val (.int p4), .val (.ref a32), .val (.ref a68), .val (.int (1 : Int32)), .val (.int v139), .val (.int v147), .unset, .unset] [(.ref a156), (.int (7 : Int32)), (.ref a149), (.ref a149)])
    refine WGo.st (fun _ q => XS.dup S306.here hx rfl (hb hby at_168) rfl rfl q) ?_
    show WGo _ _ _ _ _ _ _ _ T304 (mkF m 169 #[.val (.long p1), .second, .val (.long p2), .second, .val (.int p3), .val (.int p4), .val (.int p5), .val (.int v2), .val (.int v9), .val (.int v13), .val (.int v20), .val (.int p3), .val (.int p4), .val (.ref a32), .val (.ref a68), .val (.int (1 : Int32)), .val (.int v139), .val (.int v147), .unset, .unset] [(.ref a156), (.ref a156), (.int (7 : Int32)), (.ref a149), (.ref a149)])
    refine WGo.st (fun _ q => XS.iconst S306.here hx rfl (hb hby at_169) q) ?_
    show WGo _ _ _ _ _ _ _ _ T304 (mkF m 170 #[.val (.long p1), .second, .val (.long p2), .second, .val (.int p3), .val (.int p4), .val (.int p5), .val (.int v2), .val (.int v9), .val (.int v13), .val (.int v20), .val (.int p3), .val (.int p4), .val (.ref a32), .val (.ref a68), .val (.int (1 : Int32)), .val (.int v139), .val (.int v147), .unset, .unset] [(.int (2 : Int32)), (.ref a156), (.ref a156), (.int (7 : Int32)), (.ref a149), (.ref a149)])
    refine WGo.st (fun _ q => XS.bipush S306.here hx rfl (hb hby at_170) q) ?_
    show WGo _ _ _ _ _ _ _ _ T304 (mkF m 172 #[.val (.long p1), .second, .val (.long p2), .second, .val (.int p3), .val (.int p4), .val (.int p5), .val (.int v2), .val (.int v9), .val (.int v13), .val (.int v20), .val (.int p3), .val (.int p4), .val (.ref a32), .val (.ref a68), .val (.int (1 : Int32)), .val (.int v139), .val (.int v147), .unset, .unset] [(.int (12 : Int32)), (.int (2 : Int32)), (.ref a156), (.ref a156), (.int (7 : Int32)), (.ref a149), (.ref a149)])
    refine w_iastore S306 A308 g_a156 rfl (hb hby at_172) rfl (by decide) (by decide : (2 : Int32).toInt < ((3 : Nat) : Int)) (L' := [(10 : Int32), (11 : Int32), (12 : Int32)]) rfl ?_
    intro T319 h320 S321 K322 A323
    have f324 := AI.keep f309 K322 (ninS n_a32_a156 nin0)
    have f325 := AI.keep f310 K322 (ninS n_a68_a156 nin0)
    have f326 := Exa.keep f311 K322
    have f327 := Fld.keep f312 K322 (ninS n_a149_a156 nin0)
    have f328 := Fld.keep f313 K322 (ninS n_a149_a156 nin0)
    have f329 := Fld.keep f314 K322 (ninS n_a149_a156 nin0)
    have f330 := Fld.keep f315 K322 (ninS n_a149_a156 nin0)
    have f331 := Fld.keep f316 K322 (ninS n_a149_a156 nin0)
    have f332 := Fld.keep f317 K322 (ninS n_a149_a156 nin0)
    have f333 := Fld.keep f318 K322 (ninS n_a149_a156 nin0)
    show WGo _ _ _ _ _ _ _ _ T319 (mkF m 173 #[.val (.long p1), .second, .val (.long p2), .second, .val (.int p3), .val (.int p4), .val (.int p5), .val (.int v2), .val (.int v9), .val (.int v13), .val (.int v20), .val (.int p3), .val (.int p4), .val (.ref a32), .val (.ref a68), .val (.int (1 : Int32)), .val (.int v139), .val (.int v147), .unset, .unset] [(.ref a156), (.int (7 : Int32)), (.ref a149), (.ref a149)])
    refine WGo.st (fun _ q => XS.iconst S321.here hx rfl (hb hby at_173) q) ?_
    show WGo _ _ _ _ _ _ _ _ T319 (mkF m 174 #[.val (.long p1), .second, .val (.long p2), .second, .val (.int p3), .val (.int p4), .val (.int p5), .val (.int v2), .val (.int v9), .val (.int v13), .val (.int v20), .val (.int p3), .val (.int p4), .val (.ref a32), .val (.ref a68), .val (.int (1 : Int32)), .val (.int v139), .val (.int v147), .unset, .unset] [(.int (3 : Int32)), (.ref a156), (.int (7 : Int32)), (.ref a149), (.ref a149)])
    refine w_newarray S321 (hw _ (List.mem_of_getElem? (i := 4) rfl)) rfl rfl (hb hby at_174) rfl (by decide) (cap := 3) (by decide) (by decide) (by decide) (by decide) (L := [(0 : Int32), (0 : Int32), (0 : Int32)]) rfl ?_
    intro T334 h335 a174 S336 K337 e_a174 g_a174 A_a174
    have n_a32_a174 : a32 ≠ a174 := by rw [e_a174]; exact Nat.ne_of_lt f324.lt
    have n_a68_a174 : a68 ≠ a174 := by rw [e_a174]; exact Nat.ne_of_lt f325.lt
    have n_a149_a174 : a149 ≠ a174 := by rw [e_a174]; exact Nat.ne_of_lt f326.lt
    have n_a156_a174 : a156 ≠ a174 := by rw [e_a174]; exact Nat.ne_of_lt A323.lt
    have f338 := AI.keep f324 K337 nin0
    have f339 := AI.keep f325 K337 nin0
    have f340 := Exa.keep f326 K337
    have f341 := Fld.keep f327 K337 nin0
    have f342 := Fld.keep f328 K337 nin0
    have f343 := Fld.keep f329 K337 nin0
    have f344 := Fld.keep f330 K337 nin0
    have f345 := Fld.keep f331 K337 nin0
    have f346 := Fld.keep f332 K337 nin0
    have f347 := Fld.keep f333 K337 nin0
    have f348 := AI.keep A323 K337 nin0
    show WGo _ _ _ _ _ _ _ _ T334 (mkF m 176 #[.val (.long p1), .second, .val (.long p2), .second, .val (.int p3), .val (.int p4), .val (.int p5), .val (.int v2), .val (.int v9), .val (.int v13), .val (.int v20), .val (.int p3), .val (.int p4), .val (.ref a32), .val (.ref a68), .val (.int (1 : Int32)), .val (.int v139), .val (.int v147), .unset, .unset] [(.ref a174), (.ref a156), (.int (7 : Int32)), (.ref a149), (.ref a149)])
    refine WGo.st (fun _ q => XS.iconst S336.here hx rfl (hb hby at_176) q) ?_
    show WGo _ _ _ _ _ _ _ _ T334 (mkF m 177 #[.val (.long p1), .second, .val (.long p2), .second, .val (.int p3), .val (.int p4), .val (.int p5), .val (.int v2), .val (.int v9), .val (.int v13), .val (.int v20), .val (.int p3), .val (.int p4), .val (.ref a32), .val (.ref a68), .val (.int (1 : Int32)), .val (.int v139), .val (.int v147), .unset, .unset] [(.int (3 : Int32)), (.ref a174), (.ref a156), (.int (7 : Int32)), (.ref a149), (.ref a149)])
    refine w_newarray S336 (hw _ (List.mem_of_getElem? (i := 4) rfl)) rfl rfl (hb hby at_177) rfl (by decide) (cap := 3) (by decide) (by decide) (by decide) (by decide) (L := [(0 : Int32), (0 : Int32), (0 : Int32)]) rfl ?_
    intro T349 h350 a177 S351 K352 e_a177 g_a177 A_a177
    have n_a32_a177 : a32 ≠ a177 := by rw [e_a177]; exact Nat.ne_of_lt f338.lt
    have n_a68_a177 : a68 ≠ a177 := by rw [e_a177]; exact Nat.ne_of_lt f339.lt
    have n_a149_a177 : a149 ≠ a177 := by rw [e_a177]; exact Nat.ne_of_lt f340.lt
    have n_a156_a177 : a156 ≠ a177 := by rw [e_a177]; exact Nat.ne_of_lt f348.lt
    have n_a174_a177 : a174 ≠ a177 := by rw [e_a177]; exact Nat.ne_of_lt A_a174.lt
    have f353 := AI.keep f338 K352 nin0
    have f354 := AI.keep f339 K352 nin0
    have f355 := Exa.keep f340 K352
    have f356 := Fld.keep f341 K352 nin0
    have f357 := Fld.keep f342 K352 nin0
    have f358 := Fld.keep f343 K352 nin0
    have f359 := Fld.keep f344 K352 nin0
    have f360 := Fld.keep f345 K352 nin0
    have f361 := Fld.keep f346 K352 nin0
    have f362 := Fld.keep f347 K352 nin0
    have f363 := AI.keep f348 K352 nin0
    have f364 := AI.keep A_a174 K352 nin0
    show WGo _ _ _ _ _ _ _ _ T349 (mkF m 179 #[.val (.long p1), .second, .val (.long p2), .second, .val (.int p3), .val (.int p4), .val (.int p5), .val (.int v2), .val (.int v9), .val (.int v13), .val (.int v20), .val (.int p3), .val (.int p4), .val (.ref a32), .val (.ref a68), .val (.int (1 : Int32)), .val (.int v139), .val (.int v147), .unset, .unset] [(.ref a177), (.ref a174), (.ref a156), (.int (7 : Int32)), (.ref a149), (.ref a149)])
    refine WGo.st (fun _ q => XS.iconst S351.here hx rfl (hb hby at_179) q) ?_
    show WGo _ _ _ _ _ _ _ _ T349 (mkF m 180 #[.val (.long p1), .second, .val (.long p2), .second, .val (.int p3), .val (.int p4), .val (.int p5), .val (.int v2), .val (.int v9), .val (.int v13), .val (.int v20), .val (.int p3), .val (.int p4), .val (.ref a32), .val (.ref a68), .val (.int (1 : Int32)), .val (.int v139), .val (.int v147), .unset, .unset] [(.int (2 : Int32)), (.ref a177), (.ref a174), (.ref a156), (.int (7 : Int32)), (.ref a149), (.ref a149)])
    refine w_newarray S351 (hw _ (List.mem_of_getElem? (i := 0) rfl)) rfl rfl (hb hby at_180) rfl (by decide) (cap := 2) (by decide) (by decide) (by decide) (by decide) (L := [(0 : Int32), (0 : Int32)]) rfl ?_
    intro T365 h366 a180 S367 K368 e_a180 g_a180 A_a180
    have n_a32_a180 : a32 ≠ a180 := by rw [e_a180]; exact Nat.ne_of_lt f353.lt
    have n_a68_a180 : a68 ≠ a180 := by rw [e_a180]; exact Nat.ne_of_lt f354.lt
    have n_a149_a180 : a149 ≠ a180 := by rw [e_a180]; exact Nat.ne_of_lt f355.lt
    have n_a156_a180 : a156 ≠ a180 := by rw [e_a180]; exact Nat.ne_of_lt f363.lt
    have n_a174_a180 : a174 ≠ a180 := by rw [e_a180]; exact Nat.ne_of_lt f364.lt
    have n_a177_a180 : a177 ≠ a180 := by rw [e_a180]; exact Nat.ne_of_lt A_a177.lt
    have f369 := AI.keep f353 K368 nin0
    have f370 := AI.keep f354 K368 nin0
    have f371 := Exa.keep f355 K368
    have f372 := Fld.keep f356 K368 nin0
    have f373 := Fld.keep f357 K368 nin0
    have f374 := Fld.keep f358 K368 nin0
    have f375 := Fld.keep f359 K368 nin0
    have f376 := Fld.keep f360 K368 nin0
    have f377 := Fld.keep f361 K368 nin0
    have f378 := Fld.keep f362 K368 nin0
    have f379 := AI.keep f363 K368 nin0
    have f380 := AI.keep f364 K368 nin0
    have f381 := AI.keep A_a177 K368 nin0
    show WGo _ _ _ _ _ _ _ _ T365 (mkF m 182 #[.val (.long p1), .second, .val (.long p2), .second, .val (.int p3), .val (.int p4), .val (.int p5), .val (.int v2), .val (.int v9), .val (.int v13), .val (.int v20), .val (.int p3), .val (.int p4), .val (.ref a32), .val (.ref a68), .val (.int (1 : Int32)), .val (.int v139), .val (.int v147), .unset, .unset] [(.ref a180), (.ref a177), (.ref a174), (.ref a156), (.int (7 : Int32)), (.ref a149), (.ref a149)])
    refine WGo.st (fun _ q => XS.dup S367.here hx rfl (hb hby at_182) rfl rfl q) ?_
    show WGo _ _ _ _ _ _ _ _ T365 (mkF m 183 #[.val (.long p1), .second, .val (.long p2), .second, .val (.int p3), .val (.int p4), .val (.int p5), .val (.int v2), .val (.int v9), .val (.int v13), .val (.int v20), .val (.int p3), .val (.int p4), .val (.ref a32), .val (.ref a68), .val (.int (1 : Int32)), .val (.int v139), .val (.int v147), .unset, .unset] [(.ref a180), (.ref a180), (.ref a177), (.ref a174), (.ref a156), (.int (7 : Int32)), (.ref a149), (.ref a149)])
    refine WGo.st (fun _ q => XS.iconst S367.here hx rfl (hb hby at_183) q) ?_
    show WGo _ _ _ _ _ _ _ _ T365 (mkF m 184 #[.val (.long p1), .second, .val (.long p2), .second, .val (.int p3), .val (.int p4), .val (.int p5), .val (.int v2), .val (.int v9), .val (.int v13), .val (.int v20), .val (.int p3), .val (.int p4), .val (.ref a32), .val (.ref a68), .val (.int (1 : Int32)), .val (.int v139), .val (.int v147), .unset, .unset] [(.int (0 : Int32)), (.ref a180), (.ref a180), (.ref a177), (.ref a174), (.ref a156), (.int (7 : Int32)), (.ref a149), (.ref a149)])
    refine WGo.st (fun _ q => XS.bipush S367.here hx rfl (hb hby at_184) q) ?_
    show WGo _ _ _ _ _ _ _ _ T365 (mkF m 186 #[.val (.long p1), .second, .val (.long p2), .second, .val (.int p3), .val (.int p4), .val (.int p5), .val (.int v2), .val (.int v9), .val (.int v13), .val (.int v20), .val (.int p3), .val (.int p4), .val (.ref a32), .val (.ref a68), .val (.int (1 : Int32)), .val (.int v139), .val (.int v147), .unset, .unset] [(.int (20 : Int32)), (.int (0 : Int32)), (.ref a180), (.ref a180), (.ref a177), (.ref a174), (.ref a156), (.int (7 : Int32)), (.ref a149), (.ref a149)])
    refine w_iastore S367 A_a180 g_a180 rfl (hb hby at_186) rfl (by decide) (by decide : (0 : Int32).toInt < ((2 : Nat) : Int)) (L' := [(20 : Int32), (0 : Int32)]) rfl ?_
    intro T382 h383 S384 K385 A386
    have f387 := AI.keep f369 K385 (ninS n_a32_a180 nin0)
    have f388 := AI.keep f370 K385 (ninS n_a68_a180 nin0)
    have f389 := Exa.keep f371 K385
    have f390 := Fld.keep f372 K385 (ninS n_a149_a180 nin0)
    have f391 := Fld.keep f373 K385 (ninS n_a149_a180 nin0)
    have f392 := Fld.keep f374 K385 (ninS n_a149_a180 nin0)
    have f393 := Fld.keep f375 K385 (ninS n_a149_a180 nin0)
    have f394 := Fld.keep f376 K385 (ninS n_a149_a180 nin0)
    have f395 := Fld.keep f377 K385 (ninS n_a149_a180 nin0)
    have f396 := Fld.keep f378 K385 (ninS n_a149_a180 nin0)
    have f397 := AI.keep f379 K385 (ninS n_a156_a180 nin0)
    have f398 := AI.keep f380 K385 (ninS n_a174_a180 nin0)
    have f399 := AI.keep f381 K385 (ninS n_a177_a180 nin0)
    show WGo _ _ _ _ _ _ _ _ T382 (mkF m 187 #[.val (.long p1), .second, .val (.long p2), .second, .val (.int p3), .val (.int p4), .val (.int p5), .val (.int v2), .val (.int v9), .val (.int v13), .val (.int v20), .val (.int p3), .val (.int p4), .val (.ref a32), .val (.ref a68), .val (.int (1 : Int32)), .val (.int v139), .val (.int v147), .unset, .unset] [(.ref a180), (.ref a177), (.ref a174), (.ref a156), (.int (7 : Int32)), (.ref a149), (.ref a149)])
    refine WGo.st (fun _ q => XS.dup S384.here hx rfl (hb hby at_187) rfl rfl q) ?_
    show WGo _ _ _ _ _ _ _ _ T382 (mkF m 188 #[.val (.long p1), .second, .val (.long p2), .second, .val (.int p3), .val (.int p4), .val (.int p5), .val (.int v2), .val (.int v9), .val (.int v13), .val (.int v20), .val (.int p3), .val (.int p4), .val (.ref a32), .val (.ref a68), .val (.int (1 : Int32)), .val (.int v139), .val (.int v147), .unset, .unset] [(.ref a180), (.ref a180), (.ref a177), (.ref a174), (.ref a156), (.int (7 : Int32)), (.ref a149), (.ref a149)])
    refine WGo.st (fun _ q => XS.iconst S384.here hx rfl (hb hby at_188) q) ?_
    show WGo _ _ _ _ _ _ _ _ T382 (mkF m 189 #[.val (.long p1), .second, .val (.long p2), .second, .val (.int p3), .val (.int p4), .val (.int p5), .val (.int v2), .val (.int v9), .val (.int v13), .val (.int v20), .val (.int p3), .val (.int p4), .val (.ref a32), .val (.ref a68), .val (.int (1 : Int32)), .val (.int v139), .val (.int v147), .unset, .unset] [(.int (1 : Int32)), (.ref a180), (.ref a180), (.ref a177), (.ref a174), (.ref a156), (.int (7 : Int32)), (.ref a149), (.ref a149)])
    refine WGo.st (fun _ q => XS.bipush S384.here hx rfl (hb hby at_189) q) ?_
    show WGo _ _ _ _ _ _ _ _ T382 (mkF m 191 #[.val (.long p1), .second, .val (.long p2), .second, .val (.int p3), .val (.int p4), .val (.int p5), .val (.int v2), .val (.int v9), .val (.int v13), .val (.int v20), .val (.int p3), .val (.int p4), .val (.ref a32), .val (.ref a68), .val (.int (1 : Int32)), .val (.int v139), .val (.int v147), .unset, .unset] [(.int (21 : Int32)), (.int (1 : Int32)), (.ref a180), (.ref a180), (.ref a177), (.ref a174), (.ref a156), (.int (7 : Int32)), (.ref a149), (.ref a149)])
    refine w_iastore S384 A386 g_a180 rfl (hb hby at_191) rfl (by decide) (by decide : (1 : Int32).toInt < ((2 : Nat) : Int)) (L' := [(20 : Int32), (21 : Int32)]) rfl ?_
    intro T400 h401 S402 K403 A404
    have f405 := AI.keep f387 K403 (ninS n_a32_a180 nin0)
    have f406 := AI.keep f388 K403 (ninS n_a68_a180 nin0)
    have f407 := Exa.keep f389 K403
    have f408 := Fld.keep f390 K403 (ninS n_a149_a180 nin0)
    have f409 := Fld.keep f391 K403 (ninS n_a149_a180 nin0)
    have f410 := Fld.keep f392 K403 (ninS n_a149_a180 nin0)
    have f411 := Fld.keep f393 K403 (ninS n_a149_a180 nin0)
    have f412 := Fld.keep f394 K403 (ninS n_a149_a180 nin0)
    have f413 := Fld.keep f395 K403 (ninS n_a149_a180 nin0)
    have f414 := Fld.keep f396 K403 (ninS n_a149_a180 nin0)
    have f415 := AI.keep f397 K403 (ninS n_a156_a180 nin0)
    have f416 := AI.keep f398 K403 (ninS n_a174_a180 nin0)
    have f417 := AI.keep f399 K403 (ninS n_a177_a180 nin0)
    show WGo _ _ _ _ _ _ _ _ T400 (mkF m 192 #[.val (.long p1), .second, .val (.long p2), .second, .val (.int p3), .val (.int p4), .val (.int p5), .val (.int v2), .val (.int v9), .val (.int v13), .val (.int v20), .val (.int p3), .val (.int p4), .val (.ref a32), .val (.ref a68), .val (.int (1 : Int32)), .val (.int v139), .val (.int v147), .unset, .unset] [(.ref a180), (.ref a177), (.ref a174), (.ref a156), (.int (7 : Int32)), (.ref a149), (.ref a149)])
    refine WGo.st (fun _ q => XS.aload S402.here hx rfl (hb hby at_192) rfl rfl q) ?_
    show WGo _ _ _ _ _ _ _ _ T400 (mkF m 194 #[.val (.long p1), .second, .val (.long p2), .second, .val (.int p3), .val (.int p4), .val (.int p5), .val (.int v2), .val (.int v9), .val (.int v13), .val (.int v20), .val (.int p3), .val (.int p4), .val (.ref a32), .val (.ref a68), .val (.int (1 : Int32)), .val (.int v139), .val (.int v147), .unset, .unset] [(.ref a32), (.ref a180), (.ref a177), (.ref a174), (.ref a156), (.int (7 : Int32)), (.ref a149), (.ref a149)])
    refine WGo.st (fun _ q => XS.aload S402.here hx rfl (hb hby at_194) rfl rfl q) ?_
    show WGo _ _ _ _ _ _ _ _ T400 (mkF m 196 #[.val (.long p1), .second, .val (.long p2), .second, .val (.int p3), .val (.int p4), .val (.int p5), .val (.int v2), .val (.int v9), .val (.int v13), .val (.int v20), .val (.int p3), .val (.int p4), .val (.ref a32), .val (.ref a68), .val (.int (1 : Int32)), .val (.int v139), .val (.int v147), .unset, .unset] [(.ref a68), (.ref a32), (.ref a180), (.ref a177), (.ref a174), (.ref a156), (.int (7 : Int32)), (.ref a149), (.ref a149)])
    refine w_special S402 (y := (⟨"com/example/pathweave/pathweave/routing/Pattern", "<init>", "(I[I[Z[Z[I[I[I)V"⟩ : MethodName)) rfl hown (hw _ (List.mem_of_getElem? (i := 5) rfl)) (hw _ (List.mem_of_getElem? (i := 6) rfl)) (hw _ (List.mem_of_getElem? (i := 3) rfl)) (hw _ (List.mem_of_getElem? (i := 7) rfl)) (by decide) (rm_K l Z a0 hw n0 h401 a149 (7 : Int32) a156 a174 a177 a180 a32 a68 S402.ge g_a149 f407 f408 f409 f410 f411 f412 f413 f414) (W := 1) (by decide) (by decide) (by decide) (by decide) rfl (by rw [hml]; rfl) (argsL := [(.int (7 : Int32)), (.ref a156), (.ref a174), (.ref a177), (.ref a180), (.ref a32), (.ref a68)]) (rest := [(.ref a149)]) (ps := [.int, (.array .int), (.array .boolean), (.array .boolean), (.array .int), (.array .int), (.array .int)]) (rt := none) (by decide) rfl rfl rfl (by show 2 * 0 + _ ≤ _; exact Nat.le_of_eq rfl) (hb hby at_196) ?_
    intro T418 h420 w421 S419 q422
    obtain ⟨q422a, q422K, q422f0, q422f1, q422f2, q422f3⟩ := q422
    subst q422a
    have f423 := AI.keep f405 q422K (ninS n_a32_a149 nin0)
    have f424 := AI.keep f406 q422K (ninS n_a68_a149 nin0)
    have f425 := AI.keep f415 q422K (ninS (Ne.symm n_a149_a156) nin0)
    have f426 := AI.keep f416 q422K (ninS (Ne.symm n_a149_a174) nin0)
    have f427 := AI.keep f417 q422K (ninS (Ne.symm n_a149_a177) nin0)
    have f428 := AI.keep A404 q422K (ninS (Ne.symm n_a149_a180) nin0)
    show WGo _ _ _ _ _ _ _ _ T418 (mkF m 199 #[.val (.long p1), .second, .val (.long p2), .second, .val (.int p3), .val (.int p4), .val (.int p5), .val (.int v2), .val (.int v9), .val (.int v13), .val (.int v20), .val (.int p3), .val (.int p4), .val (.ref a32), .val (.ref a68), .val (.int (1 : Int32)), .val (.int v139), .val (.int v147), .unset, .unset] [(.ref a149)])
    refine WGo.st (fun _ q => XS.astore S419.here hx rfl (hb hby at_199) rfl rfl (l' := #[.val (.long p1), .second, .val (.long p2), .second, .val (.int p3), .val (.int p4), .val (.int p5), .val (.int v2), .val (.int v9), .val (.int v13), .val (.int v20), .val (.int p3), .val (.int p4), .val (.ref a32), .val (.ref a68), .val (.int (1 : Int32)), .val (.int v139), .val (.int v147), .unset, .val (.ref a149)]) rfl q) ?_
    show WGo _ _ _ _ _ _ _ _ T418 (mkF m 201 #[.val (.long p1), .second, .val (.long p2), .second, .val (.int p3), .val (.int p4), .val (.int p5), .val (.int v2), .val (.int v9), .val (.int v13), .val (.int v20), .val (.int p3), .val (.int p4), .val (.ref a32), .val (.ref a68), .val (.int (1 : Int32)), .val (.int v139), .val (.int v147), .unset, .val (.ref a149)] [])
    have hp : v147 = 0 ∨ v147 = 1 ∨ v147 = 2 := by rw [← hv147]; exact rem3 p5
    have hi : v139 = 0 ∨ v139 = 1 := by rw [← hv139]; exact and_one _
    have hix := idx3 hi hp
    refine WGo.st (fun _ q => XS.iload S419.here hx rfl (hb hby at_201) rfl q) ?_
    show WGo _ _ _ _ _ _ _ _ T418 (mkF m 203 #[.val (.long p1), .second, .val (.long p2), .second, .val (.int p3), .val (.int p4), .val (.int p5), .val (.int v2), .val (.int v9), .val (.int v13), .val (.int v20), .val (.int p3), .val (.int p4), .val (.ref a32), .val (.ref a68), .val (.int (1 : Int32)), .val (.int v139), .val (.int v147), .unset, .val (.ref a149)] [(.int v139)])
    by_cases c203 : v139 = (0 : Int32)
    · refine WGo.st (fun _ q => XS.ifNo S419.here hx rfl (hb hby at_203) rfl ((if0 _ _).trans (teq c203).2) q) ?_
      show WGo _ _ _ _ _ _ _ _ T418 (mkF m 206 #[.val (.long p1), .second, .val (.long p2), .second, .val (.int p3), .val (.int p4), .val (.int p5), .val (.int v2), .val (.int v9), .val (.int v13), .val (.int v20), .val (.int p3), .val (.int p4), .val (.ref a32), .val (.ref a68), .val (.int (1 : Int32)), .val (.int v139), .val (.int v147), .unset, .val (.ref a149)] [])
      refine WGo.st (fun _ q => XS.iload S419.here hx rfl (hb hby at_206) rfl q) ?_
      show WGo _ _ _ _ _ _ _ _ T418 (mkF m 208 #[.val (.long p1), .second, .val (.long p2), .second, .val (.int p3), .val (.int p4), .val (.int p5), .val (.int v2), .val (.int v9), .val (.int v13), .val (.int v20), .val (.int p3), .val (.int p4), .val (.ref a32), .val (.ref a68), .val (.int (1 : Int32)), .val (.int v139), .val (.int v147), .unset, .val (.ref a149)] [(.int v147)])
      refine WGo.st (fun _ q => XS.iload S419.here hx rfl (hb hby at_208) rfl q) ?_
      show WGo _ _ _ _ _ _ _ _ T418 (mkF m 210 #[.val (.long p1), .second, .val (.long p2), .second, .val (.int p3), .val (.int p4), .val (.int p5), .val (.int v2), .val (.int v9), .val (.int v13), .val (.int v20), .val (.int p3), .val (.int p4), .val (.ref a32), .val (.ref a68), .val (.int (1 : Int32)), .val (.int v139), .val (.int v147), .unset, .val (.ref a149)] [(.int v2), (.int v147)])
      refine WGo.st (fun _ q => XS.iload S419.here hx rfl (hb hby at_210) rfl q) ?_
      show WGo _ _ _ _ _ _ _ _ T418 (mkF m 212 #[.val (.long p1), .second, .val (.long p2), .second, .val (.int p3), .val (.int p4), .val (.int p5), .val (.int v2), .val (.int v9), .val (.int v13), .val (.int v20), .val (.int p3), .val (.int p4), .val (.ref a32), .val (.ref a68), .val (.int (1 : Int32)), .val (.int v139), .val (.int v147), .unset, .val (.ref a149)] [(.int v9), (.int v2), (.int v147)])
      refine WGo.st (fun _ q => XS.iload S419.here hx rfl (hb hby at_212) rfl q) ?_
      show WGo _ _ _ _ _ _ _ _ T418 (mkF m 214 #[.val (.long p1), .second, .val (.long p2), .second, .val (.int p3), .val (.int p4), .val (.int p5), .val (.int v2), .val (.int v9), .val (.int v13), .val (.int v20), .val (.int p3), .val (.int p4), .val (.ref a32), .val (.ref a68), .val (.int (1 : Int32)), .val (.int v139), .val (.int v147), .unset, .val (.ref a149)] [(.int v13), (.int v9), (.int v2), (.int v147)])
      refine w_static S419 (y := (⟨"com/example/pathweave/pathweave/routing/PatternArrivalPinLaw", "pick3", "(IIII)I"⟩ : MethodName)) hown (hw _ (List.mem_of_getElem? (i := 34) rfl)) (hw _ (List.mem_of_getElem? (i := 35) rfl)) (hw _ (List.mem_of_getElem? (i := 27) rfl)) (hw _ (List.mem_of_getElem? (i := 36) rfl)) (by decide) (rm_P3 l Z a0 hw n0 h420 v147 v2 v9 v13 S419.ge) (W := 0) (by decide) (by decide) (by decide) (by decide) rfl (by rw [hml]; rfl) (argsL := [(.int v147), (.int v2), (.int v9), (.int v13)]) (rest := []) (ps := [.int, .int, .int, .int]) (rt := (some .int)) (by decide) rfl rfl rfl (by show 2 * 0 + _ ≤ _; exact Nat.le_of_eq rfl) (hb hby at_214) ?_
      intro T429 h431 w432 S430 q433
      obtain ⟨q433a, q433b⟩ := q433
      subst q433a
      replace q433b := Eq.symm q433b
      subst q433b
      show WGo _ _ _ _ _ _ _ _ T429 (mkF m 217 #[.val (.long p1), .second, .val (.long p2), .second, .val (.int p3), .val (.int p4), .val (.int p5), .val (.int v2), .val (.int v9), .val (.int v13), .val (.int v20), .val (.int p3), .val (.int p4), .val (.ref a32), .val (.ref a68), .val (.int (1 : Int32)), .val (.int v139), .val (.int v147), .unset, .val (.ref a149)] [(.int (pick3F v147 v2 v9 v13))])
      refine WGo.st (fun _ q => XS.istore S430.here hx rfl (hb hby at_217) rfl (l' := #[.val (.long p1), .second, .val (.long p2), .second, .val (.int p3), .val (.int p4), .val (.int p5), .val (.int v2), .val (.int v9), .val (.int v13), .val (.int v20), .val (.int p3), .val (.int p4), .val (.ref a32), .val (.ref a68), .val (.int (1 : Int32)), .val (.int v139), .val (.int v147), .val (.int (pick3F v147 v2 v9 v13)), .val (.ref a149)]) rfl q) ?_
      show WGo _ _ _ _ _ _ _ _ T429 (mkF m 219 #[.val (.long p1), .second, .val (.long p2), .second, .val (.int p3), .val (.int p4), .val (.int p5), .val (.int v2), .val (.int v9), .val (.int v13), .val (.int v20), .val (.int p3), .val (.int p4), .val (.ref a32), .val (.ref a68), .val (.int (1 : Int32)), .val (.int v139), .val (.int v147), .val (.int (pick3F v147 v2 v9 v13)), .val (.ref a149)] [])
      refine WGo.st (fun _ q => XS.goto S430.here hx rfl (pc0 := 219) (pc' := 356) rfl (hb hby at_219) (by decide) (by decide) q) ?_
      show WGo _ _ _ _ _ _ _ _ T429 (mkF m 356 #[.val (.long p1), .second, .val (.long p2), .second, .val (.int p3), .val (.int p4), .val (.int p5), .val (.int v2), .val (.int v9), .val (.int v13), .val (.int v20), .val (.int p3), .val (.int p4), .val (.ref a32), .val (.ref a68), .val (.int (1 : Int32)), .val (.int v139), .val (.int v147), .val (.int (pick3F v147 v2 v9 v13)), .val (.ref a149)] [])
      refine WGo.st (fun _ q => XS.aload S430.here hx rfl (hb hby at_356) rfl rfl q) ?_
      show WGo _ _ _ _ _ _ _ _ T429 (mkF m 358 #[.val (.long p1), .second, .val (.long p2), .second, .val (.int p3), .val (.int p4), .val (.int p5), .val (.int v2), .val (.int v9), .val (.int v13), .val (.int v20), .val (.int p3), .val (.int p4), .val (.ref a32), .val (.ref a68), .val (.int (1 : Int32)), .val (.int v139), .val (.int v147), .val (.int (pick3F v147 v2 v9 v13)), .val (.ref a149)] [(.ref a149)])
      refine WGo.st (fun _ q => XS.iload S430.here hx rfl (hb hby at_358) rfl q) ?_
      show WGo _ _ _ _ _ _ _ _ T429 (mkF m 360 #[.val (.long p1), .second, .val (.long p2), .second, .val (.int p3), .val (.int p4), .val (.int p5), .val (.int v2), .val (.int v9), .val (.int v13), .val (.int v20), .val (.int p3), .val (.int p4), .val (.ref a32), .val (.ref a68), .val (.int (1 : Int32)), .val (.int v139), .val (.int v147), .val (.int (pick3F v147 v2 v9 v13)), .val (.ref a149)] [(.int v139), (.ref a149)])
      refine WGo.st (fun _ q => XS.iload S430.here hx rfl (hb hby at_360) rfl q) ?_
      show WGo _ _ _ _ _ _ _ _ T429 (mkF m 362 #[.val (.long p1), .second, .val (.long p2), .second, .val (.int p3), .val (.int p4), .val (.int p5), .val (.int v2), .val (.int v9), .val (.int v13), .val (.int v20), .val (.int p3), .val (.int p4), .val (.ref a32), .val (.ref a68), .val (.int (1 : Int32)), .val (.int v139), .val (.int v147), .val (.int (pick3F v147 v2 v9 v13)), .val (.ref a149)] [(.int v147), (.int v139), (.ref a149)])
      refine w_virtual S430 (y := (⟨"com/example/pathweave/pathweave/routing/Pattern", "arrival", "(II)I"⟩ : MethodName)) hown (hw _ (List.mem_of_getElem? (i := 29) rfl)) (hw _ (List.mem_of_getElem? (i := 30) rfl)) (hw _ (List.mem_of_getElem? (i := 32) rfl)) (hw _ (List.mem_of_getElem? (i := 31) rfl)) (hw _ (List.mem_of_getElem? (i := 3) rfl)) (hw _ (List.mem_of_getElem? (i := 33) rfl)) (by decide) q422f0 (rm_Ar l Z a0 hw n0 h420 a149 v139 v147 a156 a32 [(10 : Int32), (11 : Int32), (12 : Int32)] [v2, v9, v13, v20, p3, p4] (3 : Int32) S430.ge q422f1 q422f3 f425 f423 rfl hix.1 hix.2) (W := 0) (by decide) (by decide) (by decide) (by decide) rfl (by rw [hml]; rfl) (argsL := [(.int v139), (.int v147)]) (rest := []) (ps := [.int, .int]) (rt := (some .int)) (by decide) rfl rfl rfl (by show 2 * 0 + _ ≤ _; exact Nat.le_of_eq rfl) (hb hby at_362) ?_
      intro T434 h436 w437 S435 q438
      obtain ⟨q438a, q438b⟩ := q438
      subst q438a
      replace q438b := Eq.symm q438b
      subst q438b
      show WGo _ _ _ _ _ _ _ _ T434 (mkF m 365 #[.val (.long p1), .second, .val (.long p2), .second, .val (.int p3), .val (.int p4), .val (.int p5), .val (.int v2), .val (.int v9), .val (.int v13), .val (.int v20), .val (.int p3), .val (.int p4), .val (.ref a32), .val (.ref a68), .val (.int (1 : Int32)), .val (.int v139), .val (.int v147), .val (.int (pick3F v147 v2 v9 v13)), .val (.ref a149)] [(.int (gi [v2, v9, v13, v20, p3, p4] ((v139 * (3 : Int32)) + v147)))])
      refine WGo.st (fun _ q => XS.iload S435.here hx rfl (hb hby at_365) rfl q) ?_
      show WGo _ _ _ _ _ _ _ _ T434 (mkF m 367 #[.val (.long p1), .second, .val (.long p2), .second, .val (.int p3), .val (.int p4), .val (.int p5), .val (.int v2), .val (.int v9), .val (.int v13), .val (.int v20), .val (.int p3), .val (.int p4), .val (.ref a32), .val (.ref a68), .val (.int (1 : Int32)), .val (.int v139), .val (.int v147), .val (.int (pick3F v147 v2 v9 v13)), .val (.ref a149)] [(.int (pick3F v147 v2 v9 v13)), (.int (gi [v2, v9, v13, v20, p3, p4] ((v139 * (3 : Int32)) + v147)))])
      refine WGo.st (fun _ q => XS.icmpNo S435.here hx rfl (hb hby at_367) rfl (teq (g30 c203 hp)).2 q) ?_
      show WGo _ _ _ _ _ _ _ _ T434 (mkF m 370 #[.val (.long p1), .second, .val (.long p2), .second, .val (.int p3), .val (.int p4), .val (.int p5), .val (.int v2), .val (.int v9), .val (.int v13), .val (.int v20), .val (.int p3), .val (.int p4), .val (.ref a32), .val (.ref a68), .val (.int (1 : Int32)), .val (.int v139), .val (.int v147), .val (.int (pick3F v147 v2 v9 v13)), .val (.ref a149)] [])
      refine WGo.st (fun _ q => XS.iconst S435.here hx rfl (hb hby at_370) q) ?_
      show WGo _ _ _ _ _ _ _ _ T434 (mkF m 371 #[.val (.long p1), .second, .val (.long p2), .second, .val (.int p3), .val (.int p4), .val (.int p5), .val (.int v2), .val (.int v9), .val (.int v13), .val (.int v20), .val (.int p3), .val (.int p4), .val (.ref a32), .val (.ref a68), .val (.int (1 : Int32)), .val (.int v139), .val (.int v147), .val (.int (pick3F v147 v2 v9 v13)), .val (.ref a149)] [(.int (1 : Int32))])
      refine WGo.st (fun _ q => XS.goto S435.here hx rfl (pc0 := 371) (pc' := 375) rfl (hb hby at_371) (by decide) (by decide) q) ?_
      show WGo _ _ _ _ _ _ _ _ T434 (mkF m 375 #[.val (.long p1), .second, .val (.long p2), .second, .val (.int p3), .val (.int p4), .val (.int p5), .val (.int v2), .val (.int v9), .val (.int v13), .val (.int v20), .val (.int p3), .val (.int p4), .val (.ref a32), .val (.ref a68), .val (.int (1 : Int32)), .val (.int v139), .val (.int v147), .val (.int (pick3F v147 v2 v9 v13)), .val (.ref a149)] [(.int (1 : Int32))])
      refine w_retZ S435 hret (hb hby at_375) (by decide) (by decide) (by decide) ?_
      exact rfl
    · refine WGo.st (fun _ q => XS.ifYes S419.here hx rfl (pc0 := 203) (pc' := 222) rfl (hb hby at_203) rfl ((if0 _ _).trans (feq c203).2) (by decide) (by decide) q) ?_
      show WGo _ _ _ _ _ _ _ _ T418 (mkF m 222 #[.val (.long p1), .second, .val (.long p2), .second, .val (.int p3), .val (.int p4), .val (.int p5), .val (.int v2), .val (.int v9), .val (.int v13), .val (.int v20), .val (.int p3), .val (.int p4), .val (.ref a32), .val (.ref a68), .val (.int (1 : Int32)), .val (.int v139), .val (.int v147), .unset, .val (.ref a149)] [])
      refine WGo.st (fun _ q => XS.iload S419.here hx rfl (hb hby at_222) rfl q) ?_
      show WGo _ _ _ _ _ _ _ _ T418 (mkF m 224 #[.val (.long p1), .second, .val (.long p2), .second, .val (.int p3), .val (.int p4), .val (.int p5), .val (.int v2), .val (.int v9), .val (.int v13), .val (.int v20), .val (.int p3), .val (.int p4), .val (.ref a32), .val (.ref a68), .val (.int (1 : Int32)), .val (.int v139), .val (.int v147), .unset, .val (.ref a149)] [(.int v147)])
      refine WGo.st (fun _ q => XS.iload S419.here hx rfl (hb hby at_224) rfl q) ?_
      show WGo _ _ _ _ _ _ _ _ T418 (mkF m 226 #[.val (.long p1), .second, .val (.long p2), .second, .val (.int p3), .val (.int p4), .val (.int p5), .val (.int v2), .val (.int v9), .val (.int v13), .val (.int v20), .val (.int p3), .val (.int p4), .val (.ref a32), .val (.ref a68), .val (.int (1 : Int32)), .val (.int v139), .val (.int v147), .unset, .val (.ref a149)] [(.int v20), (.int v147)])
      refine WGo.st (fun _ q => XS.iload S419.here hx rfl (hb hby at_226) rfl q) ?_
      show WGo _ _ _ _ _ _ _ _ T418 (mkF m 228 #[.val (.long p1), .second, .val (.long p2), .second, .val (.int p3), .val (.int p4), .val (.int p5), .val (.int v2), .val (.int v9), .val (.int v13), .val (.int v20), .val (.int p3), .val (.int p4), .val (.ref a32), .val (.ref a68), .val (.int (1 : Int32)), .val (.int v139), .val (.int v147), .unset, .val (.ref a149)] [(.int p3), (.int v20), (.int v147)])
      refine WGo.st (fun _ q => XS.iload S419.here hx rfl (hb hby at_228) rfl q) ?_
      show WGo _ _ _ _ _ _ _ _ T418 (mkF m 230 #[.val (.long p1), .second, .val (.long p2), .second, .val (.int p3), .val (.int p4), .val (.int p5), .val (.int v2), .val (.int v9), .val (.int v13), .val (.int v20), .val (.int p3), .val (.int p4), .val (.ref a32), .val (.ref a68), .val (.int (1 : Int32)), .val (.int v139), .val (.int v147), .unset, .val (.ref a149)] [(.int p4), (.int p3), (.int v20), (.int v147)])
      refine w_static S419 (y := (⟨"com/example/pathweave/pathweave/routing/PatternArrivalPinLaw", "pick3", "(IIII)I"⟩ : MethodName)) hown (hw _ (List.mem_of_getElem? (i := 34) rfl)) (hw _ (List.mem_of_getElem? (i := 35) rfl)) (hw _ (List.mem_of_getElem? (i := 27) rfl)) (hw _ (List.mem_of_getElem? (i := 36) rfl)) (by decide) (rm_P3 l Z a0 hw n0 h420 v147 v20 p3 p4 S419.ge) (W := 0) (by decide) (by decide) (by decide) (by decide) rfl (by rw [hml]; rfl) (argsL := [(.int v147), (.int v20), (.int p3), (.int p4)]) (rest := []) (ps := [.int, .int, .int, .int]) (rt := (some .int)) (by decide) rfl rfl rfl (by show 2 * 0 + _ ≤ _; exact Nat.le_of_eq rfl) (hb hby at_230) ?_
      intro T439 h441 w442 S440 q443
      obtain ⟨q443a, q443b⟩ := q443
      subst q443a
      replace q443b := Eq.symm q443b
      subst q443b
      show WGo _ _ _ _ _ _ _ _ T439 (mkF m 233 #[.val (.long p1), .second, .val (.long p2), .second, .val (.int p3), .val (.int p4), .val (.int p5), .val (.int v2), .val (.int v9), .val (.int v13), .val (.int v20), .val (.int p3), .val (.int p4), .val (.ref a32), .val (.ref a68), .val (.int (1 : Int32)), .val (.int v139), .val (.int v147), .unset, .val (.ref a149)] [(.int (pick3F v147 v20 p3 p4))])
      refine WGo.st (fun _ q => XS.istore S440.here hx rfl (hb hby at_233) rfl (l' := #[.val (.long p1), .second, .val (.long p2), .second, .val (.int p3), .val (.int p4), .val (.int p5), .val (.int v2), .val (.int v9), .val (.int v13), .val (.int v20), .val (.int p3), .val (.int p4), .val (.ref a32), .val (.ref a68), .val (.int (1 : Int32)), .val (.int v139), .val (.int v147), .val (.int (pick3F v147 v20 p3 p4)), .val (.ref a149)]) rfl q) ?_
      show WGo _ _ _ _ _ _ _ _ T439 (mkF m 235 #[.val (.long p1), .second, .val (.long p2), .second, .val (.int p3), .val (.int p4), .val (.int p5), .val (.int v2), .val (.int v9), .val (.int v13), .val (.int v20), .val (.int p3), .val (.int p4), .val (.ref a32), .val (.ref a68), .val (.int (1 : Int32)), .val (.int v139), .val (.int v147), .val (.int (pick3F v147 v20 p3 p4)), .val (.ref a149)] [])
      refine WGo.st (fun _ q => XS.goto S440.here hx rfl (pc0 := 235) (pc' := 356) rfl (hb hby at_235) (by decide) (by decide) q) ?_
      show WGo _ _ _ _ _ _ _ _ T439 (mkF m 356 #[.val (.long p1), .second, .val (.long p2), .second, .val (.int p3), .val (.int p4), .val (.int p5), .val (.int v2), .val (.int v9), .val (.int v13), .val (.int v20), .val (.int p3), .val (.int p4), .val (.ref a32), .val (.ref a68), .val (.int (1 : Int32)), .val (.int v139), .val (.int v147), .val (.int (pick3F v147 v20 p3 p4)), .val (.ref a149)] [])
      refine WGo.st (fun _ q => XS.aload S440.here hx rfl (hb hby at_356) rfl rfl q) ?_
      show WGo _ _ _ _ _ _ _ _ T439 (mkF m 358 #[.val (.long p1), .second, .val (.long p2), .second, .val (.int p3), .val (.int p4), .val (.int p5), .val (.int v2), .val (.int v9), .val (.int v13), .val (.int v20), .val (.int p3), .val (.int p4), .val (.ref a32), .val (.ref a68), .val (.int (1 : Int32)), .val (.int v139), .val (.int v147), .val (.int (pick3F v147 v20 p3 p4)), .val (.ref a149)] [(.ref a149)])
      refine WGo.st (fun _ q => XS.iload S440.here hx rfl (hb hby at_358) rfl q) ?_
      show WGo _ _ _ _ _ _ _ _ T439 (mkF m 360 #[.val (.long p1), .second, .val (.long p2), .second, .val (.int p3), .val (.int p4), .val (.int p5), .val (.int v2), .val (.int v9), .val (.int v13), .val (.int v20), .val (.int p3), .val (.int p4), .val (.ref a32), .val (.ref a68), .val (.int (1 : Int32)), .val (.int v139), .val (.int v147), .val (.int (pick3F v147 v20 p3 p4)), .val (.ref a149)] [(.int v139), (.ref a149)])
      refine WGo.st (fun _ q => XS.iload S440.here hx rfl (hb hby at_360) rfl q) ?_
      show WGo _ _ _ _ _ _ _ _ T439 (mkF m 362 #[.val (.long p1), .second, .val (.long p2), .second, .val (.int p3), .val (.int p4), .val (.int p5), .val (.int v2), .val (.int v9), .val (.int v13), .val (.int v20), .val (.int p3), .val (.int p4), .val (.ref a32), .val (.ref a68), .val (.int (1 : Int32)), .val (.int v139), .val (.int v147), .val (.int (pick3F v147 v20 p3 p4)), .val (.ref a149)] [(.int v147), (.int v139), (.ref a149)])
      refine w_virtual S440 (y := (⟨"com/example/pathweave/pathweave/routing/Pattern", "arrival", "(II)I"⟩ : MethodName)) hown (hw _ (List.mem_of_getElem? (i := 29) rfl)) (hw _ (List.mem_of_getElem? (i := 30) rfl)) (hw _ (List.mem_of_getElem? (i := 32) rfl)) (hw _ (List.mem_of_getElem? (i := 31) rfl)) (hw _ (List.mem_of_getElem? (i := 3) rfl)) (hw _ (List.mem_of_getElem? (i := 33) rfl)) (by decide) q422f0 (rm_Ar l Z a0 hw n0 h420 a149 v139 v147 a156 a32 [(10 : Int32), (11 : Int32), (12 : Int32)] [v2, v9, v13, v20, p3, p4] (3 : Int32) S440.ge q422f1 q422f3 f425 f423 rfl hix.1 hix.2) (W := 0) (by decide) (by decide) (by decide) (by decide) rfl (by rw [hml]; rfl) (argsL := [(.int v139), (.int v147)]) (rest := []) (ps := [.int, .int]) (rt := (some .int)) (by decide) rfl rfl rfl (by show 2 * 0 + _ ≤ _; exact Nat.le_of_eq rfl) (hb hby at_362) ?_
      intro T444 h446 w447 S445 q448
      obtain ⟨q448a, q448b⟩ := q448
      subst q448a
      replace q448b := Eq.symm q448b
      subst q448b
      show WGo _ _ _ _ _ _ _ _ T444 (mkF m 365 #[.val (.long p1), .second, .val (.long p2), .second, .val (.int p3), .val (.int p4), .val (.int p5), .val (.int v2), .val (.int v9), .val (.int v13), .val (.int v20), .val (.int p3), .val (.int p4), .val (.ref a32), .val (.ref a68), .val (.int (1 : Int32)), .val (.int v139), .val (.int v147), .val (.int (pick3F v147 v20 p3 p4)), .val (.ref a149)] [(.int (gi [v2, v9, v13, v20, p3, p4] ((v139 * (3 : Int32)) + v147)))])
      refine WGo.st (fun _ q => XS.iload S445.here hx rfl (hb hby at_365) rfl q) ?_
      show WGo _ _ _ _ _ _ _ _ T444 (mkF m 367 #[.val (.long p1), .second, .val (.long p2), .second, .val (.int p3), .val (.int p4), .val (.int p5), .val (.int v2), .val (.int v9), .val (.int v13), .val (.int v20), .val (.int p3), .val (.int p4), .val (.ref a32), .val (.ref a68), .val (.int (1 : Int32)), .val (.int v139), .val (.int v147), .val (.int (pick3F v147 v20 p3 p4)), .val (.ref a149)] [(.int (pick3F v147 v20 p3 p4)), (.int (gi [v2, v9, v13, v20, p3, p4] ((v139 * (3 : Int32)) + v147)))])
      refine WGo.st (fun _ q => XS.icmpNo S445.here hx rfl (hb hby at_367) rfl (teq (g31 (hi.resolve_left c203) hp)).2 q) ?_
      show WGo _ _ _ _ _ _ _ _ T444 (mkF m 370 #[.val (.long p1), .second, .val (.long p2), .second, .val (.int p3), .val (.int p4), .val (.int p5), .val (.int v2), .val (.int v9), .val (.int v13), .val (.int v20), .val (.int p3), .val (.int p4), .val (.ref a32), .val (.ref a68), .val (.int (1 : Int32)), .val (.int v139), .val (.int v147), .val (.int (pick3F v147 v20 p3 p4)), .val (.ref a149)] [])
      refine WGo.st (fun _ q => XS.iconst S445.here hx rfl (hb hby at_370) q) ?_
      show WGo _ _ _ _ _ _ _ _ T444 (mkF m 371 #[.val (.long p1), .second, .val (.long p2), .second, .val (.int p3), .val (.int p4), .val (.int p5), .val (.int v2), .val (.int v9), .val (.int v13), .val (.int v20), .val (.int p3), .val (.int p4), .val (.ref a32), .val (.ref a68), .val (.int (1 : Int32)), .val (.int v139), .val (.int v147), .val (.int (pick3F v147 v20 p3 p4)), .val (.ref a149)] [(.int (1 : Int32))])
      refine WGo.st (fun _ q => XS.goto S445.here hx rfl (pc0 := 371) (pc' := 375) rfl (hb hby at_371) (by decide) (by decide) q) ?_
      show WGo _ _ _ _ _ _ _ _ T444 (mkF m 375 #[.val (.long p1), .second, .val (.long p2), .second, .val (.int p3), .val (.int p4), .val (.int p5), .val (.int v2), .val (.int v9), .val (.int v13), .val (.int v20), .val (.int p3), .val (.int p4), .val (.ref a32), .val (.ref a68), .val (.int (1 : Int32)), .val (.int v139), .val (.int v147), .val (.int (pick3F v147 v20 p3 p4)), .val (.ref a149)] [(.int (1 : Int32))])
      refine w_retZ S445 hret (hb hby at_375) (by decide) (by decide) (by decide) ?_
      exact rfl
set_option maxRecDepth 65536 in
set_option maxHeartbeats 40000000 in
theorem comes_1 {Post : Tables → Env → Array Value → State → Outcome → State → Prop} (hpost : ∀ tb e args s v u, (limb_1_1.after args s (.returned v) u = true ∧ limb_1_2.after args s (.returned v) u = true ∧ True) → FrameEnd s (.returned v) u (Jvm.fieldLocs frame_1_writes args s ++ Jvm.arrayLocs frame_1_arrays args s ++ Jvm.staticLocs frame_1_statics s) 24 128 → Post tb e args s (.returned v) u) :
    ArmFor flags0 classFile x code maxLocals ret World_1 tables_1 room_1 Calls_1 rest_1 Pre_1 Post := by
  intro l hfl _ _ p e ha hc hk s m args below hf hA hF happ hP
  obtain ⟨hcalls, hrest, hpre⟩ := hP
  obtain ⟨-, -, -, hnamed, -, -, -, hat⟩ := (Spec.applies_iff hf).mp happ
  obtain ⟨hg, hn⟩ := and_e (Cond.before_iff.mp (show (Jvm.Cond.and given_1 narrow_1).before args s = true from hpre))
  obtain ⟨hcount, hg0⟩ := and_e hg
  obtain ⟨ha0, hg1⟩ := and_e hg0
  obtain ⟨ha1, hg2⟩ := and_e hg1
  obtain ⟨ha2, hg3⟩ := and_e hg2
  obtain ⟨ha3, hg4⟩ := and_e hg3
  obtain ⟨w0, w1, w2, w3, w4, rfl⟩ : ∃ (w0 : Value) (w1 : Value) (w2 : Value) (w3 : Value) (w4 : Value), args = #[w0, w1, w2, w3, w4] := by
    have hs : args.size = 5 := by simpa [Cond.value, given_1] using hcount
    obtain ⟨L⟩ := args
    match L, hs with
    | [w0, w1, w2, w3, w4], _ => exact ⟨w0, w1, w2, w3, w4, rfl⟩
  have hw := fun d (hd : d ∈ tables_1) => atoms_spec (ws := Jvm.Cond.code x code maxLocals ret :: tables_1) hat d (List.mem_cons_of_mem _ hd)
  obtain ⟨i0, e0⟩ := isL_v ha0
  obtain rfl : w0 = (.long i0) := Option.some.inj e0
  obtain ⟨i1, e1⟩ := isL_v ha1
  obtain rfl : w1 = (.long i1) := Option.some.inj e1
  obtain ⟨i2, e2⟩ := is_v ha2
  obtain rfl : w2 = (.int i2) := Option.some.inj e2
  obtain ⟨i3, e3⟩ := is_v ha3
  obtain rfl : w3 = (.int i3) := Option.some.inj e3
  obtain ⟨i4, e4⟩ := is_v hg4
  obtain rfl : w4 = (.int i4) := Option.some.inj e4
  obtain ⟨n, o, h1, h2, h3, _, L, rfl, ⟨hQ, N⟩, hq⟩ := rm_0 l s _ hw s.heap.size s.heap i0 i1 i2 i3 i4  (Nat.le_refl _)  p e ha hc hk s m _ below hf ((Spec.applies_iff_loose hf).mp happ).1 ⟨rfl, State.Warmed39.refl s, rfl⟩ trivial
  obtain rfl := hQ
  refine ⟨n, _, h1, h2, h3, hpost _ _ _ _ _ _ ⟨Cond.after_iff.mpr rfl, Cond.after_iff.mpr (eq_i res_at (Term.int_eval (1)) rfl), trivial⟩ ⟨hq.1, hq.2.1, (hq.2.2.sift fun y hy => Or.inr (N y hy)).mono (by decide) (by decide)⟩⟩
theorem main_1_1 : Claimed_1_1 := comes_1 fun _ _ _ _ _ _ h hF => ⟨h.1, hF⟩
theorem main_1_2 : Claimed_1_2 := comes_1 fun _ _ _ _ _ _ h hF => ⟨h.2.1, hF⟩
end Jvm.Pilot.@@N@@
namespace Jvm.Pilot.@@N@@
open Jvm Jvm.ClassFile Sem Op Lib Jvm.Free Jvm.Stand Jvm.Pilot.@@N@@.Jvm.D
/-! MADE BY PROGRAM (witnessworld.py) out of the Statement's table words and the real class files: 11 classes; the members and pool entries that the words name. The judged class is class 1, her method 3. -/
namespace start1
open Jvm.ClassFile
def u (s : String) : CpInfo := .utf8 (stringToUtf16 s)
/-- a pool by its gaps: so many unusable entries, then the entry; so many at the end -/
def gap : Nat → List CpInfo → List CpInfo
  | 0, r => r
  | n + 1, r => .unusable :: gap n r
def poolList (es : List (Nat × CpInfo)) (last : Nat) : List CpInfo := es.foldr (fun e r => gap e.1 (e.2 :: r)) (gap last [])
def pool (es : List (Nat × CpInfo)) (last : Nat) : Array CpInfo := ⟨poolList es last⟩
def fileOf (pool : Array CpInfo) (this : Nat) (attrs : Array Attribute := #[]) (ms : Array MethodInfo := #[]) (fl : Nat := 33) (sup : Nat := 0) (ifs : Array Nat := #[]) (fds : Array FieldInfo := #[]) : ClassFile where
  minorVersion := 0
  majorVersion := 65
  constantPool := pool
  accessFlags := fl
  thisClass := this
  superClass := sup
  interfaces := ifs
  fields := fds
  methods := ms
  attributes := attrs
def plain (name : String) (sup : Option ClassId) : Class where
  name := name
  kind := .ordinary
  loader := none
  accessFlags := 33
  super := sup
  interfaces := #[]
  cf := none
  fields := #[]
  methods := #[]
  instanceTypes := #[]
  staticTypes := #[]
  resolved := #[]
  callSites := []
  init := .initialized
  statics := none
  mirror := none

def pool0 : Array CpInfo := pool [(5, u "<init>"), (0, u "()V"), (1, .class_ 10), (1, u "java/lang/Object")] 113

def k0c0 : Code := { maxStack := 0, maxLocals := 1, code := object_method_1_code, exceptionTable := #[], attributes := #[] }
def k0m0 : Method := { name := "<init>", desc := "()V", sig := { parameters := [], returnType := none }, accessFlags := 1, code := some k0c0 }
/-- java/lang/Object -/
def k0 : Class := { plain "java/lang/Object" none with
  accessFlags := 33
  interfaces := #[]
  cf := some (fileOf pool0 8 #[] #[{ accessFlags := 1, nameIndex := 5, descriptorIndex := 6, attributes := #[] }] 33 0 #[] #[])
  fields := #[]
  methods := #[k0m0]
  instanceTypes := #[]
  staticTypes := #[]
  resolved := Array.replicate 124 none
  statics := none }

def pool1 : Array CpInfo := pool [(2, .class_ 4), (1, u "java/lang/Object"), (0, u "<init>"), (0, u "()V"), (0, .class_ 8), (0, u "com/example/pathweave/pathweave/routing/Pattern"), (0, .methodref 7 10), (0, .nameAndType 5 11), (0, u "(I[I[Z[Z[I[I[I)V"), (0, .methodref 13 14), (0, .class_ 15), (0, .nameAndType 16 17), (0, u "com/example/pathweave/pathweave/routing/PatternArrivalPinLaw"), (0, u "pick3"), (0, u "(IIII)I"), (0, .methodref 13 19), (0, .nameAndType 20 21), (0, u "pick2"), (0, u "(III)I"), (0, .methodref 7 23), (0, .nameAndType 24 25), (0, u "arrival"), (0, u "(II)I"), (3, u "law"), (0, u "(JJIII)Z")] 4

def k1m0 : Method := { name := "<init>", desc := "()V", sig := { parameters := [], returnType := none }, accessFlags := 1, code := none }
def k1c1 : Code := { maxStack := 2, maxLocals := 4, code := method_2_code, exceptionTable := #[], attributes := #[] }
def k1m1 : Method := { name := "pick3", desc := "(IIII)I", sig := { parameters := [.int, .int, .int, .int], returnType := some .int }, accessFlags := 10, code := some k1c1 }
def k1c2 : Code := { maxStack := 1, maxLocals := 3, code := method_3_code, exceptionTable := #[], attributes := #[] }
def k1m2 : Method := { name := "pick2", desc := "(III)I", sig := { parameters := [.int, .int, .int], returnType := some .int }, accessFlags := 10, code := some k1c2 }
def k1c3 : Code := { maxStack := 10, maxLocals := 20, code := code, exceptionTable := #[], attributes := #[] }
def k1m3 : Method := { name := "law", desc := "(JJIII)Z", sig := { parameters := [.long, .long, .int, .int, .int], returnType := some .boolean }, accessFlags := 9, code := some k1c3 }
/-- com/example/pathweave/pathweave/routing/PatternArrivalPinLaw -/
def k1 : Class := { plain "com/example/pathweave/pathweave/routing/PatternArrivalPinLaw" (some 0) with
  accessFlags := 49
  interfaces := #[]
  cf := some (fileOf pool1 13 #[] #[{ accessFlags := 1, nameIndex := 5, descriptorIndex := 6, attributes := #[] }, { accessFlags := 10, nameIndex := 16, descriptorIndex := 17, attributes := #[] }, { accessFlags := 10, nameIndex := 20, descriptorIndex := 21, attributes := #[] }, { accessFlags := 9, nameIndex := 29, descriptorIndex := 30, attributes := #[] }] 49 2 #[] #[])
  fields := #[]
  methods := #[k1m0, k1m1, k1m2, k1m3]
  instanceTypes := #[]
  staticTypes := #[]
  resolved := Array.replicate 35 none
  statics := none }

def pool2 : Array CpInfo := pool [(1, .methodref 2 3), (0, .class_ 4), (0, .nameAndType 5 6), (0, u "java/lang/Object"), (0, u "<init>"), (0, u "()V"), (0, .fieldref 8 9), (0, .class_ 10), (0, .nameAndType 11 12), (0, u "com/example/pathweave/pathweave/routing/Pattern"), (0, u "route"), (0, u "I"), (0, .fieldref 8 14), (0, .nameAndType 15 16), (0, u "stops"), (0, u "[I"), (0, .fieldref 8 18), (0, .nameAndType 19 20), (0, u "pickups"), (0, u "[Z"), (0, .fieldref 8 22), (0, .nameAndType 23 20), (0, u "dropOffs"), (0, .fieldref 8 25), (0, .nameAndType 26 16), (0, u "trips"), (0, .fieldref 8 28), (0, .nameAndType 29 16), (0, u "arrivals"), (0, .fieldref 8 31), (0, .nameAndType 32 16), (0, u "departures"), (3, u "(II)I"), (2, u "arrival"), (0, u "(I[I[Z[Z[I[I[I)V")] 19

def k2c0 : Code := { maxStack := 2, maxLocals := 8, code := prog_88_method_1_code, exceptionTable := #[], attributes := #[] }
def k2m0 : Method := { name := "<init>", desc := "(I[I[Z[Z[I[I[I)V", sig := { parameters := [.int, (.array .int), (.array .boolean), (.array .boolean), (.array .int), (.array .int), (.array .int)], returnType := none }, accessFlags := 0, code := some k2c0 }
def k2c1 : Code := { maxStack := 3, maxLocals := 3, code := prog_88_method_10_code, exceptionTable := #[], attributes := #[] }
def k2m1 : Method := { name := "arrival", desc := "(II)I", sig := { parameters := [.int, .int], returnType := some .int }, accessFlags := 0, code := some k2c1 }
/-- com/example/pathweave/pathweave/routing/Pattern -/
def k2 : Class := { plain "com/example/pathweave/pathweave/routing/Pattern" (some 0) with
  accessFlags := 48
  interfaces := #[]
  cf := some (fileOf pool2 8 #[] #[{ accessFlags := 0, nameIndex := 5, descriptorIndex := 40, attributes := #[] }, { accessFlags := 0, nameIndex := 39, descriptorIndex := 36, attributes := #[] }] 48 2 #[] #[{ accessFlags := 18, nameIndex := 11, descriptorIndex := 12, attributes := #[] }, { accessFlags := 18, nameIndex := 15, descriptorIndex := 16, attributes := #[] }, { accessFlags := 18, nameIndex := 26, descriptorIndex := 16, attributes := #[] }, { accessFlags := 18, nameIndex := 29, descriptorIndex := 16, attributes := #[] }, { accessFlags := 18, nameIndex := 32, descriptorIndex := 16, attributes := #[] }, { accessFlags := 18, nameIndex := 19, descriptorIndex := 20, attributes := #[] }, { accessFlags := 18, nameIndex := 23, descriptorIndex := 20, attributes := #[] }])
  fields := #[{ name := "route", type := .int, accessFlags := 18, slot := 0, constantValue := 0 }, { name := "stops", type := (.array .int), accessFlags := 18, slot := 1, constantValue := 0 }, { name := "trips", type := (.array .int), accessFlags := 18, slot := 2, constantValue := 0 }, { name := "arrivals", type := (.array .int), accessFlags := 18, slot := 3, constantValue := 0 }, { name := "departures", type := (.array .int), accessFlags := 18, slot := 4, constantValue := 0 }, { name := "pickups", type := (.array .boolean), accessFlags := 18, slot := 5, constantValue := 0 }, { name := "dropOffs", type := (.array .boolean), accessFlags := 18, slot := 6, constantValue := 0 }]
  methods := #[k2m0, k2m1]
  instanceTypes := #[.int, (.array .int), (.array .int), (.array .int), (.array .int), (.array .boolean), (.array .boolean)]
  staticTypes := #[]
  resolved := Array.replicate 60 none
  statics := none }

def pool3 : Array CpInfo := pool [(1, u "java/lang/Cloneable"), (0, .class_ 1), (0, u "java/lang/Object"), (0, .class_ 3)] 3

/-- java/lang/Cloneable -/
def k3 : Class := { plain "java/lang/Cloneable" (some 0) with
  accessFlags := 1537
  interfaces := #[]
  cf := some (fileOf pool3 2 #[] #[] 1537 4 #[] #[])
  fields := #[]
  methods := #[]
  instanceTypes := #[]
  staticTypes := #[]
  resolved := Array.replicate 8 none
  statics := none }

def pool4 : Array CpInfo := pool [(1, u "java/io/Serializable"), (0, .class_ 1), (0, u "java/lang/Object"), (0, .class_ 3)] 3

/-- java/io/Serializable -/
def k4 : Class := { plain "java/io/Serializable" (some 0) with
  accessFlags := 1537
  interfaces := #[]
  cf := some (fileOf pool4 2 #[] #[] 1537 4 #[] #[])
  fields := #[]
  methods := #[]
  instanceTypes := #[]
  staticTypes := #[]
  resolved := Array.replicate 8 none
  statics := none }

/-- the primitive boolean -/
def k5 : Class := { plain "boolean" none with kind := .primitive 'Z', accessFlags := 0x411 }
/-- [Z -/
def k6 : Class := { plain "[Z" (some 0) with kind := .array 5 .boolean, interfaces := #[3, 4], accessFlags := 1041 }

/-- the primitive byte -/
def k7 : Class := { plain "byte" none with kind := .primitive 'B', accessFlags := 0x411 }
/-- [B -/
def k8 : Class := { plain "[B" (some 0) with kind := .array 7 .byte, interfaces := #[3, 4], accessFlags := 1041 }

/-- the primitive int -/
def k9 : Class := { plain "int" none with kind := .primitive 'I', accessFlags := 0x411 }
/-- [I -/
def k10 : Class := { plain "[I" (some 0) with kind := .array 9 .int, interfaces := #[3, 4], accessFlags := 1041 }

def heap : Heap := #[]
def classes : Array Class := #[k0, k1, k2, k3, k4, k5, k6, k7, k8, k9, k10]
def interned : List (Array UInt16 × Addr) := []
def slotsUsed : Nat := 0
def theMethod : MethodId := ⟨1, 3⟩
def args0 : Array Value := #[.long 5, .long 300, .int 7, .int 1, .int 3]
def aboutOver (below : List Frame) : State where
  vm := { classes := classes, interned := interned.toArray }
  heap := heap
  slotsUsed := slotsUsed
  threads := #[{ frames := .invoking theMethod args0 :: below }]
def below0 : List Frame := [.native { method := ⟨0, 0⟩, args := #[] }]
def about1 : State := aboutOver below0
def p0 : Program := .bare "" "" ""
def e0 : Env := launch0.env 0 0 0
theorem w_frames : about1.frames = Frame.invoking theMethod args0 :: below0 := rfl
set_option maxRecDepth 65536 in
theorem w_args : argsFit about1.vm theMethod args0 = true := by decide +kernel
set_option maxRecDepth 65536 in
theorem w_heap : heapFits about1 = true := by decide +kernel
set_option maxRecDepth 65536 in
theorem w_runnable : about1.curStatus? = some .runnable := by decide +kernel
set_option maxRecDepth 65536 in
theorem w_alone : about1.alone = true := by decide +kernel
set_option maxRecDepth 65536 in
theorem w_named : about1.methodNamed? x = some theMethod := by decide +kernel
set_option maxRecDepth 65536 in
theorem w_hears : about1.hears theMethod below0 = true := by decide +kernel
set_option maxRecDepth 65536 in
theorem w_ripe : about1.ripe theMethod args0 below0 = true := by decide +kernel
theorem w_running : about1.status = .running := rfl
set_option maxRecDepth 65536 in
theorem w_room : about1.hasRoom e0.platform room_1 = true :=
  launch0.hasRoom_least _ room_1 (by decide +kernel) (by decide +kernel) (by decide +kernel) (by decide +kernel) (by decide +kernel) (by decide +kernel)
theorem allAtoms_all (ts : List Jvm.Cond) (a : Array Jvm.Value) (st : Jvm.State) : (allAtoms ts).before a st = ts.all (fun c => c.before a st) := by
  induction ts with
  | nil => rfl
  | cons c t ih =>
    show (Jvm.Cond.and c (allAtoms t)).before a st = _
    rw [Jvm.Cond.before_and, ih, List.all_cons]
def words1 : List Jvm.Cond := Jvm.Cond.code x code maxLocals ret :: tables_1
/-- a 'code' word, met by the world's own term for the bytes: nothing is compared byte by byte -/
theorem code_word {y : MethodName} {bytes : ByteArray} {mx : Nat} {rt : Option FieldType} {a : Array Value} {s : State} {m : MethodId} {meth : Method} {c : Code} (h1 : s.methodNamed? y = some m) (h2 : s.vm.method? m = some meth) (h3 : meth.code = some c) (h4 : c.code = bytes)
    (h5 : (c.maxLocals == mx && c.exceptionTable.isEmpty && decide (c.maxStack ≤ mostOperands) && decide (meth.sig.returnType = rt) && !meth.locks && decide (parseMethodDescriptor y.desc = some meth.sig)) = true) : (Jvm.Cond.code y bytes mx rt).before a s = true := by
  simp only [Bool.and_eq_true, beq_iff_eq, Bool.not_eq_true', decide_eq_true_eq] at h5
  obtain ⟨⟨⟨⟨⟨g1, g2⟩, g3⟩, g4⟩, g5⟩, g6⟩ := h5
  simp [Cond.before, Cond.holds, Cond.value, h1, h2, h3, h4, g1, g2, g3, g4, g5, g6]
def isCode : Jvm.Cond → Bool
  | .code _ _ _ _ => true
  | _ => false
theorem all_split {L : List Jvm.Cond} {P : Jvm.Cond → Bool} (h1 : L.all (fun c => isCode c || P c) = true) (h2 : ∀ c ∈ L.filter isCode, P c = true) : L.all P = true := by
  refine List.all_eq_true.mpr fun c hc => ?_
  have h := List.all_eq_true.mp h1 c hc
  rcases Bool.eq_false_or_eq_true (isCode c) with hi | hi
  · exact h2 c (List.mem_filter.mpr ⟨hc, hi⟩)
  · simpa [hi] using h
set_option maxRecDepth 65536 in
theorem w_c0 : (Jvm.Cond.code x code maxLocals ret).before args0 about1 = true := code_word (m := ⟨1, 3⟩) (meth := k1m3) (c := k1c3) (by decide +kernel) rfl rfl rfl (by decide +kernel)
set_option maxRecDepth 65536 in
theorem w_c1 : (Jvm.Cond.code ({ cls := "com/example/pathweave/pathweave/routing/Pattern", name := "<init>", desc := "(I[I[Z[Z[I[I[I)V" } : Jvm.MethodName) prog_88_method_1_code (8 : Nat) (Option.none : Option Jvm.ClassFile.FieldType)).before args0 about1 = true := code_word (m := ⟨2, 0⟩) (meth := k2m0) (c := k2c0) (by decide +kernel) rfl rfl rfl (by decide +kernel)
set_option maxRecDepth 65536 in
theorem w_c2 : (Jvm.Cond.code ({ cls := "java/lang/Object", name := "<init>", desc := "()V" } : Jvm.MethodName) object_method_1_code (1 : Nat) (Option.none : Option Jvm.ClassFile.FieldType)).before args0 about1 = true := code_word (m := ⟨0, 0⟩) (meth := k0m0) (c := k0c0) (by decide +kernel) rfl rfl rfl (by decide +kernel)
set_option maxRecDepth 65536 in
theorem w_c3 : (Jvm.Cond.code ({ cls := "com/example/pathweave/pathweave/routing/PatternArrivalPinLaw", name := "pick2", desc := "(III)I" } : Jvm.MethodName) method_3_code (3 : Nat) (Option.some Jvm.ClassFile.FieldType.int)).before args0 about1 = true := code_word (m := ⟨1, 2⟩) (meth := k1m2) (c := k1c2) (by decide +kernel) rfl rfl rfl (by decide +kernel)
set_option maxRecDepth 65536 in
theorem w_c4 : (Jvm.Cond.code ({ cls := "com/example/pathweave/pathweave/routing/Pattern", name := "arrival", desc := "(II)I" } : Jvm.MethodName) prog_88_method_10_code (3 : Nat) (Option.some Jvm.ClassFile.FieldType.int)).before args0 about1 = true := code_word (m := ⟨2, 1⟩) (meth := k2m1) (c := k2c1) (by decide +kernel) rfl rfl rfl (by decide +kernel)
set_option maxRecDepth 65536 in
theorem w_c5 : (Jvm.Cond.code ({ cls := "com/example/pathweave/pathweave/routing/PatternArrivalPinLaw", name := "pick3", desc := "(IIII)I" } : Jvm.MethodName) method_2_code (4 : Nat) (Option.some Jvm.ClassFile.FieldType.int)).before args0 about1 = true := code_word (m := ⟨1, 1⟩) (meth := k1m1) (c := k1c1) (by decide +kernel) rfl rfl rfl (by decide +kernel)
def codes1 : List Jvm.Cond := [Jvm.Cond.code x code maxLocals ret, Jvm.Cond.code ({ cls := "com/example/pathweave/pathweave/routing/Pattern", name := "<init>", desc := "(I[I[Z[Z[I[I[I)V" } : Jvm.MethodName) prog_88_method_1_code (8 : Nat) (Option.none : Option Jvm.ClassFile.FieldType), Jvm.Cond.code ({ cls := "java/lang/Object", name := "<init>", desc := "()V" } : Jvm.MethodName) object_method_1_code (1 : Nat) (Option.none : Option Jvm.ClassFile.FieldType), Jvm.Cond.code ({ cls := "com/example/pathweave/pathweave/routing/PatternArrivalPinLaw", name := "pick2", desc := "(III)I" } : Jvm.MethodName) method_3_code (3 : Nat) (Option.some Jvm.ClassFile.FieldType.int), Jvm.Cond.code ({ cls := "com/example/pathweave/pathweave/routing/Pattern", name := "arrival", desc := "(II)I" } : Jvm.MethodName) prog_88_method_10_code (3 : Nat) (Option.some Jvm.ClassFile.FieldType.int), Jvm.Cond.code ({ cls := "com/example/pathweave/pathweave/routing/PatternArrivalPinLaw", name := "pick3", desc := "(IIII)I" } : Jvm.MethodName) method_2_code (4 : Nat) (Option.some Jvm.ClassFile.FieldType.int)]
set_option maxRecDepth 65536 in
theorem codes_eq : words1.filter isCode = codes1 := rfl
theorem w_codes : ∀ c ∈ words1.filter isCode, c.before args0 about1 = true := by
  rw [codes_eq]
  intro c hc
  simp only [codes1, List.mem_cons, List.not_mem_nil, or_false] at hc
  rcases hc with rfl | rfl | rfl | rfl | rfl | rfl
  · exact w_c0
  · exact w_c1
  · exact w_c2
  · exact w_c3
  · exact w_c4
  · exact w_c5
set_option maxRecDepth 65536 in
theorem w_t1 : (words1.take 24).all (fun c => isCode c || c.before args0 about1) = true := by decide +kernel
set_option maxRecDepth 65536 in
theorem w_t2 : (words1.drop 24).all (fun c => isCode c || c.before args0 about1) = true := by decide +kernel
theorem w_tables : (allAtoms (Jvm.Cond.code x code maxLocals ret :: tables_1)).before args0 about1 = true := by
  rw [allAtoms_all]
  show words1.all (fun c => c.before args0 about1) = true
  refine all_split ?_ w_codes
  rw [← List.take_append_drop 24 words1, List.all_append, w_t1, w_t2]
  rfl
set_option maxRecDepth 65536 in
theorem w_case : (Jvm.Cond.and given_1 narrow_1).before args0 about1 = true := by decide +kernel
theorem w_applies : (headSpec (Jvm.Cond.code x code maxLocals ret :: tables_1) room_1).applies x e0.platform about1 = true :=
  (Spec.applies_iff w_frames).mpr ⟨w_running, w_runnable, w_alone, w_named, w_hears, w_ripe, w_room, w_tables⟩
theorem atStart : AtStart classFile x code maxLocals ret World_1 tables_1 room_1 Calls_1 rest_1 Pre_1 launch0 p0 e0 about1 theMethod args0 below0 :=
  ⟨lists_1, trivial, launch0.admits_env _ _ _, launch0.least_env, fairChoices_fair.cas, fairChoices_fair.clock, w_frames, w_args, w_heap, w_applies, trivial, trivial, w_case⟩
end start1
theorem witness_1 : WitnessClaimed_1 := ⟨start1.p0, start1.e0, start1.about1, start1.theMethod, start1.args0, start1.below0, start1.atStart⟩
end Jvm.Pilot.@@N@@
