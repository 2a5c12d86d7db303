import JvmDerived
import JvmDerived.Pilot.@@N@@Statement
import JvmDerived.Pilot.@@N@@Code
set_option linter.unusedVariables false
set_option linter.unusedSimpArgs false
namespace Jvm.Pilot.@@N@@
open Jvm Jvm.ClassFile Sem Op Lib Jvm.Free Jvm.Stand Jvm.LawKit Jvm.RoadKit Bundle Jvm.Pilot.@@N@@.Jvm.D
section JU
variable {tb : Tables} [Ours tb] {e : Env} {below : List Frame} {T target : State} {m : MethodId} {c : Code} {g : JFrame}
theorem yI (h : At T m c below) (hx : tb.exec = Jvm.exec) (hg : g.method = m) {cd : Jvm.ClassFile.Cond} {x : Int32} {rest : List Value} {o : Int} (pc0 pc' : Nat) (hpc : g.pc = pc0) (hd : decode c.code g.pc = .ok (.ifCond cd o, 3)) (hs : g.stack = .int x :: rest) (hc : ifCond.holds cd x = true) (hr : Steps tb e below (T.setTop { g with pc := pc', stack := rest }) target) (ho : 0 ≤ (pc0 : Int) + o := by decide) (hp : ((pc0 : Int) + o).toNat = pc' := by decide) : Steps tb e below (T.setTop g) target := XS.ifYes h hx hg hpc hd hs hc ho hp hr
theorem yC (h : At T m c below) (hx : tb.exec = Jvm.exec) (hg : g.method = m) {cd : Jvm.ClassFile.Cond} {x y : Int32} {rest : List Value} {o : Int} (pc0 pc' : Nat) (hpc : g.pc = pc0) (hd : decode c.code g.pc = .ok (.if_icmp cd o, 3)) (hs : g.stack = .int y :: .int x :: rest) (hc : if_icmp.holds cd x y = true) (hr : Steps tb e below (T.setTop { g with pc := pc', stack := rest }) target) (ho : 0 ≤ (pc0 : Int) + o := by decide) (hp : ((pc0 : Int) + o).toNat = pc' := by decide) : Steps tb e below (T.setTop g) target := XS.icmpYes h hx hg hpc hd hs hc ho hp hr
theorem yG (h : At T m c below) (hx : tb.exec = Jvm.exec) (hg : g.method = m) {o : Int} (pc0 pc' : Nat) (hpc : g.pc = pc0) (hd : decode c.code g.pc = .ok (.goto o, 3)) (hr : Steps tb e below (T.setTop { g with pc := pc' }) target) (ho : 0 ≤ (pc0 : Int) + o := by decide) (hp : ((pc0 : Int) + o).toNat = pc' := by decide) : Steps tb e below (T.setTop g) target := XS.goto h hx hg hpc hd ho hp hr
end JU
theorem own_w {a b : Nat} (h : a = b) : a ≤ b := Nat.le_of_eq h
abbrev MFP (l : Launch) (Z : State) (y : MethodName) (bytes : ByteArray) (ml : Nat) (rt : Option FieldType) (rm : Room) (ws : List Jvm.Cond) (A : Array Value) (h0 : Heap) (Q : Option Value → Heap → List Loc → Prop) : Prop :=
  MetFree l y (head1 (Jvm.Cond.code y bytes ml rt :: ws) rm) (fun a U => a = A ∧ Z.Warmed39 U.vm ∧ U.heap = h0) (fun _ _ _ _ _ => True) (fun _ U o U' => ∃ v L, o = .returned v ∧ Q v U'.heap L ∧ FrameEnd U o U' L rm.cells rm.slots)
abbrev MFS (l : Launch) (Z : State) (y : MethodName) (bytes : ByteArray) (ml : Nat) (rt : Option FieldType) (rm : Room) (ws : List Jvm.Cond) (A : Array Value) (h0 : Heap) (Q : Option Value → Heap → List Loc → Prop) : Prop :=
  MetFree l y (head1 (Jvm.Cond.code y bytes ml rt :: ws) rm) (fun a U => a = A ∧ Z.Warmed39 U.vm ∧ U.heap = h0) (fun _ _ _ _ _ => True) (fun _ U o U' => ∃ v L, o = .returned v ∧ Q v U'.heap L ∧ ReturnedEndW U o U' L rm.cells rm.slots)
abbrev MFI (l : Launch) (Z : State) (y : MethodName) (bytes : ByteArray) (ml : Nat) (rt : Option FieldType) (rm : Room) (ws : List Jvm.Cond) (A : Array Value) (h0 : Heap) (Q : Option Value → Heap → List Loc → Prop) : Prop :=
  MetFree l y (head1 (Jvm.Cond.code y bytes ml rt :: ws) rm) (fun a U => a = A ∧ Z.Warmed39 U.vm ∧ U.heap = h0 ∧ U.vm.interned = Z.vm.interned) (fun _ _ _ _ _ => True) (fun _ U o U' => ∃ v L, o = .returned v ∧ Q v U'.heap L ∧ ReturnedEndW U o U' L rm.cells rm.slots)
abbrev Kt (p : Program) (e : Env) (below : List Frame) (T st0 : State) (g : JFrame) : Prop := ∀ t, Steps p.tables e below (T.setTop g) t → Steps p.tables e below st0 t
section KL
variable {p : Program} {l : Launch} {e : Env} {R : Room} {s : State} {m : MethodId} {args : Array Value} {below : List Frame} {meth : Method} {c : Code} {T : State} {locs : List Loc} {cells slots : Nat} {Z : State} {a0 : Array Value} {h : Heap} {st0 : State} {g : JFrame}
theorem kget (X : Stand p l e R s m args below meth c T locs cells slots) (hx : p.tables.exec = Jvm.exec) (hZ : Z.Warmed39 s.vm) {own R0 O n d host : String} {index : Nat} (hown : s.vm.findClass own = some m.cls) (w : (Jvm.Cond.fieldLink own index R0 n d).before a0 Z = true ∨ (Jvm.Cond.fieldLinkNest own index R0 n d host).before a0 Z = true) (via : Via Z R0 O n d) (eT : T.heap = h) {a : Addr} {v : Value} (F : Fld Z h a O n d v) (k : Kt p e below T st0 g) (hg : g.method = m) {rest : List Value} (hs : g.stack = .ref a :: rest) (hd : decode c.code g.pc = .ok (.getfield index, 3)) :
    ∃ T', Stand p l e R s m args below meth c T' locs cells slots ∧ T'.heap = h ∧ Kt p e below T' st0 { g with pc := g.pc + 3, stack := v :: rest } := by
  obtain ⟨T', X', e', st⟩ := getF X hx hZ hown w via eT F hg hs hd
  exact ⟨T', X', e', fun t q => k t (st t q)⟩
theorem kgetS (X : Stand p l e R s m args below meth c T locs cells slots) (hx : p.tables.exec = Jvm.exec) (hZ : Z.Warmed39 s.vm) {own R0 O n d host : String} {index : Nat} (hown : s.vm.findClass own = some m.cls) (w : (Jvm.Cond.fieldLink own index R0 n d).before a0 Z = true ∨ (Jvm.Cond.fieldLinkNest own index R0 n d host).before a0 Z = true) (via : Via Z R0 O n d) (eT : T.heap = h) {v : Value} (F : Sta Z h O n d v) (k : Kt p e below T st0 g) (hg : g.method = m) (hd : decode c.code g.pc = .ok (.getstatic index, 3)) :
    ∃ T', Stand p l e R s m args below meth c T' locs cells slots ∧ T'.heap = h ∧ Kt p e below T' st0 { g with pc := g.pc + 3, stack := v :: g.stack } := by
  obtain ⟨T', X', e', st⟩ := getS2 X hx hZ hown w via eT F hg hd
  exact ⟨T', X', e', fun t q => k t (st t q)⟩
theorem kput (X : Stand p l e R s m args below meth c T locs cells slots) (hx : p.tables.exec = Jvm.exec) (hZ : Z.Warmed39 s.vm) {own R0 O n d host C : String} {index kk : Nat} (ty : FieldType) (hown : s.vm.findClass own = some m.cls) (w : (Jvm.Cond.fieldLink own index R0 n d).before a0 Z = true ∨ (Jvm.Cond.fieldLinkNest own index R0 n d host).before a0 Z = true) (via : Via Z R0 O n d) (eT : T.heap = h) {a : Addr} {v old : Value} (F : Fld Z h a O n d old) (E : Exa Z h a C) (L : (Jvm.Cond.lays C O n d).before a0 Z = true ∨ ((Jvm.Cond.laysFinal C O n d).before a0 Z = true ∧ own = O ∧ meth.name = "<init>")) (wi : (Jvm.Cond.instantiable C kk).before a0 Z = true)
    (k : Kt p e below T st0 g) (hg : g.method = m) {rest : List Value} (hs : g.stack = v :: .ref a :: rest) (hd : decode c.code g.pc = .ok (.putfield index, 3)) (hty : parseFieldDescriptor d = some ty) (hn : narrow ty v = v) (hf : fits ty v = true) {n0 : Nat} (O0 : Old Z n0 h) (N : Fr n0 locs) (ge : n0 ≤ a) :
    ∃ T' h', Stand p l e R s m args below meth c T' (locs ++ [⟨a, Jvm.RoadKit.slotOf Z O n d⟩]) cells slots ∧ T'.heap = h' ∧ Wr h h' a (Jvm.RoadKit.slotOf Z O n d) v ∧ Fld Z h' a O n d v ∧ Old Z n0 h' ∧ Fr n0 (locs ++ [⟨a, Jvm.RoadKit.slotOf Z O n d⟩]) ∧ Kt p e below T' st0 { g with pc := g.pc + 3, stack := rest } := by
  obtain ⟨T', h', X', e', W, st⟩ := putF X hx hZ hown w via eT F E L wi hty hn hf hg hs hd
  exact ⟨T', h', X', e', W, F.same W, O0.wr W ge, Fr.snoc X' N ge, fun t q => k t (st t q)⟩
theorem kputN (X : Stand p l e R s m args below meth c T locs cells slots) (hx : p.tables.exec = Jvm.exec) (hZ : Z.Warmed39 s.vm) {own R0 O n d C : String} {index kk : Nat} (ty : FieldType) (hown : s.vm.findClass own = some m.cls) (w : (Jvm.Cond.fieldLink own index R0 n d).before a0 Z = true) (via : Via Z R0 O n d) (eT : T.heap = h) {a : Addr} {v v' old : Value} (F : Fld Z h a O n d old) (E : Exa Z h a C) (L : (Jvm.Cond.lays C O n d).before a0 Z = true ∨ ((Jvm.Cond.laysFinal C O n d).before a0 Z = true ∧ own = O ∧ meth.name = "<init>")) (wi : (Jvm.Cond.instantiable C kk).before a0 Z = true)
    (k : Kt p e below T st0 g) (hg : g.method = m) {rest : List Value} (hs : g.stack = v :: .ref a :: rest) (hd : decode c.code g.pc = .ok (.putfield index, 3)) (hty : parseFieldDescriptor d = some ty) (hn : narrow ty v = v') (hf : fits ty v' = true) {n0 : Nat} (O0 : Old Z n0 h) (N : Fr n0 locs) (ge : n0 ≤ a) :
    ∃ T' h', Stand p l e R s m args below meth c T' (locs ++ [⟨a, Jvm.RoadKit.slotOf Z O n d⟩]) cells slots ∧ T'.heap = h' ∧ Wr h h' a (Jvm.RoadKit.slotOf Z O n d) v' ∧ Fld Z h' a O n d v' ∧ Old Z n0 h' ∧ Fr n0 (locs ++ [⟨a, Jvm.RoadKit.slotOf Z O n d⟩]) ∧ Kt p e below T' st0 { g with pc := g.pc + 3, stack := rest } := by
  obtain ⟨T', h', X', e', W, st⟩ := putFN X hx hZ hown w via eT F E L wi hty hn hf hg hs hd
  exact ⟨T', h', X', e', W, F.same W, O0.wr W ge, Fr.snoc X' N ge, fun t q => k t (st t q)⟩
theorem kcast (X : Stand p l e R s m args below meth c T locs cells slots) (hx : p.tables.exec = Jvm.exec) (hZ : Z.Warmed39 s.vm) {own K : String} {index : Nat} (hown : s.vm.findClass own = some m.cls) (w : (Jvm.Cond.classLink own index K).before a0 Z = true) (eT : T.heap = h) {a : Addr} (F : Ins Z h a K true) (k : Kt p e below T st0 g) (hg : g.method = m) {rest : List Value} (hs : g.stack = .ref a :: rest) (hd : decode c.code g.pc = .ok (.checkcast index, 3)) :
    ∃ T', Stand p l e R s m args below meth c T' locs cells slots ∧ T'.heap = h ∧ Kt p e below T' st0 { g with pc := g.pc + 3 } := by
  obtain ⟨T', X', e', st⟩ := castY X hx hZ hown w eT F hg hs hd
  exact ⟨T', X', e', fun t q => k t (st t q)⟩
theorem kinst (X : Stand p l e R s m args below meth c T locs cells slots) (hx : p.tables.exec = Jvm.exec) (hZ : Z.Warmed39 s.vm) {own K : String} {index : Nat} (hown : s.vm.findClass own = some m.cls) (w : (Jvm.Cond.classLink own index K).before a0 Z = true) (eT : T.heap = h) {a : Addr} (F : Ins Z h a K true) (k : Kt p e below T st0 g) (hg : g.method = m) {rest : List Value} (hs : g.stack = .ref a :: rest) (hd : decode c.code g.pc = .ok (.instanceof index, 3)) :
    ∃ T', Stand p l e R s m args below meth c T' locs cells slots ∧ T'.heap = h ∧ Kt p e below T' st0 { g with pc := g.pc + 3, stack := .int 1 :: rest } := by
  obtain ⟨T', X', e', st⟩ := instY X hx hZ hown w eT F hg hs hd
  exact ⟨T', X', e', fun t q => k t (st t q)⟩
theorem knew (X : Stand p l e R s m args below meth c T locs cells slots) (hx : p.tables.exec = Jvm.exec) (hZ : Z.Warmed39 s.vm) {own C : String} {index n : Nat} (hown : s.vm.findClass own = some m.cls) (w : (Jvm.Cond.classLink own index C).before a0 Z = true) (wi : (Jvm.Cond.instantiable C n).before a0 Z = true) (wz : (Jvm.Cond.initialized C).before a0 Z = true) (eT : T.heap = h) (k : Kt p e below T st0 g) (hg : g.method = m) (hd : decode c.code g.pc = .ok (.new index, 3)) (hc : cells + 1 ≤ R.cells) (hl : slots + n ≤ R.slots) {n0 : Nat} (O0 : Old Z n0 h) :
    ∃ b T' h', h.size ≤ b ∧ n0 ≤ b ∧ Stand p l e R s m args below meth c T' locs (cells + 1) (slots + n) ∧ T'.heap = h' ∧ Ext h h' ∧ Old Z n0 h' ∧ Exa Z h' b C ∧ (∀ {O nm d : String} {ty : FieldType}, Jvm.RoadKit.Laid Z a0 C O nm d → parseFieldDescriptor d = some ty → Fld Z h' b O nm d (defaultValue ty)) ∧ (∃ cell : Cell, h'[b]? = some cell ∧ cell.vm = .none ∧ cell.monitor = {}) ∧ Kt p e below T' st0 { g with pc := g.pc + 3, stack := .ref b :: g.stack } := by
  obtain ⟨T', h', X', e', E, A, D, U, st⟩ := newO X hx hZ hown w wi wz eT hg hd hc hl
  exact ⟨h.size, T', h', Nat.le_refl _, Nat.le_trans (Nat.le_of_eq O0.1.symm) O0.2.1, X', e', E, O0.ext E, A, D, U, fun t q => k t (st t q)⟩
theorem knewP (X : Stand p l e R s m args below meth c T locs cells slots) (hx : p.tables.exec = Jvm.exec) (hZ : Z.Warmed39 s.vm) {aty : ArrayType} (w : (Jvm.Cond.arrayClass (newarray.typeOf aty)).before a0 Z = true) (eT : T.heap = h) (k : Kt p e below T st0 g) (hg : g.method = m) (hd : decode c.code g.pc = .ok (.newarray aty, 2)) {n : Int32} {rest : List Value} (hs : g.stack = .int n :: rest) (hn : ¬ n < 0) (cap : Nat) (hcap : n.toNatClampNeg ≤ cap) (hb : cap * 8 ≤ 536870912) (hc : cells + 1 ≤ R.cells) (hl : slots + cap ≤ R.slots) {n0 : Nat} (O0 : Old Z n0 h) :
    ∃ b T' h' cA, h.size ≤ b ∧ n0 ≤ b ∧ Stand p l e R s m args below meth c T' locs (cells + 1) (slots + cap) ∧ T'.heap = h' ∧ Ext h h' ∧ Old Z n0 h' ∧ Arv Z h' b cA (newarray.typeOf aty) n [] (defaultValue (newarray.typeOf aty)) ∧ Kt p e below T' st0 { g with pc := g.pc + 2, stack := .ref b :: rest } := by
  obtain ⟨T', h', cA, X', e', E, A, st⟩ := newP X hx hZ w eT hg hd hs hn hcap hb hc hl
  exact ⟨h.size, T', h', cA, Nat.le_refl _, Nat.le_trans (Nat.le_of_eq O0.1.symm) O0.2.1, X', e', E, O0.ext E, Arv.new A hn, fun t q => k t (st t q)⟩
theorem kinit (X : Stand p l e R s m args below meth c T locs cells slots) (hx : p.tables.exec = Jvm.exec) (hZ : Z.Warmed39 s.vm) {own : String} {idx : Nat} (hown : s.vm.findClass own = some m.cls) (w1 : (Jvm.Cond.methodLink own idx Lib.objectInit).before a0 Z = true) (w2 : (Jvm.Cond.instanceMethod Lib.objectInit).before a0 Z = true) (w3 : (Jvm.Cond.code Lib.objectInit ⟨#[0xb1]⟩ 1 none).before a0 Z = true) (eT : T.heap = h) (k : Kt p e below T st0 g) (hg : g.method = m) {M : Nat} (hml : c.maxLocals = M) (hsize : g.locals.size = M) {a : Addr} {rest : List Value} (hs : g.stack = .ref a :: rest) (hd : decode c.code g.pc = .ok (.invokespecial idx, 3)) (W : Nat) (hW : 2 * g.monitorRoom + (rest.map fun v => v.category).sum ≤ W) (hf : 1 ≤ R.frames) (hl : W + 12 ≤ R.locals) :
    ∃ T', Stand p l e R s m args below meth c T' locs cells slots ∧ T'.heap = h ∧ Kt p e below T' st0 { g with pc := g.pc + 3, stack := rest } := by
  obtain ⟨T', X', e', st⟩ := initO X hx hZ hown w1 w2 w3 eT hg (hsize.trans hml.symm) hs hd hf hW hl
  exact ⟨T', X', e', fun t q => k t (st t q)⟩
theorem kstC (X : Stand p l e R s m args below meth c T locs cells slots) (hx : p.tables.exec = Jvm.exec) (hZ : Z.Warmed39 s.vm) (eT : T.heap = h) {a : Addr} {ka : ClassId} {z : Int32} {vs : List Value} {dv : Value} (A : Arv Z h a ka .char z vs dv) {j x : Int32} (q1 : ¬ j < 0) (q2 : j < z) (i : Nat) (hj : j.toNatClampNeg = i) (hi : i < vs.length) (k : Kt p e below T st0 g) (hg : g.method = m) {rest : List Value} (hs : g.stack = .int x :: .int j :: .ref a :: rest) (hd : decode c.code g.pc = .ok (.castore, 1)) {n0 : Nat} (O0 : Old Z n0 h) (N : Fr n0 locs) (ge : n0 ≤ a) :
    ∃ T' h', Stand p l e R s m args below meth c T' (locs ++ [⟨a, j.toNatClampNeg⟩]) cells slots ∧ T'.heap = h' ∧ Wr h h' a j.toNatClampNeg (.int (nar .char x)) ∧ Arv Z h' a ka .char z (vs.set i (.int (nar .char x))) dv ∧ Old Z n0 h' ∧ Fr n0 (locs ++ [⟨a, j.toNatClampNeg⟩]) ∧ Kt p e below T' st0 { g with pc := g.pc + 1, stack := rest } := by
  obtain ⟨cl, Ar, b1, S, M, H, G⟩ := A
  obtain ⟨T', h', X', e', W, st⟩ := stC X hx hZ eT Ar (inb_of S ⟨q1, q2⟩) hg hs hd
  exact ⟨T', h', X', e', W, Arv.set Ar b1 S M H G (fits_nar_char _) W i hj hi, O0.wr W ge, Fr.snoc X' N ge, fun t q => k t (st t q)⟩
theorem kstB (X : Stand p l e R s m args below meth c T locs cells slots) (hx : p.tables.exec = Jvm.exec) (hZ : Z.Warmed39 s.vm) (eT : T.heap = h) {a : Addr} {ka : ClassId} {z : Int32} {vs : List Value} {dv : Value} (A : Arv Z h a ka .byte z vs dv) {j x : Int32} (q1 : ¬ j < 0) (q2 : j < z) (i : Nat) (hj : j.toNatClampNeg = i) (hi : i < vs.length) (k : Kt p e below T st0 g) (hg : g.method = m) {rest : List Value} (hs : g.stack = .int x :: .int j :: .ref a :: rest) (hd : decode c.code g.pc = .ok (.bastore, 1)) {n0 : Nat} (O0 : Old Z n0 h) (N : Fr n0 locs) (ge : n0 ≤ a) :
    ∃ T' h', Stand p l e R s m args below meth c T' (locs ++ [⟨a, j.toNatClampNeg⟩]) cells slots ∧ T'.heap = h' ∧ Wr h h' a j.toNatClampNeg (.int (nar .byte x)) ∧ Arv Z h' a ka .byte z (vs.set i (.int (nar .byte x))) dv ∧ Old Z n0 h' ∧ Fr n0 (locs ++ [⟨a, j.toNatClampNeg⟩]) ∧ Kt p e below T' st0 { g with pc := g.pc + 1, stack := rest } := by
  obtain ⟨cl, Ar, b1, S, M, H, G⟩ := A
  obtain ⟨T', h', X', e', W, st⟩ := stB X hx hZ eT Ar (inb_of S ⟨q1, q2⟩) hg hs hd
  exact ⟨T', h', X', e', W, Arv.set Ar b1 S M H G (fits_nar_byte _) W i hj hi, O0.wr W ge, Fr.snoc X' N ge, fun t q => k t (st t q)⟩
theorem kstI (X : Stand p l e R s m args below meth c T locs cells slots) (hx : p.tables.exec = Jvm.exec) (hZ : Z.Warmed39 s.vm) (eT : T.heap = h) {a : Addr} {ka : ClassId} {z : Int32} {vs : List Value} {dv : Value} (A : Arv Z h a ka .int z vs dv) {j x : Int32} (q1 : ¬ j < 0) (q2 : j < z) (i : Nat) (hj : j.toNatClampNeg = i) (hi : i < vs.length) (k : Kt p e below T st0 g) (hg : g.method = m) {rest : List Value} (hs : g.stack = .int x :: .int j :: .ref a :: rest) (hd : decode c.code g.pc = .ok (.iastore, 1)) {n0 : Nat} (O0 : Old Z n0 h) (N : Fr n0 locs) (ge : n0 ≤ a) :
    ∃ T' h', Stand p l e R s m args below meth c T' (locs ++ [⟨a, j.toNatClampNeg⟩]) cells slots ∧ T'.heap = h' ∧ Wr h h' a j.toNatClampNeg (.int x) ∧ Arv Z h' a ka .int z (vs.set i (.int x)) dv ∧ Old Z n0 h' ∧ Fr n0 (locs ++ [⟨a, j.toNatClampNeg⟩]) ∧ Kt p e below T' st0 { g with pc := g.pc + 1, stack := rest } := by
  obtain ⟨cl, Ar, b1, S, M, H, G⟩ := A
  obtain ⟨T', h', X', e', W, st⟩ := stI X hx hZ eT Ar (inb_of S ⟨q1, q2⟩) hg hs hd
  exact ⟨T', h', X', e', W, Arv.set Ar b1 S M H G rfl W i hj hi, O0.wr W ge, Fr.snoc X' N ge, fun t q => k t (st t q)⟩
theorem ldC {t : State} (X : Stand p l e R s m args below meth c T locs cells slots) (hx : p.tables.exec = Jvm.exec) (hZ : Z.Warmed39 s.vm) (eT : T.heap = h) {a : Addr} {ka : ClassId} {z : Int32} {vs : List Value} {dv v : Value} (A : Arv Z h a ka .char z vs dv) {j : Int32} (q1 : ¬ j < 0) (q2 : j < z) (hv : vs.getD j.toNatClampNeg dv = v) (hg : g.method = m) {rest : List Value} (hs : g.stack = .int j :: .ref a :: rest) (hd : decode c.code g.pc = .ok (.caload, 1)) (q : Steps p.tables e below (T.setTop { g with pc := g.pc + 1, stack := v :: rest }) t) : Steps p.tables e below (T.setTop g) t := by
  obtain ⟨cl, Ar, b1, S, M, H, G⟩ := A
  exact X.caload hx (by rw [eT]; exact Ar.1) (State.isArrayOf_alike hZ.alike Ar.2.1) Ar.2.2 (inb_of S ⟨q1, q2⟩) (Has.at H (inb_of S ⟨q1, q2⟩) hv) hg hs hd _ q
theorem ldB {t : State} (X : Stand p l e R s m args below meth c T locs cells slots) (hx : p.tables.exec = Jvm.exec) (hZ : Z.Warmed39 s.vm) (eT : T.heap = h) {a : Addr} {ka : ClassId} {z : Int32} {vs : List Value} {dv v : Value} (A : Arv Z h a ka .byte z vs dv) {j : Int32} (q1 : ¬ j < 0) (q2 : j < z) (hv : vs.getD j.toNatClampNeg dv = v) (hg : g.method = m) {rest : List Value} (hs : g.stack = .int j :: .ref a :: rest) (hd : decode c.code g.pc = .ok (.baload, 1)) (q : Steps p.tables e below (T.setTop { g with pc := g.pc + 1, stack := v :: rest }) t) : Steps p.tables e below (T.setTop g) t := by
  obtain ⟨cl, Ar, b1, S, M, H, G⟩ := A
  exact X.baloadBytes hx (by rw [eT]; exact Ar.1) (State.isArrayOf_alike hZ.alike Ar.2.1) Ar.2.2 (inb_of S ⟨q1, q2⟩) (Has.at H (inb_of S ⟨q1, q2⟩) hv) hg hs hd _ q
theorem ldI {t : State} (X : Stand p l e R s m args below meth c T locs cells slots) (hx : p.tables.exec = Jvm.exec) (hZ : Z.Warmed39 s.vm) (eT : T.heap = h) {a : Addr} {ka : ClassId} {z : Int32} {vs : List Value} {dv v : Value} (A : Arv Z h a ka .int z vs dv) {j : Int32} (q1 : ¬ j < 0) (q2 : j < z) (hv : vs.getD j.toNatClampNeg dv = v) (hg : g.method = m) {rest : List Value} (hs : g.stack = .int j :: .ref a :: rest) (hd : decode c.code g.pc = .ok (.iaload, 1)) (q : Steps p.tables e below (T.setTop { g with pc := g.pc + 1, stack := v :: rest }) t) : Steps p.tables e below (T.setTop g) t := by
  obtain ⟨cl, Ar, b1, S, M, H, G⟩ := A
  exact X.iaload hx (by rw [eT]; exact Ar.1) (State.isArrayOf_alike hZ.alike Ar.2.1) Ar.2.2 (inb_of S ⟨q1, q2⟩) (Has.at H (inb_of S ⟨q1, q2⟩) hv) hg hs hd _ q
theorem ldA {t : State} (X : Stand p l e R s m args below meth c T locs cells slots) (hx : p.tables.exec = Jvm.exec) (hZ : Z.Warmed39 s.vm) (eT : T.heap = h) {a : Addr} {ka : ClassId} {C : String} {z : Int32} {vs : List Value} {dv v : Value} (A : Arv Z h a ka (.object C) z vs dv) {j : Int32} (q1 : ¬ j < 0) (q2 : j < z) (hv : vs.getD j.toNatClampNeg dv = v) (hg : g.method = m) {rest : List Value} (hs : g.stack = .int j :: .ref a :: rest) (hd : decode c.code g.pc = .ok (.aaload, 1)) (q : Steps p.tables e below (T.setTop { g with pc := g.pc + 1, stack := v :: rest }) t) : Steps p.tables e below (T.setTop g) t := by
  obtain ⟨cl, Ar, b1, S, M, H, G⟩ := A
  exact X.aaload hx (by rw [eT]; exact Ar.1) (State.isArrayOf_alike hZ.alike Ar.2.1) rfl Ar.2.2 (inb_of S ⟨q1, q2⟩) (Has.at H (inb_of S ⟨q1, q2⟩) hv) hg hs hd _ q
theorem ldLen {t : State} (X : Stand p l e R s m args below meth c T locs cells slots) (hx : p.tables.exec = Jvm.exec) (hZ : Z.Warmed39 s.vm) (eT : T.heap = h) {a : Addr} {ka : ClassId} {ty : FieldType} {z : Int32} {vs : List Value} {dv : Value} (A : Arv Z h a ka ty z vs dv) (hg : g.method = m) {rest : List Value} (hs : g.stack = .ref a :: rest) (hd : decode c.code g.pc = .ok (.arraylength, 1)) (q : Steps p.tables e below (T.setTop { g with pc := g.pc + 1, stack := .int z :: rest }) t) : Steps p.tables e below (T.setTop g) t := by
  obtain ⟨cl, Ar, b1, S, M, H, G⟩ := A
  refine X.arraylength hx (by rw [eT]; exact Ar.1) (State.isArrayOf_alike hZ.alike Ar.2.1) hg hs hd _ ?_
  rw [len_of S M]; exact q
variable {y z : MethodName} {bytes : ByteArray} {ml : Nat} {rt : Option FieldType} {rm : Room} {as' : Array Value} {Q : Option Value → Heap → List Loc → Prop}
theorem kstat (X : Stand p l e R s m args below meth c T locs cells slots) (hx : p.tables.exec = Jvm.exec) (hZ : Z.Warmed39 s.vm) {own : String} {index : Nat} (hown : s.vm.findClass own = some m.cls) (w1 : (Jvm.Cond.methodLink own index y).before a0 Z = true) (w2 : (Jvm.Cond.static y).before a0 Z = true) (w3 : (Jvm.Cond.initialized y.cls).before a0 Z = true) (w4 : (Jvm.Cond.code y bytes ml rt).before a0 Z = true) (hM : MFP l Z y bytes ml rt rm [] as' h Q) (eT : T.heap = h) (k : Kt p e below T st0 g) {M : Nat} (hml : c.maxLocals = M) {ps : List FieldType} {r : Option FieldType} (pd : parseMethodDescriptor y.desc = some ⟨ps, r⟩) (argsL rest : List Value) (W : Nat) (hd : decode c.code g.pc = .ok (.invokestatic index, 3))
    (hg : g.method = m) (hsize : g.locals.size = M) (hln : argsL.length = ps.length) (hst : g.stack = argsL.reverse ++ rest) (ha : argsL.toArray = as') (hW : 2 * g.monitorRoom + (rest.map fun v => v.category).sum = W) (hy : y.cls ≠ "java/lang/invoke/MethodHandle" ∧ y.cls ≠ "java/lang/invoke/VarHandle" := by decide) (hf : rm.frames + 1 ≤ R.frames := by decide) (hl : W + (ml + 11) + rm.locals ≤ R.locals := by decide) (hc : cells + rm.cells ≤ R.cells := by decide) (hs : slots + rm.slots ≤ R.slots := by decide) :
    ∃ v T' L', Stand p l e R s m args below meth c T' (locs ++ L') (cells + rm.cells) (slots + rm.slots) ∧ Q v T'.heap L' ∧ Kt p e below T' st0 { g with pc := g.pc + 3, stack := v.toList ++ rest } := by
  obtain ⟨v, _, ⟨T', L, k', n'⟩, -, X', ⟨Lc, hQ, e1, e2, e3⟩, st⟩ := Jvm.LawKit.callS X hx hown (mvT hZ w1) (mvT hZ w2) (mvT hZ w3) (mvT hZ w4) hy (backOf (W := W) hM hZ w4 w3 hf hl) hg (hsize.trans hml.symm) (argsL := argsL) (rest := rest) (lenOf pd hln) hst (Nat.le_of_eq hW) hd (fun _ _ => ⟨ha, eT, hc, hs⟩)
  dsimp only [Pt.U, Pt.locs, Pt.cells, Pt.slots] at X' e1 e2 e3 st hQ
  subst e1 e2 e3
  exact ⟨v, T', Lc, X', hQ, fun t q => k t (st t q)⟩
theorem kspec (X : Stand p l e R s m args below meth c T locs cells slots) (hx : p.tables.exec = Jvm.exec) (hZ : Z.Warmed39 s.vm) {own : String} {index : Nat} (hown : s.vm.findClass own = some m.cls) (w1 : (Jvm.Cond.methodLink own index y).before a0 Z = true) (w2 : (Jvm.Cond.instanceMethod y).before a0 Z = true) (w3 : (Jvm.Cond.initialized y.cls).before a0 Z = true) (w4 : (Jvm.Cond.code y bytes ml none).before a0 Z = true) (hM : MFP l Z y bytes ml none rm [] as' h Q) (eT : T.heap = h) (k : Kt p e below T st0 g) {M : Nat} (hml : c.maxLocals = M) {ps : List FieldType} {r : Option FieldType} (pd : parseMethodDescriptor y.desc = some ⟨ps, r⟩) (a : Addr) (argsL rest : List Value) (W : Nat) (hd : decode c.code g.pc = .ok (.invokespecial index, 3))
    (hg : g.method = m) (hsize : g.locals.size = M) (hln : argsL.length = ps.length) (hst : g.stack = argsL.reverse ++ .ref a :: rest) (ha : (Value.ref a :: argsL).toArray = as') (hW : 2 * g.monitorRoom + (rest.map fun v => v.category).sum = W) (hy1 : y.name = "<init>" := by rfl) (hy : y.cls ≠ "java/lang/invoke/MethodHandle" ∧ y.cls ≠ "java/lang/invoke/VarHandle" := by decide) (hf : rm.frames + 1 ≤ R.frames := by decide) (hl : W + (ml + 11) + rm.locals ≤ R.locals := by decide) (hc : cells + rm.cells ≤ R.cells := by decide) (hs : slots + rm.slots ≤ R.slots := by decide) :
    ∃ v T' L', Stand p l e R s m args below meth c T' (locs ++ L') (cells + rm.cells) (slots + rm.slots) ∧ Q v T'.heap L' ∧ Kt p e below T' st0 { g with pc := g.pc + 3, stack := v.toList ++ rest } := by
  obtain ⟨v, _, ⟨T', L, k', n'⟩, -, X', ⟨Lc, hQ, e1, e2, e3⟩, st⟩ := X.specialBack hx hy1 hown (mvT hZ w1) (mvT hZ w2) (mvT hZ w4) hy (backOf (W := W) hM hZ w4 w3 hf hl) hg (hsize.trans hml.symm) (Steps.refl _) (a := a) (argsL := argsL) (rest := rest) (lenOf pd hln) hst (Nat.le_of_eq hW) hd (fun _ _ => ⟨ha, eT, hc, hs⟩)
  dsimp only [Pt.U, Pt.locs, Pt.cells, Pt.slots] at X' e1 e2 e3 st hQ
  subst e1 e2 e3
  exact ⟨v, T', Lc, X', hQ, fun t q => k t (st.trans q)⟩
theorem kvirt (X : Stand p l e R s m args below meth c T locs cells slots) (hx : p.tables.exec = Jvm.exec) (hZ : Z.Warmed39 s.vm) {own C : String} {index : Nat} (hown : s.vm.findClass own = some m.cls) (w1 : (Jvm.Cond.methodLink own index y).before a0 Z = true) (w2 : (Jvm.Cond.declares y).before a0 Z = true) (w3 : (Jvm.Cond.selects C y y).before a0 Z = true) (w4 : (Jvm.Cond.instanceMethod y).before a0 Z = true) (w5 : (Jvm.Cond.code y bytes ml rt).before a0 Z = true) (w6 : (Jvm.Cond.initialized y.cls).before a0 Z = true) (hM : MFP l Z y bytes ml rt rm [] as' h Q) (eT : T.heap = h) {b : Addr} (E : Exa Z h b C) (k : Kt p e below T st0 g) {M : Nat} (hml : c.maxLocals = M) {ps : List FieldType} {r : Option FieldType} (pd : parseMethodDescriptor y.desc = some ⟨ps, r⟩) (argsL rest : List Value) (W : Nat) (hd : decode c.code g.pc = .ok (.invokevirtual index, 3))
    (hg : g.method = m) (hsize : g.locals.size = M) (hln : argsL.length = ps.length) (hst : g.stack = argsL.reverse ++ .ref b :: rest) (ha : (Value.ref b :: argsL).toArray = as') (hW : 2 * g.monitorRoom + (rest.map fun v => v.category).sum = W) (hy : y.cls ≠ "java/lang/invoke/MethodHandle" ∧ y.cls ≠ "java/lang/invoke/VarHandle" := by decide) (hf : rm.frames + 1 ≤ R.frames := by decide) (hl : W + (ml + 11) + rm.locals ≤ R.locals := by decide) (hc : cells + rm.cells ≤ R.cells := by decide) (hs : slots + rm.slots ≤ R.slots := by decide) :
    ∃ v T' L', Stand p l e R s m args below meth c T' (locs ++ L') (cells + rm.cells) (slots + rm.slots) ∧ Q v T'.heap L' ∧ Kt p e below T' st0 { g with pc := g.pc + 3, stack := v.toList ++ rest } := by
  obtain ⟨cB, kB, qa, qb, qc⟩ := isOf hZ eT E
  obtain ⟨v, _, ⟨T', L, k', n'⟩, -, X', ⟨Lc, hQ, e1, e2, e3⟩, st⟩ := X.virtualBack hx (y := y) (z := y) hown (mvT hZ w1) (mvT hZ w2) (notFace_of_selects (args := #[]) (mvT hZ w3)) (mvT hZ w3) (mvT hZ w4) hy (backOf (W := W) hM hZ w5 w6 hf hl) qa qc hg (hsize.trans hml.symm) (Steps.refl _) (argsL := argsL) (rest := rest) (lenOf pd hln) hst (Nat.le_of_eq hW) hd (fun _ _ => ⟨ha, eT, hc, hs⟩)
  dsimp only [Pt.U, Pt.locs, Pt.cells, Pt.slots] at X' e1 e2 e3 st hQ
  subst e1 e2 e3
  exact ⟨v, T', Lc, X', hQ, fun t q => k t (st.trans q)⟩
theorem kface (X : Stand p l e R s m args below meth c T locs cells slots) (hx : p.tables.exec = Jvm.exec) (hZ : Z.Warmed39 s.vm) {own C : String} {index count : Nat} (hown : s.vm.findClass own = some m.cls) (w1 : (Jvm.Cond.methodLink own index y).before a0 Z = true) (w2 : (Jvm.Cond.declares y).before a0 Z = true) (w3 : (Jvm.Cond.interfaceMethod y.cls y.cls y.name y.desc).before a0 Z = true) (w4 : (Jvm.Cond.selects C y z).before a0 Z = true) (w5 : (Jvm.Cond.instanceMethod z).before a0 Z = true) (w6 : (Jvm.Cond.publicMethod z).before a0 Z = true) (w7 : (Jvm.Cond.unhidden C y.name y.desc).before a0 Z = true) (w8 : (Jvm.Cond.castable C y.cls).before a0 Z = true) (w9 : (Jvm.Cond.code z bytes ml rt).before a0 Z = true) (w10 : (Jvm.Cond.initialized z.cls).before a0 Z = true) (hM : MFP l Z z bytes ml rt rm [] as' h Q) (eT : T.heap = h) {b : Addr} (E : Exa Z h b C) (k : Kt p e below T st0 g) {M : Nat} (hml : c.maxLocals = M) {ps : List FieldType} {r : Option FieldType} (pd : parseMethodDescriptor y.desc = some ⟨ps, r⟩) (argsL rest : List Value) (W : Nat) (hd : decode c.code g.pc = .ok (.invokeinterface index count, 5))
    (hg : g.method = m) (hsize : g.locals.size = M) (hln : argsL.length = ps.length) (hst : g.stack = argsL.reverse ++ .ref b :: rest) (ha : (Value.ref b :: argsL).toArray = as') (hW : 2 * g.monitorRoom + (rest.map fun v => v.category).sum = W) (hy : y.cls ≠ "java/lang/invoke/MethodHandle" ∧ y.cls ≠ "java/lang/invoke/VarHandle" := by decide) (hf : rm.frames + 1 ≤ R.frames := by decide) (hl : W + (ml + 11) + rm.locals ≤ R.locals := by decide) (hc : cells + rm.cells ≤ R.cells := by decide) (hs : slots + rm.slots ≤ R.slots := by decide) :
    ∃ v T' L', Stand p l e R s m args below meth c T' (locs ++ L') (cells + rm.cells) (slots + rm.slots) ∧ Q v T'.heap L' ∧ Kt p e below T' st0 { g with pc := g.pc + 5, stack := v.toList ++ rest } := by
  obtain ⟨cB, kB, qa, qb, qc⟩ := isOf hZ eT E
  obtain ⟨v, _, ⟨T', L, k', n'⟩, -, X', ⟨Lc, hQ, e1, e2, e3⟩, st⟩ := X.interfaceBack hx (xi := y) (y := z) hown (mvT hZ w1) (mvT hZ w2) (mvT hZ w3 (by simp [Jvm.Cond.onTables, Jvm.Cond.keepsFace, Jvm.Cond.keeps, Jvm.Cond.steady, Jvm.Cond.faceAtom, hy.1, hy.2])) (mvT hZ w4) (mvT hZ w5) (mvT hZ w6) (mvT hZ w7) (mvT hZ w8) hy (backOf (W := W) hM hZ w9 w10 hf hl) qa qb qc hg (hsize.trans hml.symm) (Steps.refl _) (argsL := argsL) (rest := rest) (lenOf pd hln) hst (Nat.le_of_eq hW) hd (fun _ _ => ⟨ha, eT, hc, hs⟩)
  dsimp only [Pt.U, Pt.locs, Pt.cells, Pt.slots] at X' e1 e2 e3 st hQ
  subst e1 e2 e3
  exact ⟨v, T', Lc, X', hQ, fun t q => k t (st.trans q)⟩
end KL
abbrev vi (x : Int32) : Slot := .val (.int x)
abbrev vr (a : Addr) : Slot := .val (.ref a)
abbrev vj (x : Int64) : Slot := .val (.long x)
abbrev ii (x : Int32) : Value := .int x
abbrev rr (a : Addr) : Value := .ref a
abbrev u_ : Slot := .unset
abbrev S_ (p : Program) (e : Env) (below : List Frame) (T : State) (m : MethodId) (pc : Nat) (L : Array Slot) (S : List Value) (t : State) : Prop := Steps p.tables e below (T.setTop (mkF m pc L S)) t
abbrev nm0 : String := "java/lang/String"
abbrev nm1 : String := "gleaner/LastMatch"
abbrev nm2 : String := "gleaner/Match"
abbrev nm3 : String := "Ljava/lang/String;"
abbrev nm4 : String := "jdk/internal/util/Preconditions"
abbrev nm5 : String := "gleaner/LastMatchTokenPinLaw"
abbrev nm6 : String := "java/lang/StringUTF16"
abbrev nm10 : String := "Lgleaner/Match;"
abbrev nm11 : String := "Ljava/util/function/BiFunction;"
abbrev nm13 : String := "(Ljava/lang/String;J)Lgleaner/Match;"
abbrev HW (Z : State) (a0 : Array Value) : Prop := ∀ d ∈ tables_1, d.before a0 Z = true
theorem w0 {Z a0} (hw : HW Z a0) : (Jvm.Cond.arrayClass Jvm.ClassFile.FieldType.char).before a0 Z = true := hw _ (List.mem_of_getElem? (i := 0) rfl)
theorem w1 {Z a0} (hw : HW Z a0) : (Jvm.Cond.classLink nm5 (7 : Nat) nm0).before a0 Z = true := hw _ (List.mem_of_getElem? (i := 1) rfl)
theorem w2 {Z a0} (hw : HW Z a0) : (Jvm.Cond.instantiable nm0 (4 : Nat)).before a0 Z = true := hw _ (List.mem_of_getElem? (i := 2) rfl)
theorem w3 {Z a0} (hw : HW Z a0) : (Jvm.Cond.initialized nm0).before a0 Z = true := hw _ (List.mem_of_getElem? (i := 3) rfl)
theorem w4 {Z a0} (hw : HW Z a0) : (Jvm.Cond.methodLink nm5 (9 : Nat) ({ cls := nm0, name := "<init>", desc := "([C)V" } : Jvm.MethodName)).before a0 Z = true := hw _ (List.mem_of_getElem? (i := 4) rfl)
theorem w5 {Z a0} (hw : HW Z a0) : (Jvm.Cond.instanceMethod ({ cls := nm0, name := "<init>", desc := "([C)V" } : Jvm.MethodName)).before a0 Z = true := hw _ (List.mem_of_getElem? (i := 5) rfl)
theorem w6 {Z a0} (hw : HW Z a0) : (Jvm.Cond.code ({ cls := nm0, name := "<init>", desc := "([C)V" } : Jvm.MethodName) jdk_42_method_3_code (2 : Nat) (Option.none : Option Jvm.ClassFile.FieldType)).before a0 Z = true := hw _ (List.mem_of_getElem? (i := 6) rfl)
theorem w7 {Z a0} (hw : HW Z a0) : (Jvm.Cond.methodLink nm0 (27 : Nat) ({ cls := nm0, name := "<init>", desc := "([CIILjava/lang/Void;)V" } : Jvm.MethodName)).before a0 Z = true := hw _ (List.mem_of_getElem? (i := 7) rfl)
theorem w8 {Z a0} (hw : HW Z a0) : (Jvm.Cond.instanceMethod ({ cls := nm0, name := "<init>", desc := "([CIILjava/lang/Void;)V" } : Jvm.MethodName)).before a0 Z = true := hw _ (List.mem_of_getElem? (i := 8) rfl)
theorem w10 {Z a0} (hw : HW Z a0) : (Jvm.Cond.code ({ cls := nm0, name := "<init>", desc := "([CIILjava/lang/Void;)V" } : Jvm.MethodName) jdk_42_method_149_code (6 : Nat) (Option.none : Option Jvm.ClassFile.FieldType)).before a0 Z = true := hw _ (List.mem_of_getElem? (i := 10) rfl)
theorem w11 {Z a0} (hw : HW Z a0) : (Jvm.Cond.methodLink nm0 (1 : Nat) ({ cls := "java/lang/Object", name := "<init>", desc := "()V" } : Jvm.MethodName)).before a0 Z = true := hw _ (List.mem_of_getElem? (i := 11) rfl)
theorem w12 {Z a0} (hw : HW Z a0) : (Jvm.Cond.instanceMethod ({ cls := "java/lang/Object", name := "<init>", desc := "()V" } : Jvm.MethodName)).before a0 Z = true := hw _ (List.mem_of_getElem? (i := 12) rfl)
theorem w13 {Z a0} (hw : HW Z a0) : (Jvm.Cond.code ({ cls := "java/lang/Object", name := "<init>", desc := "()V" } : Jvm.MethodName) object_method_1_code (1 : Nat) (Option.none : Option Jvm.ClassFile.FieldType)).before a0 Z = true := hw _ (List.mem_of_getElem? (i := 13) rfl)
theorem w14 {Z a0} (hw : HW Z a0) : (Jvm.Cond.stringLink nm0 (7 : Nat) "").before a0 Z = true := hw _ (List.mem_of_getElem? (i := 14) rfl)
theorem w15 {Z a0} (hw : HW Z a0) : (Jvm.Cond.arrayClass Jvm.ClassFile.FieldType.byte).before a0 Z = true := hw _ (List.mem_of_getElem? (i := 15) rfl)
theorem w16 {Z a0} (hw : HW Z a0) : (Jvm.Cond.laysFinal nm0 nm0 "value" "[B").before a0 Z = true := hw _ (List.mem_of_getElem? (i := 16) rfl)
theorem w17 {Z a0} (hw : HW Z a0) : (Jvm.Cond.laysFinal nm0 nm0 "coder" "B").before a0 Z = true := hw _ (List.mem_of_getElem? (i := 17) rfl)
theorem w20 {Z a0} (hw : HW Z a0) : (Jvm.Cond.fieldLink nm0 (9 : Nat) nm0 "value" "[B").before a0 Z = true := hw _ (List.mem_of_getElem? (i := 20) rfl)
theorem w21 {Z a0} (hw : HW Z a0) : (Jvm.Cond.fieldLink nm0 (15 : Nat) nm0 "coder" "B").before a0 Z = true := hw _ (List.mem_of_getElem? (i := 21) rfl)
theorem w22 {Z a0} (hw : HW Z a0) : (Jvm.Cond.constant nm5 (12 : Nat) (2147483647 : Int32)).before a0 Z = true := hw _ (List.mem_of_getElem? (i := 22) rfl)
theorem w23 {Z a0} (hw : HW Z a0) : (Jvm.Cond.classLink nm5 (13 : Nat) nm1).before a0 Z = true := hw _ (List.mem_of_getElem? (i := 23) rfl)
theorem w24 {Z a0} (hw : HW Z a0) : (Jvm.Cond.instantiable nm1 (8 : Nat)).before a0 Z = true := hw _ (List.mem_of_getElem? (i := 24) rfl)
theorem w25 {Z a0} (hw : HW Z a0) : (Jvm.Cond.initialized nm1).before a0 Z = true := hw _ (List.mem_of_getElem? (i := 25) rfl)
theorem w26 {Z a0} (hw : HW Z a0) : (Jvm.Cond.methodLink nm5 (15 : Nat) ({ cls := nm1, name := "<init>", desc := "()V" } : Jvm.MethodName)).before a0 Z = true := hw _ (List.mem_of_getElem? (i := 26) rfl)
theorem w27 {Z a0} (hw : HW Z a0) : (Jvm.Cond.instanceMethod ({ cls := nm1, name := "<init>", desc := "()V" } : Jvm.MethodName)).before a0 Z = true := hw _ (List.mem_of_getElem? (i := 27) rfl)
theorem w28 {Z a0} (hw : HW Z a0) : (Jvm.Cond.code ({ cls := nm1, name := "<init>", desc := "()V" } : Jvm.MethodName) prog_15_method_1_code (1 : Nat) (Option.none : Option Jvm.ClassFile.FieldType)).before a0 Z = true := hw _ (List.mem_of_getElem? (i := 28) rfl)
theorem w29 {Z a0} (hw : HW Z a0) : (Jvm.Cond.methodLink nm1 (1 : Nat) ({ cls := "java/lang/Object", name := "<init>", desc := "()V" } : Jvm.MethodName)).before a0 Z = true := hw _ (List.mem_of_getElem? (i := 29) rfl)
theorem w30 {Z a0} (hw : HW Z a0) : (Jvm.Cond.fieldLink nm1 (7 : Nat) nm1 "copiedLength" "I").before a0 Z = true := hw _ (List.mem_of_getElem? (i := 30) rfl)
theorem w31 {Z a0} (hw : HW Z a0) : (Jvm.Cond.lays nm1 nm1 "copiedLength" "I").before a0 Z = true := hw _ (List.mem_of_getElem? (i := 31) rfl)
theorem w32 {Z a0} (hw : HW Z a0) : (Jvm.Cond.methodLink nm5 (16 : Nat) ({ cls := nm0, name := "valueOf", desc := "(C)Ljava/lang/String;" } : Jvm.MethodName)).before a0 Z = true := hw _ (List.mem_of_getElem? (i := 32) rfl)
theorem w33 {Z a0} (hw : HW Z a0) : (Jvm.Cond.static ({ cls := nm0, name := "valueOf", desc := "(C)Ljava/lang/String;" } : Jvm.MethodName)).before a0 Z = true := hw _ (List.mem_of_getElem? (i := 33) rfl)
theorem w34 {Z a0} (hw : HW Z a0) : (Jvm.Cond.code ({ cls := nm0, name := "valueOf", desc := "(C)Ljava/lang/String;" } : Jvm.MethodName) jdk_42_method_139_code (1 : Nat) (Option.some (Jvm.ClassFile.FieldType.object nm0))).before a0 Z = true := hw _ (List.mem_of_getElem? (i := 34) rfl)
theorem w35 {Z a0} (hw : HW Z a0) : (Jvm.Cond.fieldLink nm0 (38 : Nat) nm0 "COMPACT_STRINGS" "Z").before a0 Z = true := hw _ (List.mem_of_getElem? (i := 35) rfl)
theorem w36 {Z a0} (hw : HW Z a0) : (Jvm.Cond.methodLink nm0 (1015 : Nat) ({ cls := "java/lang/StringLatin1", name := "canEncode", desc := "(C)Z" } : Jvm.MethodName)).before a0 Z = true := hw _ (List.mem_of_getElem? (i := 36) rfl)
theorem w37 {Z a0} (hw : HW Z a0) : (Jvm.Cond.static ({ cls := "java/lang/StringLatin1", name := "canEncode", desc := "(C)Z" } : Jvm.MethodName)).before a0 Z = true := hw _ (List.mem_of_getElem? (i := 37) rfl)
theorem w38 {Z a0} (hw : HW Z a0) : (Jvm.Cond.initialized "java/lang/StringLatin1").before a0 Z = true := hw _ (List.mem_of_getElem? (i := 38) rfl)
theorem w39 {Z a0} (hw : HW Z a0) : (Jvm.Cond.code ({ cls := "java/lang/StringLatin1", name := "canEncode", desc := "(C)Z" } : Jvm.MethodName) jdk_43_method_3_code (1 : Nat) (Option.some Jvm.ClassFile.FieldType.boolean)).before a0 Z = true := hw _ (List.mem_of_getElem? (i := 39) rfl)
theorem w40 {Z a0} (hw : HW Z a0) : (Jvm.Cond.classLink nm0 (10 : Nat) nm0).before a0 Z = true := hw _ (List.mem_of_getElem? (i := 40) rfl)
theorem w41 {Z a0} (hw : HW Z a0) : (Jvm.Cond.methodLink nm0 (1018 : Nat) ({ cls := "java/lang/StringLatin1", name := "toBytes", desc := "(C)[B" } : Jvm.MethodName)).before a0 Z = true := hw _ (List.mem_of_getElem? (i := 41) rfl)
theorem w42 {Z a0} (hw : HW Z a0) : (Jvm.Cond.static ({ cls := "java/lang/StringLatin1", name := "toBytes", desc := "(C)[B" } : Jvm.MethodName)).before a0 Z = true := hw _ (List.mem_of_getElem? (i := 42) rfl)
theorem w43 {Z a0} (hw : HW Z a0) : (Jvm.Cond.code ({ cls := "java/lang/StringLatin1", name := "toBytes", desc := "(C)[B" } : Jvm.MethodName) jdk_43_method_46_code (1 : Nat) (Option.some (Jvm.ClassFile.FieldType.array Jvm.ClassFile.FieldType.byte))).before a0 Z = true := hw _ (List.mem_of_getElem? (i := 43) rfl)
theorem w44 {Z a0} (hw : HW Z a0) : (Jvm.Cond.methodLink nm0 (209 : Nat) ({ cls := nm0, name := "<init>", desc := "([BB)V" } : Jvm.MethodName)).before a0 Z = true := hw _ (List.mem_of_getElem? (i := 44) rfl)
theorem w45 {Z a0} (hw : HW Z a0) : (Jvm.Cond.instanceMethod ({ cls := nm0, name := "<init>", desc := "([BB)V" } : Jvm.MethodName)).before a0 Z = true := hw _ (List.mem_of_getElem? (i := 45) rfl)
theorem w46 {Z a0} (hw : HW Z a0) : (Jvm.Cond.code ({ cls := nm0, name := "<init>", desc := "([BB)V" } : Jvm.MethodName) jdk_42_method_151_code (3 : Nat) (Option.none : Option Jvm.ClassFile.FieldType)).before a0 Z = true := hw _ (List.mem_of_getElem? (i := 46) rfl)
theorem w47 {Z a0} (hw : HW Z a0) : (Jvm.Cond.methodLink nm5 (20 : Nat) ({ cls := nm2, name := "of", desc := nm13 } : Jvm.MethodName)).before a0 Z = true := hw _ (List.mem_of_getElem? (i := 47) rfl)
theorem w48 {Z a0} (hw : HW Z a0) : (Jvm.Cond.static ({ cls := nm2, name := "of", desc := nm13 } : Jvm.MethodName)).before a0 Z = true := hw _ (List.mem_of_getElem? (i := 48) rfl)
theorem w49 {Z a0} (hw : HW Z a0) : (Jvm.Cond.initialized nm2).before a0 Z = true := hw _ (List.mem_of_getElem? (i := 49) rfl)
theorem w50 {Z a0} (hw : HW Z a0) : (Jvm.Cond.code ({ cls := nm2, name := "of", desc := nm13 } : Jvm.MethodName) prog_18_method_2_code (3 : Nat) (Option.some (Jvm.ClassFile.FieldType.object nm2))).before a0 Z = true := hw _ (List.mem_of_getElem? (i := 50) rfl)
theorem w51 {Z a0} (hw : HW Z a0) : (Jvm.Cond.classLink nm2 (8 : Nat) nm2).before a0 Z = true := hw _ (List.mem_of_getElem? (i := 51) rfl)
theorem w52 {Z a0} (hw : HW Z a0) : (Jvm.Cond.instantiable nm2 (3 : Nat)).before a0 Z = true := hw _ (List.mem_of_getElem? (i := 52) rfl)
theorem w53 {Z a0} (hw : HW Z a0) : (Jvm.Cond.arrayClass Jvm.ClassFile.FieldType.int).before a0 Z = true := hw _ (List.mem_of_getElem? (i := 53) rfl)
theorem w54 {Z a0} (hw : HW Z a0) : (Jvm.Cond.methodLink nm2 (21 : Nat) ({ cls := nm0, name := "length", desc := "()I" } : Jvm.MethodName)).before a0 Z = true := hw _ (List.mem_of_getElem? (i := 54) rfl)
theorem w55 {Z a0} (hw : HW Z a0) : (Jvm.Cond.declares ({ cls := nm0, name := "length", desc := "()I" } : Jvm.MethodName)).before a0 Z = true := hw _ (List.mem_of_getElem? (i := 55) rfl)
theorem w56 {Z a0} (hw : HW Z a0) : (Jvm.Cond.instanceMethod ({ cls := nm0, name := "length", desc := "()I" } : Jvm.MethodName)).before a0 Z = true := hw _ (List.mem_of_getElem? (i := 56) rfl)
theorem w57 {Z a0} (hw : HW Z a0) : (Jvm.Cond.selects nm0 ({ cls := nm0, name := "length", desc := "()I" } : Jvm.MethodName) ({ cls := nm0, name := "length", desc := "()I" } : Jvm.MethodName)).before a0 Z = true := hw _ (List.mem_of_getElem? (i := 57) rfl)
theorem w58 {Z a0} (hw : HW Z a0) : (Jvm.Cond.code ({ cls := nm0, name := "length", desc := "()I" } : Jvm.MethodName) jdk_42_method_54_code (1 : Nat) (Option.some Jvm.ClassFile.FieldType.int)).before a0 Z = true := hw _ (List.mem_of_getElem? (i := 58) rfl)
theorem w59 {Z a0} (hw : HW Z a0) : (Jvm.Cond.methodLink nm0 (335 : Nat) ({ cls := nm0, name := "coder", desc := "()B" } : Jvm.MethodName)).before a0 Z = true := hw _ (List.mem_of_getElem? (i := 59) rfl)
theorem w60 {Z a0} (hw : HW Z a0) : (Jvm.Cond.declares ({ cls := nm0, name := "coder", desc := "()B" } : Jvm.MethodName)).before a0 Z = true := hw _ (List.mem_of_getElem? (i := 60) rfl)
theorem w61 {Z a0} (hw : HW Z a0) : (Jvm.Cond.instanceMethod ({ cls := nm0, name := "coder", desc := "()B" } : Jvm.MethodName)).before a0 Z = true := hw _ (List.mem_of_getElem? (i := 61) rfl)
theorem w62 {Z a0} (hw : HW Z a0) : (Jvm.Cond.selects nm0 ({ cls := nm0, name := "coder", desc := "()B" } : Jvm.MethodName) ({ cls := nm0, name := "coder", desc := "()B" } : Jvm.MethodName)).before a0 Z = true := hw _ (List.mem_of_getElem? (i := 62) rfl)
theorem w63 {Z a0} (hw : HW Z a0) : (Jvm.Cond.code ({ cls := nm0, name := "coder", desc := "()B" } : Jvm.MethodName) jdk_42_method_152_code (1 : Nat) (Option.some Jvm.ClassFile.FieldType.byte)).before a0 Z = true := hw _ (List.mem_of_getElem? (i := 63) rfl)
theorem w64 {Z a0} (hw : HW Z a0) : (Jvm.Cond.methodLink nm2 (27 : Nat) ({ cls := nm2, name := "<init>", desc := "(Ljava/lang/String;J[I)V" } : Jvm.MethodName)).before a0 Z = true := hw _ (List.mem_of_getElem? (i := 64) rfl)
theorem w65 {Z a0} (hw : HW Z a0) : (Jvm.Cond.instanceMethod ({ cls := nm2, name := "<init>", desc := "(Ljava/lang/String;J[I)V" } : Jvm.MethodName)).before a0 Z = true := hw _ (List.mem_of_getElem? (i := 65) rfl)
theorem w66 {Z a0} (hw : HW Z a0) : (Jvm.Cond.code ({ cls := nm2, name := "<init>", desc := "(Ljava/lang/String;J[I)V" } : Jvm.MethodName) prog_18_method_1_code (5 : Nat) (Option.none : Option Jvm.ClassFile.FieldType)).before a0 Z = true := hw _ (List.mem_of_getElem? (i := 66) rfl)
theorem w67 {Z a0} (hw : HW Z a0) : (Jvm.Cond.methodLink nm2 (1 : Nat) ({ cls := "java/lang/Object", name := "<init>", desc := "()V" } : Jvm.MethodName)).before a0 Z = true := hw _ (List.mem_of_getElem? (i := 67) rfl)
theorem w68 {Z a0} (hw : HW Z a0) : (Jvm.Cond.fieldLink nm2 (7 : Nat) nm2 "text" nm3).before a0 Z = true := hw _ (List.mem_of_getElem? (i := 68) rfl)
theorem w69 {Z a0} (hw : HW Z a0) : (Jvm.Cond.laysFinal nm2 nm2 "text" nm3).before a0 Z = true := hw _ (List.mem_of_getElem? (i := 69) rfl)
theorem w70 {Z a0} (hw : HW Z a0) : (Jvm.Cond.fieldLink nm2 (13 : Nat) nm2 "offset" "J").before a0 Z = true := hw _ (List.mem_of_getElem? (i := 70) rfl)
theorem w71 {Z a0} (hw : HW Z a0) : (Jvm.Cond.laysFinal nm2 nm2 "offset" "J").before a0 Z = true := hw _ (List.mem_of_getElem? (i := 71) rfl)
theorem w72 {Z a0} (hw : HW Z a0) : (Jvm.Cond.fieldLink nm2 (17 : Nat) nm2 "bounds" "[I").before a0 Z = true := hw _ (List.mem_of_getElem? (i := 72) rfl)
theorem w73 {Z a0} (hw : HW Z a0) : (Jvm.Cond.laysFinal nm2 nm2 "bounds" "[I").before a0 Z = true := hw _ (List.mem_of_getElem? (i := 73) rfl)
theorem w74 {Z a0} (hw : HW Z a0) : (Jvm.Cond.methodLink nm5 (26 : Nat) ({ cls := nm1, name := "set", desc := "(Lgleaner/Match;)V" } : Jvm.MethodName)).before a0 Z = true := hw _ (List.mem_of_getElem? (i := 74) rfl)
theorem w75 {Z a0} (hw : HW Z a0) : (Jvm.Cond.declares ({ cls := nm1, name := "set", desc := "(Lgleaner/Match;)V" } : Jvm.MethodName)).before a0 Z = true := hw _ (List.mem_of_getElem? (i := 75) rfl)
theorem w76 {Z a0} (hw : HW Z a0) : (Jvm.Cond.instanceMethod ({ cls := nm1, name := "set", desc := "(Lgleaner/Match;)V" } : Jvm.MethodName)).before a0 Z = true := hw _ (List.mem_of_getElem? (i := 76) rfl)
theorem w77 {Z a0} (hw : HW Z a0) : (Jvm.Cond.selects nm1 ({ cls := nm1, name := "set", desc := "(Lgleaner/Match;)V" } : Jvm.MethodName) ({ cls := nm1, name := "set", desc := "(Lgleaner/Match;)V" } : Jvm.MethodName)).before a0 Z = true := hw _ (List.mem_of_getElem? (i := 77) rfl)
theorem w78 {Z a0} (hw : HW Z a0) : (Jvm.Cond.code ({ cls := nm1, name := "set", desc := "(Lgleaner/Match;)V" } : Jvm.MethodName) prog_15_method_3_code (2 : Nat) (Option.none : Option Jvm.ClassFile.FieldType)).before a0 Z = true := hw _ (List.mem_of_getElem? (i := 78) rfl)
theorem w79 {Z a0} (hw : HW Z a0) : (Jvm.Cond.fieldLink nm1 (17 : Nat) nm1 "made" nm10).before a0 Z = true := hw _ (List.mem_of_getElem? (i := 79) rfl)
theorem w80 {Z a0} (hw : HW Z a0) : (Jvm.Cond.lays nm1 nm1 "made" nm10).before a0 Z = true := hw _ (List.mem_of_getElem? (i := 80) rfl)
theorem w81 {Z a0} (hw : HW Z a0) : (Jvm.Cond.fieldLink nm1 (21 : Nat) nm1 "read" nm3).before a0 Z = true := hw _ (List.mem_of_getElem? (i := 81) rfl)
theorem w82 {Z a0} (hw : HW Z a0) : (Jvm.Cond.lays nm1 nm1 "read" nm3).before a0 Z = true := hw _ (List.mem_of_getElem? (i := 82) rfl)
theorem w83 {Z a0} (hw : HW Z a0) : (Jvm.Cond.methodLink nm5 (45 : Nat) ({ cls := nm1, name := "token", desc := "(Ljava/lang/String;J)V" } : Jvm.MethodName)).before a0 Z = true := hw _ (List.mem_of_getElem? (i := 83) rfl)
theorem w84 {Z a0} (hw : HW Z a0) : (Jvm.Cond.declares ({ cls := nm1, name := "token", desc := "(Ljava/lang/String;J)V" } : Jvm.MethodName)).before a0 Z = true := hw _ (List.mem_of_getElem? (i := 84) rfl)
theorem w85 {Z a0} (hw : HW Z a0) : (Jvm.Cond.instanceMethod ({ cls := nm1, name := "token", desc := "(Ljava/lang/String;J)V" } : Jvm.MethodName)).before a0 Z = true := hw _ (List.mem_of_getElem? (i := 85) rfl)
theorem w86 {Z a0} (hw : HW Z a0) : (Jvm.Cond.selects nm1 ({ cls := nm1, name := "token", desc := "(Ljava/lang/String;J)V" } : Jvm.MethodName) ({ cls := nm1, name := "token", desc := "(Ljava/lang/String;J)V" } : Jvm.MethodName)).before a0 Z = true := hw _ (List.mem_of_getElem? (i := 86) rfl)
theorem w87 {Z a0} (hw : HW Z a0) : (Jvm.Cond.code ({ cls := nm1, name := "token", desc := "(Ljava/lang/String;J)V" } : Jvm.MethodName) prog_15_method_4_code (4 : Nat) (Option.none : Option Jvm.ClassFile.FieldType)).before a0 Z = true := hw _ (List.mem_of_getElem? (i := 87) rfl)
theorem w88 {Z a0} (hw : HW Z a0) : (Jvm.Cond.methodLink nm1 (13 : Nat) ({ cls := nm1, name := "set", desc := "(Lgleaner/Match;)V" } : Jvm.MethodName)).before a0 Z = true := hw _ (List.mem_of_getElem? (i := 88) rfl)
theorem w89 {Z a0} (hw : HW Z a0) : (Jvm.Cond.fieldLink nm1 (25 : Nat) nm1 "offset" "J").before a0 Z = true := hw _ (List.mem_of_getElem? (i := 89) rfl)
theorem w90 {Z a0} (hw : HW Z a0) : (Jvm.Cond.lays nm1 nm1 "offset" "J").before a0 Z = true := hw _ (List.mem_of_getElem? (i := 90) rfl)
theorem w91 {Z a0} (hw : HW Z a0) : (Jvm.Cond.fieldLink nm1 (29 : Nat) nm1 "terminatorLength" "I").before a0 Z = true := hw _ (List.mem_of_getElem? (i := 91) rfl)
theorem w92 {Z a0} (hw : HW Z a0) : (Jvm.Cond.lays nm1 nm1 "terminatorLength" "I").before a0 Z = true := hw _ (List.mem_of_getElem? (i := 92) rfl)
theorem w93 {Z a0} (hw : HW Z a0) : (Jvm.Cond.methodLink nm5 (48 : Nat) ({ cls := nm1, name := "get", desc := "()Lgleaner/Match;" } : Jvm.MethodName)).before a0 Z = true := hw _ (List.mem_of_getElem? (i := 93) rfl)
theorem w94 {Z a0} (hw : HW Z a0) : (Jvm.Cond.declares ({ cls := nm1, name := "get", desc := "()Lgleaner/Match;" } : Jvm.MethodName)).before a0 Z = true := hw _ (List.mem_of_getElem? (i := 94) rfl)
theorem w95 {Z a0} (hw : HW Z a0) : (Jvm.Cond.instanceMethod ({ cls := nm1, name := "get", desc := "()Lgleaner/Match;" } : Jvm.MethodName)).before a0 Z = true := hw _ (List.mem_of_getElem? (i := 95) rfl)
theorem w96 {Z a0} (hw : HW Z a0) : (Jvm.Cond.selects nm1 ({ cls := nm1, name := "get", desc := "()Lgleaner/Match;" } : Jvm.MethodName) ({ cls := nm1, name := "get", desc := "()Lgleaner/Match;" } : Jvm.MethodName)).before a0 Z = true := hw _ (List.mem_of_getElem? (i := 96) rfl)
theorem w97 {Z a0} (hw : HW Z a0) : (Jvm.Cond.code ({ cls := nm1, name := "get", desc := "()Lgleaner/Match;" } : Jvm.MethodName) prog_15_method_8_code (1 : Nat) (Option.some (Jvm.ClassFile.FieldType.object nm2))).before a0 Z = true := hw _ (List.mem_of_getElem? (i := 97) rfl)
theorem w98 {Z a0} (hw : HW Z a0) : (Jvm.Cond.methodLink nm1 (59 : Nat) ({ cls := nm2, name := "of", desc := nm13 } : Jvm.MethodName)).before a0 Z = true := hw _ (List.mem_of_getElem? (i := 98) rfl)
theorem w99 {Z a0} (hw : HW Z a0) : (Jvm.Cond.stringLink nm5 (52 : Nat) "").before a0 Z = true := hw _ (List.mem_of_getElem? (i := 99) rfl)
theorem w100 {Z a0} (hw : HW Z a0) : (Jvm.Cond.methodLink nm5 (54 : Nat) ({ cls := nm2, name := "within", desc := "(Lgleaner/Match;)Lgleaner/Match;" } : Jvm.MethodName)).before a0 Z = true := hw _ (List.mem_of_getElem? (i := 100) rfl)
theorem w101 {Z a0} (hw : HW Z a0) : (Jvm.Cond.declares ({ cls := nm2, name := "within", desc := "(Lgleaner/Match;)Lgleaner/Match;" } : Jvm.MethodName)).before a0 Z = true := hw _ (List.mem_of_getElem? (i := 101) rfl)
theorem w102 {Z a0} (hw : HW Z a0) : (Jvm.Cond.instanceMethod ({ cls := nm2, name := "within", desc := "(Lgleaner/Match;)Lgleaner/Match;" } : Jvm.MethodName)).before a0 Z = true := hw _ (List.mem_of_getElem? (i := 102) rfl)
theorem w103 {Z a0} (hw : HW Z a0) : (Jvm.Cond.selects nm2 ({ cls := nm2, name := "within", desc := "(Lgleaner/Match;)Lgleaner/Match;" } : Jvm.MethodName) ({ cls := nm2, name := "within", desc := "(Lgleaner/Match;)Lgleaner/Match;" } : Jvm.MethodName)).before a0 Z = true := hw _ (List.mem_of_getElem? (i := 103) rfl)
theorem w104 {Z a0} (hw : HW Z a0) : (Jvm.Cond.code ({ cls := nm2, name := "within", desc := "(Lgleaner/Match;)Lgleaner/Match;" } : Jvm.MethodName) prog_18_method_5_code (2 : Nat) (Option.some (Jvm.ClassFile.FieldType.object nm2))).before a0 Z = true := hw _ (List.mem_of_getElem? (i := 104) rfl)
theorem w105 {Z a0} (hw : HW Z a0) : (Jvm.Cond.methodLink nm5 (58 : Nat) ({ cls := nm2, name := "group", desc := "()Ljava/lang/String;" } : Jvm.MethodName)).before a0 Z = true := hw _ (List.mem_of_getElem? (i := 105) rfl)
theorem w106 {Z a0} (hw : HW Z a0) : (Jvm.Cond.declares ({ cls := nm2, name := "group", desc := "()Ljava/lang/String;" } : Jvm.MethodName)).before a0 Z = true := hw _ (List.mem_of_getElem? (i := 106) rfl)
theorem w107 {Z a0} (hw : HW Z a0) : (Jvm.Cond.instanceMethod ({ cls := nm2, name := "group", desc := "()Ljava/lang/String;" } : Jvm.MethodName)).before a0 Z = true := hw _ (List.mem_of_getElem? (i := 107) rfl)
theorem w108 {Z a0} (hw : HW Z a0) : (Jvm.Cond.selects nm2 ({ cls := nm2, name := "group", desc := "()Ljava/lang/String;" } : Jvm.MethodName) ({ cls := nm2, name := "group", desc := "()Ljava/lang/String;" } : Jvm.MethodName)).before a0 Z = true := hw _ (List.mem_of_getElem? (i := 108) rfl)
theorem w109 {Z a0} (hw : HW Z a0) : (Jvm.Cond.code ({ cls := nm2, name := "group", desc := "()Ljava/lang/String;" } : Jvm.MethodName) prog_18_method_10_code (1 : Nat) (Option.some (Jvm.ClassFile.FieldType.object nm0))).before a0 Z = true := hw _ (List.mem_of_getElem? (i := 109) rfl)
theorem w110 {Z a0} (hw : HW Z a0) : (Jvm.Cond.methodLink nm2 (73 : Nat) ({ cls := nm2, name := "group", desc := "(I)Ljava/lang/String;" } : Jvm.MethodName)).before a0 Z = true := hw _ (List.mem_of_getElem? (i := 110) rfl)
theorem w111 {Z a0} (hw : HW Z a0) : (Jvm.Cond.declares ({ cls := nm2, name := "group", desc := "(I)Ljava/lang/String;" } : Jvm.MethodName)).before a0 Z = true := hw _ (List.mem_of_getElem? (i := 111) rfl)
theorem w112 {Z a0} (hw : HW Z a0) : (Jvm.Cond.instanceMethod ({ cls := nm2, name := "group", desc := "(I)Ljava/lang/String;" } : Jvm.MethodName)).before a0 Z = true := hw _ (List.mem_of_getElem? (i := 112) rfl)
theorem w113 {Z a0} (hw : HW Z a0) : (Jvm.Cond.selects nm2 ({ cls := nm2, name := "group", desc := "(I)Ljava/lang/String;" } : Jvm.MethodName) ({ cls := nm2, name := "group", desc := "(I)Ljava/lang/String;" } : Jvm.MethodName)).before a0 Z = true := hw _ (List.mem_of_getElem? (i := 113) rfl)
theorem w114 {Z a0} (hw : HW Z a0) : (Jvm.Cond.code ({ cls := nm2, name := "group", desc := "(I)Ljava/lang/String;" } : Jvm.MethodName) prog_18_method_11_code (3 : Nat) (Option.some (Jvm.ClassFile.FieldType.object nm0))).before a0 Z = true := hw _ (List.mem_of_getElem? (i := 114) rfl)
theorem w115 {Z a0} (hw : HW Z a0) : (Jvm.Cond.methodLink nm2 (66 : Nat) ({ cls := nm2, name := "checked", desc := "(I)I" } : Jvm.MethodName)).before a0 Z = true := hw _ (List.mem_of_getElem? (i := 115) rfl)
theorem w116 {Z a0} (hw : HW Z a0) : (Jvm.Cond.instanceMethod ({ cls := nm2, name := "checked", desc := "(I)I" } : Jvm.MethodName)).before a0 Z = true := hw _ (List.mem_of_getElem? (i := 116) rfl)
theorem w117 {Z a0} (hw : HW Z a0) : (Jvm.Cond.privateMethod ({ cls := nm2, name := "checked", desc := "(I)I" } : Jvm.MethodName)).before a0 Z = true := hw _ (List.mem_of_getElem? (i := 117) rfl)
theorem w118 {Z a0} (hw : HW Z a0) : (Jvm.Cond.code ({ cls := nm2, name := "checked", desc := "(I)I" } : Jvm.MethodName) prog_18_method_13_code (2 : Nat) (Option.some Jvm.ClassFile.FieldType.int)).before a0 Z = true := hw _ (List.mem_of_getElem? (i := 118) rfl)
theorem w119 {Z a0} (hw : HW Z a0) : (Jvm.Cond.methodLink nm2 (81 : Nat) ({ cls := nm2, name := "groupCount", desc := "()I" } : Jvm.MethodName)).before a0 Z = true := hw _ (List.mem_of_getElem? (i := 119) rfl)
theorem w120 {Z a0} (hw : HW Z a0) : (Jvm.Cond.declares ({ cls := nm2, name := "groupCount", desc := "()I" } : Jvm.MethodName)).before a0 Z = true := hw _ (List.mem_of_getElem? (i := 120) rfl)
theorem w121 {Z a0} (hw : HW Z a0) : (Jvm.Cond.instanceMethod ({ cls := nm2, name := "groupCount", desc := "()I" } : Jvm.MethodName)).before a0 Z = true := hw _ (List.mem_of_getElem? (i := 121) rfl)
theorem w122 {Z a0} (hw : HW Z a0) : (Jvm.Cond.selects nm2 ({ cls := nm2, name := "groupCount", desc := "()I" } : Jvm.MethodName) ({ cls := nm2, name := "groupCount", desc := "()I" } : Jvm.MethodName)).before a0 Z = true := hw _ (List.mem_of_getElem? (i := 122) rfl)
theorem w123 {Z a0} (hw : HW Z a0) : (Jvm.Cond.code ({ cls := nm2, name := "groupCount", desc := "()I" } : Jvm.MethodName) prog_18_method_12_code (1 : Nat) (Option.some Jvm.ClassFile.FieldType.int)).before a0 Z = true := hw _ (List.mem_of_getElem? (i := 123) rfl)
theorem w124 {Z a0} (hw : HW Z a0) : (Jvm.Cond.methodLink nm2 (77 : Nat) ({ cls := nm0, name := "substring", desc := "(II)Ljava/lang/String;" } : Jvm.MethodName)).before a0 Z = true := hw _ (List.mem_of_getElem? (i := 124) rfl)
theorem w125 {Z a0} (hw : HW Z a0) : (Jvm.Cond.declares ({ cls := nm0, name := "substring", desc := "(II)Ljava/lang/String;" } : Jvm.MethodName)).before a0 Z = true := hw _ (List.mem_of_getElem? (i := 125) rfl)
theorem w126 {Z a0} (hw : HW Z a0) : (Jvm.Cond.instanceMethod ({ cls := nm0, name := "substring", desc := "(II)Ljava/lang/String;" } : Jvm.MethodName)).before a0 Z = true := hw _ (List.mem_of_getElem? (i := 126) rfl)
theorem w127 {Z a0} (hw : HW Z a0) : (Jvm.Cond.selects nm0 ({ cls := nm0, name := "substring", desc := "(II)Ljava/lang/String;" } : Jvm.MethodName) ({ cls := nm0, name := "substring", desc := "(II)Ljava/lang/String;" } : Jvm.MethodName)).before a0 Z = true := hw _ (List.mem_of_getElem? (i := 127) rfl)
theorem w128 {Z a0} (hw : HW Z a0) : (Jvm.Cond.code ({ cls := nm0, name := "substring", desc := "(II)Ljava/lang/String;" } : Jvm.MethodName) jdk_42_method_92_code (5 : Nat) (Option.some (Jvm.ClassFile.FieldType.object nm0))).before a0 Z = true := hw _ (List.mem_of_getElem? (i := 128) rfl)
theorem w129 {Z a0} (hw : HW Z a0) : (Jvm.Cond.methodLink nm0 (505 : Nat) ({ cls := nm0, name := "length", desc := "()I" } : Jvm.MethodName)).before a0 Z = true := hw _ (List.mem_of_getElem? (i := 129) rfl)
theorem w130 {Z a0} (hw : HW Z a0) : (Jvm.Cond.methodLink nm0 (521 : Nat) ({ cls := nm0, name := "checkBoundsBeginEnd", desc := "(III)V" } : Jvm.MethodName)).before a0 Z = true := hw _ (List.mem_of_getElem? (i := 130) rfl)
theorem w131 {Z a0} (hw : HW Z a0) : (Jvm.Cond.static ({ cls := nm0, name := "checkBoundsBeginEnd", desc := "(III)V" } : Jvm.MethodName)).before a0 Z = true := hw _ (List.mem_of_getElem? (i := 131) rfl)
theorem w132 {Z a0} (hw : HW Z a0) : (Jvm.Cond.code ({ cls := nm0, name := "checkBoundsBeginEnd", desc := "(III)V" } : Jvm.MethodName) jdk_42_method_158_code (3 : Nat) (Option.none : Option Jvm.ClassFile.FieldType)).before a0 Z = true := hw _ (List.mem_of_getElem? (i := 132) rfl)
theorem w133 {Z a0} (hw : HW Z a0) : (Jvm.Cond.fieldLink nm0 (1053 : Nat) nm4 "SIOOBE_FORMATTER" nm11).before a0 Z = true := hw _ (List.mem_of_getElem? (i := 133) rfl)
theorem w134 {Z a0} (hw : HW Z a0) : (Jvm.Cond.initialized nm4).before a0 Z = true := hw _ (List.mem_of_getElem? (i := 134) rfl)
theorem w135 {Z a0} (hw : HW Z a0) : (Jvm.Cond.methodLink nm0 (1062 : Nat) ({ cls := nm4, name := "checkFromToIndex", desc := "(IIILjava/util/function/BiFunction;)I" } : Jvm.MethodName)).before a0 Z = true := hw _ (List.mem_of_getElem? (i := 135) rfl)
theorem w136 {Z a0} (hw : HW Z a0) : (Jvm.Cond.static ({ cls := nm4, name := "checkFromToIndex", desc := "(IIILjava/util/function/BiFunction;)I" } : Jvm.MethodName)).before a0 Z = true := hw _ (List.mem_of_getElem? (i := 136) rfl)
theorem w137 {Z a0} (hw : HW Z a0) : (Jvm.Cond.code ({ cls := nm4, name := "checkFromToIndex", desc := "(IIILjava/util/function/BiFunction;)I" } : Jvm.MethodName) jdk_41_method_12_code (4 : Nat) (Option.some Jvm.ClassFile.FieldType.int)).before a0 Z = true := hw _ (List.mem_of_getElem? (i := 137) rfl)
theorem w138 {Z a0} (hw : HW Z a0) : (Jvm.Cond.methodLink nm5 (62 : Nat) ({ cls := nm0, name := "equals", desc := "(Ljava/lang/Object;)Z" } : Jvm.MethodName)).before a0 Z = true := hw _ (List.mem_of_getElem? (i := 138) rfl)
theorem w139 {Z a0} (hw : HW Z a0) : (Jvm.Cond.declares ({ cls := nm0, name := "equals", desc := "(Ljava/lang/Object;)Z" } : Jvm.MethodName)).before a0 Z = true := hw _ (List.mem_of_getElem? (i := 139) rfl)
theorem w140 {Z a0} (hw : HW Z a0) : (Jvm.Cond.instanceMethod ({ cls := nm0, name := "equals", desc := "(Ljava/lang/Object;)Z" } : Jvm.MethodName)).before a0 Z = true := hw _ (List.mem_of_getElem? (i := 140) rfl)
theorem w141 {Z a0} (hw : HW Z a0) : (Jvm.Cond.selects nm0 ({ cls := nm0, name := "equals", desc := "(Ljava/lang/Object;)Z" } : Jvm.MethodName) ({ cls := nm0, name := "equals", desc := "(Ljava/lang/Object;)Z" } : Jvm.MethodName)).before a0 Z = true := hw _ (List.mem_of_getElem? (i := 141) rfl)
theorem w142 {Z a0} (hw : HW Z a0) : (Jvm.Cond.code ({ cls := nm0, name := "equals", desc := "(Ljava/lang/Object;)Z" } : Jvm.MethodName) jdk_42_method_66_code (3 : Nat) (Option.some Jvm.ClassFile.FieldType.boolean)).before a0 Z = true := hw _ (List.mem_of_getElem? (i := 142) rfl)
theorem w143 {Z a0} (hw : HW Z a0) : (Jvm.Cond.methodLink nm5 (66 : Nat) ({ cls := nm2, name := "groupCount", desc := "()I" } : Jvm.MethodName)).before a0 Z = true := hw _ (List.mem_of_getElem? (i := 143) rfl)
theorem w144 {Z a0} (hw : HW Z a0) : (Jvm.Cond.methodLink nm5 (70 : Nat) ({ cls := nm2, name := "start", desc := "()I" } : Jvm.MethodName)).before a0 Z = true := hw _ (List.mem_of_getElem? (i := 144) rfl)
theorem w145 {Z a0} (hw : HW Z a0) : (Jvm.Cond.declares ({ cls := nm2, name := "start", desc := "()I" } : Jvm.MethodName)).before a0 Z = true := hw _ (List.mem_of_getElem? (i := 145) rfl)
theorem w146 {Z a0} (hw : HW Z a0) : (Jvm.Cond.instanceMethod ({ cls := nm2, name := "start", desc := "()I" } : Jvm.MethodName)).before a0 Z = true := hw _ (List.mem_of_getElem? (i := 146) rfl)
theorem w147 {Z a0} (hw : HW Z a0) : (Jvm.Cond.selects nm2 ({ cls := nm2, name := "start", desc := "()I" } : Jvm.MethodName) ({ cls := nm2, name := "start", desc := "()I" } : Jvm.MethodName)).before a0 Z = true := hw _ (List.mem_of_getElem? (i := 147) rfl)
theorem w148 {Z a0} (hw : HW Z a0) : (Jvm.Cond.code ({ cls := nm2, name := "start", desc := "()I" } : Jvm.MethodName) prog_18_method_6_code (1 : Nat) (Option.some Jvm.ClassFile.FieldType.int)).before a0 Z = true := hw _ (List.mem_of_getElem? (i := 148) rfl)
theorem w149 {Z a0} (hw : HW Z a0) : (Jvm.Cond.methodLink nm2 (65 : Nat) ({ cls := nm2, name := "start", desc := "(I)I" } : Jvm.MethodName)).before a0 Z = true := hw _ (List.mem_of_getElem? (i := 149) rfl)
theorem w150 {Z a0} (hw : HW Z a0) : (Jvm.Cond.declares ({ cls := nm2, name := "start", desc := "(I)I" } : Jvm.MethodName)).before a0 Z = true := hw _ (List.mem_of_getElem? (i := 150) rfl)
theorem w151 {Z a0} (hw : HW Z a0) : (Jvm.Cond.instanceMethod ({ cls := nm2, name := "start", desc := "(I)I" } : Jvm.MethodName)).before a0 Z = true := hw _ (List.mem_of_getElem? (i := 151) rfl)
theorem w152 {Z a0} (hw : HW Z a0) : (Jvm.Cond.selects nm2 ({ cls := nm2, name := "start", desc := "(I)I" } : Jvm.MethodName) ({ cls := nm2, name := "start", desc := "(I)I" } : Jvm.MethodName)).before a0 Z = true := hw _ (List.mem_of_getElem? (i := 152) rfl)
theorem w153 {Z a0} (hw : HW Z a0) : (Jvm.Cond.code ({ cls := nm2, name := "start", desc := "(I)I" } : Jvm.MethodName) prog_18_method_7_code (2 : Nat) (Option.some Jvm.ClassFile.FieldType.int)).before a0 Z = true := hw _ (List.mem_of_getElem? (i := 153) rfl)
theorem w154 {Z a0} (hw : HW Z a0) : (Jvm.Cond.methodLink nm2 (69 : Nat) ({ cls := nm2, name := "place", desc := "(I)I" } : Jvm.MethodName)).before a0 Z = true := hw _ (List.mem_of_getElem? (i := 154) rfl)
theorem w155 {Z a0} (hw : HW Z a0) : (Jvm.Cond.instanceMethod ({ cls := nm2, name := "place", desc := "(I)I" } : Jvm.MethodName)).before a0 Z = true := hw _ (List.mem_of_getElem? (i := 155) rfl)
theorem w156 {Z a0} (hw : HW Z a0) : (Jvm.Cond.privateMethod ({ cls := nm2, name := "place", desc := "(I)I" } : Jvm.MethodName)).before a0 Z = true := hw _ (List.mem_of_getElem? (i := 156) rfl)
theorem w157 {Z a0} (hw : HW Z a0) : (Jvm.Cond.code ({ cls := nm2, name := "place", desc := "(I)I" } : Jvm.MethodName) prog_18_method_14_code (2 : Nat) (Option.some Jvm.ClassFile.FieldType.int)).before a0 Z = true := hw _ (List.mem_of_getElem? (i := 157) rfl)
theorem w158 {Z a0} (hw : HW Z a0) : (Jvm.Cond.methodLink nm2 (90 : Nat) ({ cls := "java/lang/Math", name := "toIntExact", desc := "(J)I" } : Jvm.MethodName)).before a0 Z = true := hw _ (List.mem_of_getElem? (i := 158) rfl)
theorem w159 {Z a0} (hw : HW Z a0) : (Jvm.Cond.static ({ cls := "java/lang/Math", name := "toIntExact", desc := "(J)I" } : Jvm.MethodName)).before a0 Z = true := hw _ (List.mem_of_getElem? (i := 159) rfl)
theorem w160 {Z a0} (hw : HW Z a0) : (Jvm.Cond.initialized "java/lang/Math").before a0 Z = true := hw _ (List.mem_of_getElem? (i := 160) rfl)
theorem w161 {Z a0} (hw : HW Z a0) : (Jvm.Cond.code ({ cls := "java/lang/Math", name := "toIntExact", desc := "(J)I" } : Jvm.MethodName) jdk_29_method_43_code (2 : Nat) (Option.some Jvm.ClassFile.FieldType.int)).before a0 Z = true := hw _ (List.mem_of_getElem? (i := 161) rfl)
theorem w162 {Z a0} (hw : HW Z a0) : (Jvm.Cond.methodLink nm5 (73 : Nat) ({ cls := nm2, name := "end", desc := "()I" } : Jvm.MethodName)).before a0 Z = true := hw _ (List.mem_of_getElem? (i := 162) rfl)
theorem w163 {Z a0} (hw : HW Z a0) : (Jvm.Cond.declares ({ cls := nm2, name := "end", desc := "()I" } : Jvm.MethodName)).before a0 Z = true := hw _ (List.mem_of_getElem? (i := 163) rfl)
theorem w164 {Z a0} (hw : HW Z a0) : (Jvm.Cond.instanceMethod ({ cls := nm2, name := "end", desc := "()I" } : Jvm.MethodName)).before a0 Z = true := hw _ (List.mem_of_getElem? (i := 164) rfl)
theorem w165 {Z a0} (hw : HW Z a0) : (Jvm.Cond.selects nm2 ({ cls := nm2, name := "end", desc := "()I" } : Jvm.MethodName) ({ cls := nm2, name := "end", desc := "()I" } : Jvm.MethodName)).before a0 Z = true := hw _ (List.mem_of_getElem? (i := 165) rfl)
theorem w166 {Z a0} (hw : HW Z a0) : (Jvm.Cond.code ({ cls := nm2, name := "end", desc := "()I" } : Jvm.MethodName) prog_18_method_8_code (1 : Nat) (Option.some Jvm.ClassFile.FieldType.int)).before a0 Z = true := hw _ (List.mem_of_getElem? (i := 166) rfl)
theorem w167 {Z a0} (hw : HW Z a0) : (Jvm.Cond.methodLink nm2 (72 : Nat) ({ cls := nm2, name := "end", desc := "(I)I" } : Jvm.MethodName)).before a0 Z = true := hw _ (List.mem_of_getElem? (i := 167) rfl)
theorem w168 {Z a0} (hw : HW Z a0) : (Jvm.Cond.declares ({ cls := nm2, name := "end", desc := "(I)I" } : Jvm.MethodName)).before a0 Z = true := hw _ (List.mem_of_getElem? (i := 168) rfl)
theorem w169 {Z a0} (hw : HW Z a0) : (Jvm.Cond.instanceMethod ({ cls := nm2, name := "end", desc := "(I)I" } : Jvm.MethodName)).before a0 Z = true := hw _ (List.mem_of_getElem? (i := 169) rfl)
theorem w170 {Z a0} (hw : HW Z a0) : (Jvm.Cond.selects nm2 ({ cls := nm2, name := "end", desc := "(I)I" } : Jvm.MethodName) ({ cls := nm2, name := "end", desc := "(I)I" } : Jvm.MethodName)).before a0 Z = true := hw _ (List.mem_of_getElem? (i := 170) rfl)
theorem w171 {Z a0} (hw : HW Z a0) : (Jvm.Cond.code ({ cls := nm2, name := "end", desc := "(I)I" } : Jvm.MethodName) prog_18_method_9_code (2 : Nat) (Option.some Jvm.ClassFile.FieldType.int)).before a0 Z = true := hw _ (List.mem_of_getElem? (i := 171) rfl)
theorem w172 {Z a0} (hw : HW Z a0) : (Jvm.Cond.methodLink nm5 (30 : Nat) ({ cls := nm1, name := "line", desc := "(Ljava/lang/String;JIC)V" } : Jvm.MethodName)).before a0 Z = true := hw _ (List.mem_of_getElem? (i := 172) rfl)
theorem w173 {Z a0} (hw : HW Z a0) : (Jvm.Cond.declares ({ cls := nm1, name := "line", desc := "(Ljava/lang/String;JIC)V" } : Jvm.MethodName)).before a0 Z = true := hw _ (List.mem_of_getElem? (i := 173) rfl)
theorem w174 {Z a0} (hw : HW Z a0) : (Jvm.Cond.instanceMethod ({ cls := nm1, name := "line", desc := "(Ljava/lang/String;JIC)V" } : Jvm.MethodName)).before a0 Z = true := hw _ (List.mem_of_getElem? (i := 174) rfl)
theorem w175 {Z a0} (hw : HW Z a0) : (Jvm.Cond.selects nm1 ({ cls := nm1, name := "line", desc := "(Ljava/lang/String;JIC)V" } : Jvm.MethodName) ({ cls := nm1, name := "line", desc := "(Ljava/lang/String;JIC)V" } : Jvm.MethodName)).before a0 Z = true := hw _ (List.mem_of_getElem? (i := 175) rfl)
theorem w176 {Z a0} (hw : HW Z a0) : (Jvm.Cond.code ({ cls := nm1, name := "line", desc := "(Ljava/lang/String;JIC)V" } : Jvm.MethodName) prog_15_method_6_code (6 : Nat) (Option.none : Option Jvm.ClassFile.FieldType)).before a0 Z = true := hw _ (List.mem_of_getElem? (i := 176) rfl)
theorem w177 {Z a0} (hw : HW Z a0) : (Jvm.Cond.fieldLink nm1 (51 : Nat) nm1 "terminatorStart" "C").before a0 Z = true := hw _ (List.mem_of_getElem? (i := 177) rfl)
theorem w178 {Z a0} (hw : HW Z a0) : (Jvm.Cond.lays nm1 nm1 "terminatorStart" "C").before a0 Z = true := hw _ (List.mem_of_getElem? (i := 178) rfl)
theorem w179 {Z a0} (hw : HW Z a0) : (Jvm.Cond.fieldLink nm1 (55 : Nat) nm1 "terminatorRead" "Z").before a0 Z = true := hw _ (List.mem_of_getElem? (i := 179) rfl)
theorem w180 {Z a0} (hw : HW Z a0) : (Jvm.Cond.lays nm1 nm1 "terminatorRead" "Z").before a0 Z = true := hw _ (List.mem_of_getElem? (i := 180) rfl)
theorem w181 {Z a0} (hw : HW Z a0) : (Jvm.Cond.methodLink nm0 (177 : Nat) ({ cls := nm6, name := "compress", desc := "([CII)[B" } : Jvm.MethodName)).before a0 Z = true := hw _ (List.mem_of_getElem? (i := 181) rfl)
theorem w182 {Z a0} (hw : HW Z a0) : (Jvm.Cond.static ({ cls := nm6, name := "compress", desc := "([CII)[B" } : Jvm.MethodName)).before a0 Z = true := hw _ (List.mem_of_getElem? (i := 182) rfl)
theorem w183 {Z a0} (hw : HW Z a0) : (Jvm.Cond.initialized nm6).before a0 Z = true := hw _ (List.mem_of_getElem? (i := 183) rfl)
theorem w184 {Z a0} (hw : HW Z a0) : (Jvm.Cond.code ({ cls := nm6, name := "compress", desc := "([CII)[B" } : Jvm.MethodName) jdk_52_method_16_code (6 : Nat) (Option.some (Jvm.ClassFile.FieldType.array Jvm.ClassFile.FieldType.byte))).before a0 Z = true := hw _ (List.mem_of_getElem? (i := 184) rfl)
theorem w185 {Z a0} (hw : HW Z a0) : (Jvm.Cond.methodLink nm6 (115 : Nat) ({ cls := nm6, name := "compress", desc := "([CI[BII)I" } : Jvm.MethodName)).before a0 Z = true := hw _ (List.mem_of_getElem? (i := 185) rfl)
theorem w186 {Z a0} (hw : HW Z a0) : (Jvm.Cond.static ({ cls := nm6, name := "compress", desc := "([CI[BII)I" } : Jvm.MethodName)).before a0 Z = true := hw _ (List.mem_of_getElem? (i := 186) rfl)
theorem w187 {Z a0} (hw : HW Z a0) : (Jvm.Cond.code ({ cls := nm6, name := "compress", desc := "([CI[BII)I" } : Jvm.MethodName) jdk_52_method_21_code (7 : Nat) (Option.some Jvm.ClassFile.FieldType.int)).before a0 Z = true := hw _ (List.mem_of_getElem? (i := 187) rfl)
theorem w188 {Z a0} (hw : HW Z a0) : (Jvm.Cond.methodLink nm0 (47 : Nat) ({ cls := nm6, name := "coderFromArrayLen", desc := "([BI)B" } : Jvm.MethodName)).before a0 Z = true := hw _ (List.mem_of_getElem? (i := 188) rfl)
theorem w189 {Z a0} (hw : HW Z a0) : (Jvm.Cond.static ({ cls := nm6, name := "coderFromArrayLen", desc := "([BI)B" } : Jvm.MethodName)).before a0 Z = true := hw _ (List.mem_of_getElem? (i := 189) rfl)
theorem w190 {Z a0} (hw : HW Z a0) : (Jvm.Cond.code ({ cls := nm6, name := "coderFromArrayLen", desc := "([BI)B" } : Jvm.MethodName) jdk_52_method_15_code (2 : Nat) (Option.some Jvm.ClassFile.FieldType.byte)).before a0 Z = true := hw _ (List.mem_of_getElem? (i := 190) rfl)
theorem w191 {Z a0} (hw : HW Z a0) : (Jvm.Cond.methodLink nm5 (34 : Nat) ({ cls := nm1, name := "token", desc := "([CIIJ)V" } : Jvm.MethodName)).before a0 Z = true := hw _ (List.mem_of_getElem? (i := 191) rfl)
theorem w192 {Z a0} (hw : HW Z a0) : (Jvm.Cond.declares ({ cls := nm1, name := "token", desc := "([CIIJ)V" } : Jvm.MethodName)).before a0 Z = true := hw _ (List.mem_of_getElem? (i := 192) rfl)
theorem w193 {Z a0} (hw : HW Z a0) : (Jvm.Cond.instanceMethod ({ cls := nm1, name := "token", desc := "([CIIJ)V" } : Jvm.MethodName)).before a0 Z = true := hw _ (List.mem_of_getElem? (i := 193) rfl)
theorem w194 {Z a0} (hw : HW Z a0) : (Jvm.Cond.selects nm1 ({ cls := nm1, name := "token", desc := "([CIIJ)V" } : Jvm.MethodName) ({ cls := nm1, name := "token", desc := "([CIIJ)V" } : Jvm.MethodName)).before a0 Z = true := hw _ (List.mem_of_getElem? (i := 194) rfl)
theorem w195 {Z a0} (hw : HW Z a0) : (Jvm.Cond.code ({ cls := nm1, name := "token", desc := "([CIIJ)V" } : Jvm.MethodName) prog_15_method_5_code (6 : Nat) (Option.none : Option Jvm.ClassFile.FieldType)).before a0 Z = true := hw _ (List.mem_of_getElem? (i := 195) rfl)
theorem w196 {Z a0} (hw : HW Z a0) : (Jvm.Cond.fieldLink nm1 (41 : Nat) nm1 "copied" "[C").before a0 Z = true := hw _ (List.mem_of_getElem? (i := 196) rfl)
theorem w197 {Z a0} (hw : HW Z a0) : (Jvm.Cond.lays nm1 nm1 "copied" "[C").before a0 Z = true := hw _ (List.mem_of_getElem? (i := 197) rfl)
theorem w198 {Z a0} (hw : HW Z a0) : (Jvm.Cond.methodLink nm1 (45 : Nat) ({ cls := "java/lang/System", name := "arraycopy", desc := "(Ljava/lang/Object;ILjava/lang/Object;II)V" } : Jvm.MethodName)).before a0 Z = true := hw _ (List.mem_of_getElem? (i := 198) rfl)
theorem w199 {Z a0} (hw : HW Z a0) : (Jvm.Cond.static ({ cls := "java/lang/System", name := "arraycopy", desc := "(Ljava/lang/Object;ILjava/lang/Object;II)V" } : Jvm.MethodName)).before a0 Z = true := hw _ (List.mem_of_getElem? (i := 199) rfl)
theorem w200 {Z a0} (hw : HW Z a0) : (Jvm.Cond.initialized "java/lang/System").before a0 Z = true := hw _ (List.mem_of_getElem? (i := 200) rfl)
theorem w201 {Z a0} (hw : HW Z a0) : (Jvm.Cond.native ({ cls := "java/lang/System", name := "arraycopy", desc := "(Ljava/lang/Object;ILjava/lang/Object;II)V" } : Jvm.MethodName)).before a0 Z = true := hw _ (List.mem_of_getElem? (i := 201) rfl)
theorem w202 {Z a0} (hw : HW Z a0) : (Jvm.Cond.methodLink nm5 (42 : Nat) ({ cls := nm1, name := "clear", desc := "()V" } : Jvm.MethodName)).before a0 Z = true := hw _ (List.mem_of_getElem? (i := 202) rfl)
theorem w203 {Z a0} (hw : HW Z a0) : (Jvm.Cond.declares ({ cls := nm1, name := "clear", desc := "()V" } : Jvm.MethodName)).before a0 Z = true := hw _ (List.mem_of_getElem? (i := 203) rfl)
theorem w204 {Z a0} (hw : HW Z a0) : (Jvm.Cond.instanceMethod ({ cls := nm1, name := "clear", desc := "()V" } : Jvm.MethodName)).before a0 Z = true := hw _ (List.mem_of_getElem? (i := 204) rfl)
theorem w205 {Z a0} (hw : HW Z a0) : (Jvm.Cond.selects nm1 ({ cls := nm1, name := "clear", desc := "()V" } : Jvm.MethodName) ({ cls := nm1, name := "clear", desc := "()V" } : Jvm.MethodName)).before a0 Z = true := hw _ (List.mem_of_getElem? (i := 205) rfl)
theorem w206 {Z a0} (hw : HW Z a0) : (Jvm.Cond.code ({ cls := nm1, name := "clear", desc := "()V" } : Jvm.MethodName) prog_15_method_2_code (1 : Nat) (Option.none : Option Jvm.ClassFile.FieldType)).before a0 Z = true := hw _ (List.mem_of_getElem? (i := 206) rfl)
theorem w207 {Z a0} (hw : HW Z a0) : (Jvm.Cond.methodLink nm5 (38 : Nat) ({ cls := nm1, name := "lineWithTerminator", desc := "(Ljava/lang/String;JI)V" } : Jvm.MethodName)).before a0 Z = true := hw _ (List.mem_of_getElem? (i := 207) rfl)
theorem w208 {Z a0} (hw : HW Z a0) : (Jvm.Cond.declares ({ cls := nm1, name := "lineWithTerminator", desc := "(Ljava/lang/String;JI)V" } : Jvm.MethodName)).before a0 Z = true := hw _ (List.mem_of_getElem? (i := 208) rfl)
theorem w209 {Z a0} (hw : HW Z a0) : (Jvm.Cond.instanceMethod ({ cls := nm1, name := "lineWithTerminator", desc := "(Ljava/lang/String;JI)V" } : Jvm.MethodName)).before a0 Z = true := hw _ (List.mem_of_getElem? (i := 209) rfl)
theorem w210 {Z a0} (hw : HW Z a0) : (Jvm.Cond.selects nm1 ({ cls := nm1, name := "lineWithTerminator", desc := "(Ljava/lang/String;JI)V" } : Jvm.MethodName) ({ cls := nm1, name := "lineWithTerminator", desc := "(Ljava/lang/String;JI)V" } : Jvm.MethodName)).before a0 Z = true := hw _ (List.mem_of_getElem? (i := 210) rfl)
theorem w211 {Z a0} (hw : HW Z a0) : (Jvm.Cond.code ({ cls := nm1, name := "lineWithTerminator", desc := "(Ljava/lang/String;JI)V" } : Jvm.MethodName) prog_15_method_7_code (5 : Nat) (Option.none : Option Jvm.ClassFile.FieldType)).before a0 Z = true := hw _ (List.mem_of_getElem? (i := 211) rfl)
theorem own_in : ∀ a ∈ Bundle.stringAtoms, a ∈ tables_1 := by decide +kernel
theorem own_atoms {Z : State} {a0 : Array Value} (hw : HW Z a0) : ∀ a ∈ Bundle.stringAtoms, a.before a0 Z = true := fun a ha => hw a (own_in a ha)
theorem own_len {s : State} {args : Array Value} {t : Term} {a : Addr} {cl : Cell} {ty : FieldType} {n : Int32} (ev : t.eval args s none [] s = some (rr a)) (A : Arr s s.heap a cl ty) (h : (Term.length t).eval args s none [] s = some (.int n)) : cl.slots.size < 2 ^ 31 ∧ cl.slots.size.toInt32 = n := by
 have ha : s.arrayAt? a = some cl := A.fin (Vm.Alike.refl _)
 have hl := SBG.length_lt ev ha h
 rw [len_f ev ha hl] at h
 exact ⟨hl, by simpa using h⟩
theorem own_fin (x : Int32) : ∃ k : Fin 256, (x &&& 255) = Int32.ofNat k.val := by
 have h : (x &&& 255).toBitVec.toNat < 256 := by
  simp only [Int32.toBitVec_and, BitVec.toNat_and]
  exact Nat.lt_succ_of_le Nat.and_le_right
 refine ⟨⟨_, h⟩, ?_⟩
 apply Int32.toBitVec_inj.mp
 show _ = BitVec.ofNat 32 _
 rw [BitVec.ofNat_toNat]; simp
theorem own_small (x : Int32) : ¬ ((255 : Int32) < (nar .char ((x &&& (255 : Int32)).toUInt32.toUInt16.toUInt32.toInt32))) := by
 have t : ∀ k : Fin 256, ¬ ((255 : Int32) < (nar .char ((Int32.ofNat k.val).toUInt32.toUInt16.toUInt32.toInt32))) := by decide +kernel
 obtain ⟨k, e⟩ := own_fin x
 rw [e]; exact t k
theorem own_cc (x : Int32) : nar .char (x.toUInt32.toUInt16.toUInt32.toInt32) = x.toUInt32.toUInt16.toUInt32.toInt32 := by
 show (x.toUInt32.toUInt16.toUInt32.toInt32).toUInt32.toUInt16.toUInt32.toInt32 = _
 have e : ∀ u : UInt16, u.toUInt32.toInt32.toUInt32.toUInt16 = u := fun u => by simp
 rw [e]
theorem own_bits {x : Int32} (h : nar .char x = x) : x.toBitVec.toNat < 65536 := by
 have e : x.toBitVec = ((x.toUInt32.toUInt16).toUInt32.toInt32).toBitVec := congrArg Int32.toBitVec h.symm
 have q := (x.toUInt32.toUInt16).toNat_lt
 have e2 : (((x.toUInt32.toUInt16).toUInt32.toInt32).toBitVec).toNat = (x.toUInt32.toUInt16).toNat := by
  show ((x.toUInt32.toUInt16).toUInt32).toNat = _
  simp
 rw [e, e2]; exact q
theorem own_chL {x : Int32} (h : nar .char x = x) (h2 : ¬ ((255 : Int32) < x)) : (nar .char (((nar .byte (x.toInt8.toInt32)) &&& (255 : Int32)).toUInt32.toUInt16.toUInt32.toInt32)) = x := by
 have t : ∀ k : Fin 256, (nar .char (((nar .byte ((Int32.ofNat k.val).toInt8.toInt32)) &&& (255 : Int32)).toUInt32.toUInt16.toUInt32.toInt32)) = Int32.ofNat k.val := by decide +kernel
 have q := own_bits h
 have q2 : x.toBitVec.toNat < 256 := by
  rcases Nat.lt_or_ge x.toBitVec.toNat 256 with r | r
  ·exact r
  ·exfalso; apply h2
   rw [Int32.lt_iff_toInt_lt]
   have e1 : (255 : Int32).toInt = 255 := by decide
   have e3 : x.toInt = x.toBitVec.toNat := by
    show x.toBitVec.toInt = _
    rw [BitVec.toInt_eq_toNat_cond, if_pos (by omega)]
   rw [e1, e3]; omega
 have e : x = Int32.ofNat x.toBitVec.toNat := by
  apply Int32.toBitVec_inj.mp
  show _ = BitVec.ofNat 32 _
  rw [BitVec.ofNat_toNat]; simp
 rw [e]; exact t ⟨_, q2⟩
theorem own_mask (x : Int32) : (x.toInt8.toInt32) &&& (255 : Int32) = x &&& (255 : Int32) := by
 apply Int32.toBitVec_inj.mp
 simp only [Int32.toBitVec_and, Int8.toBitVec_toInt32, Int32.toBitVec_toInt8]
 ext i hi
 have hd : ∀ j, j < 32 → 8 ≤ j → (255#32).getLsbD j = false := by decide
 simp only [BitVec.getElem_and]
 by_cases h8 : i < 8
 ·simp [BitVec.getElem_signExtend, h8, hi]
 ·have := hd i hi (by omega)
  rw [BitVec.getLsbD_eq_getElem hi] at this
  show (_ && (255#32)[i]) = (_ && (255#32)[i])
  rw [this]; simp

theorem own_selp {Z s : State} {a0 args : Array Value} {y : MethodName} {k : Nat} (hZ : Z.Warmed39 s.vm) (wi : (Jvm.Cond.instantiable y.cls k).before a0 Z = true) (wp : (Jvm.Cond.privateMethod y).before a0 Z = true) (wm : (Jvm.Cond.instanceMethod y).before a0 Z = true) (hy : y.cls ≠ "java/lang/invoke/MethodHandle" ∧ y.cls ≠ "java/lang/invoke/VarHandle") : (Jvm.Cond.selects y.cls y y).before args s = true := by
 obtain ⟨c, k, h1, h2, -, h4, -⟩ := Jvm.Cond.instantiable_spec (mv (args := args) hZ wi)
 exact selects_self_of_private h1 h2 (by simp only [Bool.or_eq_false_iff] at h4; exact h4.1) (Jvm.Cond.privateMethod_at (mvP hZ wp (args := #[]))) (mv hZ wm) hy
theorem kpriv {p : Program} {l : Launch} {e : Env} {R : Room} {s : State} {m : MethodId} {args : Array Value} {below : List Frame} {meth : Method} {c : Code} {T : State} {locs : List Loc} {cells slots : Nat} {Z : State} {a0 : Array Value} {h : Heap} {st0 : State} {g : JFrame} {y : MethodName} {bytes : ByteArray} {ml : Nat} {rt : Option FieldType} {rm : Room} {as' : Array Value} {Q : Option Value → Heap → List Loc → Prop}
  (X : Stand p l e R s m args below meth c T locs cells slots) (hx : p.tables.exec = Jvm.exec) (hZ : Z.Warmed39 s.vm) {own C : String} {index kI : Nat} (hown : s.vm.findClass own = some m.cls) (w1 : (Jvm.Cond.methodLink own index y).before a0 Z = true) (wi : (Jvm.Cond.instantiable y.cls kI).before a0 Z = true) (wp : (Jvm.Cond.privateMethod y).before a0 Z = true) (w4 : (Jvm.Cond.instanceMethod y).before a0 Z = true) (w5 : (Jvm.Cond.code y bytes ml rt).before a0 Z = true) (w6 : (Jvm.Cond.initialized y.cls).before a0 Z = true) (hM : MFP l Z y bytes ml rt rm [] as' h Q) (eT : T.heap = h) {b : Addr} (E : Exa Z h b C) (k : Kt p e below T st0 g) {M : Nat} (hml : c.maxLocals = M) {ps : List FieldType} {r : Option FieldType} (pd : parseMethodDescriptor y.desc = some ⟨ps, r⟩) (argsL rest : List Value) (W : Nat) (hd : decode c.code g.pc = .ok (.invokevirtual index, 3))
  (hg : g.method = m) (hsize : g.locals.size = M) (hln : argsL.length = ps.length) (hst : g.stack = argsL.reverse ++ .ref b :: rest) (ha : (Value.ref b :: argsL).toArray = as') (hW : 2 * g.monitorRoom + (rest.map fun v => v.category).sum = W) (hy : y.cls ≠ "java/lang/invoke/MethodHandle" ∧ y.cls ≠ "java/lang/invoke/VarHandle" := by decide) (hf : rm.frames + 1 ≤ R.frames := by decide) (hl : W + (ml + 11) + rm.locals ≤ R.locals := by decide) (hc : cells + rm.cells ≤ R.cells := by decide) (hs : slots + rm.slots ≤ R.slots := by decide) :
  ∃ v T' L', Stand p l e R s m args below meth c T' (locs ++ L') (cells + rm.cells) (slots + rm.slots) ∧ Q v T'.heap L' ∧ Kt p e below T' st0 { g with pc := g.pc + 3, stack := v.toList ++ rest } := by
 obtain ⟨cq, qa, qb⟩ := E.cell
 obtain ⟨v, _, ⟨T', L, k', n'⟩, -, X', ⟨Lc, hQ, e1, e2, e3⟩, st⟩ := X.privateBack hx hown (mvT hZ w1) (mvT hZ w4) (own_selp hZ wi wp w4 hy) (Jvm.Cond.privateMethod_at (mvP hZ wp (args := #[]))) (mvT hZ w5) hy (backOf (W := W) hM hZ w5 w6 hf hl) hg (hsize.trans hml.symm) (Steps.refl _) (a := b) (by rw [eT]; exact qa) qb (argsL := argsL) (rest := rest) (lenOf pd hln) hst (Nat.le_of_eq hW) hd (fun _ _ => ⟨ha, eT, hc, hs⟩)
 dsimp only [Pt.U, Pt.locs, Pt.cells, Pt.slots] at X' e1 e2 e3 st hQ
 subst e1 e2 e3
 exact ⟨v, T', Lc, X', hQ, fun t q => k t (st.trans q)⟩
section KW
variable {p : Program} {l : Launch} {e : Env} {R : Room} {s : State} {vm0 : Vm} {m : MethodId} {args : Array Value} {below : List Frame} {meth : Method} {c : Code} {T : State} {locs : List Loc} {cells slots : Nat} {Z : State} {a0 : Array Value} {h : Heap} {st0 : State} {g : JFrame} {y : MethodName} {bytes : ByteArray} {ml : Nat} {rt : Option FieldType} {rm : Room} {as' : Array Value} {Q : Option Value → Heap → List Loc → Prop}
theorem kstatB (X : Stand p l e R (s.setVm vm0) m args below meth c T locs cells slots) (hx : p.tables.exec = Jvm.exec) (hZ : Z.Warmed39 vm0) {own : String} {index : Nat} (hown : vm0.findClass own = some m.cls) {k0 : Nat} (hS : s.Since vm0 k0) (hk : k0 ≤ h.size) (w1 : (Jvm.Cond.methodLink own index y).before a0 Z = true) (w2 : (Jvm.Cond.static y).before a0 Z = true) (w3 : (Jvm.Cond.initialized y.cls).before a0 Z = true) (w4 : (Jvm.Cond.code y bytes ml rt).before a0 Z = true) {W : Nat} (hB : BackS l R p e below (s.setVm vm0) args y 3 W (fun A a => a = as' ∧ A.U.heap = h ∧ A.cells + rm.cells ≤ R.cells ∧ A.slots + rm.slots ≤ R.slots) (fun A _ v B => ∃ L, Q v B.U.heap L ∧ B.locs = A.locs ++ L ∧ B.cells = A.cells + rm.cells ∧ B.slots = A.slots + rm.slots)) (eT : T.heap = h) (k : Kt p e below T st0 g) {M : Nat} (hml : c.maxLocals = M) {ps : List FieldType} {r : Option FieldType} (pd : parseMethodDescriptor y.desc = some ⟨ps, r⟩) (argsL rest : List Value) (hd : decode c.code g.pc = .ok (.invokestatic index, 3))
  (hg : g.method = m) (hsize : g.locals.size = M) (hln : argsL.length = ps.length) (hst : g.stack = argsL.reverse ++ rest) (ha : argsL.toArray = as') (hW : 2 * g.monitorRoom + (rest.map fun v => v.category).sum = W) (hy : y.cls ≠ "java/lang/invoke/MethodHandle" ∧ y.cls ≠ "java/lang/invoke/VarHandle" := by decide) (hc : cells + rm.cells ≤ R.cells := by decide) (hs : slots + rm.slots ≤ R.slots := by decide) :
  ∃ v T' L', Stand p l e R (s.setVm T'.vm) m args below meth c T' (locs ++ L') (cells + rm.cells) (slots + rm.slots) ∧ Q v T'.heap L' ∧ s.Since T'.vm T'.heap.size ∧ Z.Warmed39 T'.vm ∧ T'.vm.findClass own = some m.cls ∧ Kt p e below T' st0 { g with pc := g.pc + 3, stack := v.toList ++ rest } := by
 obtain ⟨v, _, ⟨T', L, k', n'⟩, -, X', hS', hg', ⟨Lc, hQ, e1, e2, e3⟩, st⟩ := callSS X hx hown (mvT (s := s.setVm vm0) hZ w1) (mvT (s := s.setVm vm0) hZ w2) (mvT (s := s.setVm vm0) hZ w3) (mvT (s := s.setVm vm0) hZ w4) hy hB hg (hsize.trans hml.symm) (argsL := argsL) (rest := rest) (lenOf pd hln) hst (Nat.le_of_eq hW) hd (fun _ _ => ⟨ha, eT, hc, hs⟩)
 dsimp only [Pt.U, Pt.locs, Pt.cells, Pt.slots] at X' hS' hg' e1 e2 e3 st hQ
 subst e1 e2 e3
 obtain ⟨X2, hS2, hZ2, ho2⟩ := rebS hS (by rw [eT]; exact hk) X' hS' hg' hZ hown
 exact ⟨v, T', Lc, X2, hQ, hS2, hZ2, ho2, fun t q => k t (st.trans q)⟩
theorem kspecB (X : Stand p l e R (s.setVm vm0) m args below meth c T locs cells slots) (hx : p.tables.exec = Jvm.exec) (hZ : Z.Warmed39 vm0) {own : String} {index : Nat} (hown : vm0.findClass own = some m.cls) {k0 : Nat} (hS : s.Since vm0 k0) (hk : k0 ≤ h.size) (w1 : (Jvm.Cond.methodLink own index y).before a0 Z = true) (w2 : (Jvm.Cond.instanceMethod y).before a0 Z = true) (w4 : (Jvm.Cond.code y bytes ml none).before a0 Z = true) {W : Nat} (hB : BackS l R p e below (s.setVm vm0) args y 3 W (fun A a => a = as' ∧ A.U.heap = h ∧ A.cells + rm.cells ≤ R.cells ∧ A.slots + rm.slots ≤ R.slots) (fun A _ v B => ∃ L, Q v B.U.heap L ∧ B.locs = A.locs ++ L ∧ B.cells = A.cells + rm.cells ∧ B.slots = A.slots + rm.slots)) (eT : T.heap = h) (k : Kt p e below T st0 g) {M : Nat} (hml : c.maxLocals = M) {ps : List FieldType} {r : Option FieldType} (pd : parseMethodDescriptor y.desc = some ⟨ps, r⟩) (a : Addr) (argsL rest : List Value) (hd : decode c.code g.pc = .ok (.invokespecial index, 3))
  (hg : g.method = m) (hsize : g.locals.size = M) (hln : argsL.length = ps.length) (hst : g.stack = argsL.reverse ++ .ref a :: rest) (ha : (Value.ref a :: argsL).toArray = as') (hW : 2 * g.monitorRoom + (rest.map fun v => v.category).sum = W) (hy1 : y.name = "<init>" := by rfl) (hy : y.cls ≠ "java/lang/invoke/MethodHandle" ∧ y.cls ≠ "java/lang/invoke/VarHandle" := by decide) (hc : cells + rm.cells ≤ R.cells := by decide) (hs : slots + rm.slots ≤ R.slots := by decide) :
  ∃ v T' L', Stand p l e R (s.setVm T'.vm) m args below meth c T' (locs ++ L') (cells + rm.cells) (slots + rm.slots) ∧ Q v T'.heap L' ∧ s.Since T'.vm T'.heap.size ∧ Z.Warmed39 T'.vm ∧ T'.vm.findClass own = some m.cls ∧ Kt p e below T' st0 { g with pc := g.pc + 3, stack := v.toList ++ rest } := by
 obtain ⟨v, _, ⟨T', L, k', n'⟩, -, X', hS', hg', ⟨Lc, hQ, e1, e2, e3⟩, st⟩ := X.specialBackS hx hy1 hown (mvT (s := s.setVm vm0) hZ w1) (mvT (s := s.setVm vm0) hZ w2) (mvT (s := s.setVm vm0) hZ w4) hy hB hg (hsize.trans hml.symm) (Steps.refl _) (a := a) (argsL := argsL) (rest := rest) (lenOf pd hln) hst (Nat.le_of_eq hW) hd (fun _ _ => ⟨ha, eT, hc, hs⟩)
 dsimp only [Pt.U, Pt.locs, Pt.cells, Pt.slots] at X' hS' hg' e1 e2 e3 st hQ
 subst e1 e2 e3
 obtain ⟨X2, hS2, hZ2, ho2⟩ := rebS hS (by rw [eT]; exact hk) X' hS' hg' hZ hown
 exact ⟨v, T', Lc, X2, hQ, hS2, hZ2, ho2, fun t q => k t (st.trans q)⟩
theorem kldc (X : Stand p l e R (s.setVm vm0) m args below meth c T locs cells slots) (hx : p.tables.exec = Jvm.exec) (hZ : Z.Warmed39 vm0) {own text : String} {index : Nat} (hown : vm0.findClass own = some m.cls) {k0 : Nat} (hS : s.Since vm0 k0) (hk : k0 ≤ h.size) (w : (Jvm.Cond.stringLink own index text).before a0 Z = true) (wS : ∀ a ∈ Bundle.stringAtoms, a.before a0 Z = true) (eT : T.heap = h) (k : Kt p e below T st0 g) (n : Nat) (hd : decode c.code g.pc = .ok (.ldc index, 2)) (hg : g.method = m) (hn : 4 * text.toList.length ≤ n) (hbig : n ≤ 536870912) (hc : cells + 2 ≤ R.cells) (hl : slots + (n + 4) ≤ R.slots) {n0 : Nat} (O0 : Old Z n0 h) :
  ∃ (a : Addr) (T' : State) (h' : Heap) (k1 : Nat), Stand p l e R (s.setVm T'.vm) m args below meth c T' locs (cells + 2) (slots + (n + 4)) ∧ T'.heap = h' ∧ Ext h h' ∧ Old Z n0 h' ∧ s.Since T'.vm k1 ∧ k1 ≤ h'.size ∧ Z.Warmed39 T'.vm ∧ T'.vm.findClass own = some m.cls ∧ Kt p e below T' st0 { g with pc := g.pc + 2, stack := .ref a :: g.stack } := by
 obtain ⟨a, T', h', k1, X', e', E, hS', hk', hZ', ho', st⟩ := ldcS X hx hZ hown w wS eT hS hk hg hd hn hbig hc hl
 exact ⟨a, T', h', k1, X', e', E, O0.ext E, hS', hk', hZ', ho', fun t q => k t (st t q)⟩
theorem kldcV (X : Stand p l e R (s.setVm s.vm) m args below meth c T [] cells slots) (hx : p.tables.exec = Jvm.exec) (hZ : Z.Warmed39 s.vm) {own text : String} {index : Nat} (hown : s.vm.findClass own = some m.cls) (w : (Jvm.Cond.stringLink own index text).before a0 Z = true) (wS : ∀ a ∈ Bundle.stringAtoms, a.before a0 Z = true) (eT : T.heap = h) (k : Kt p e below T st0 g) (n : Nat) (hd : decode c.code g.pc = .ok (.ldc index, 2)) (hg : g.method = m) {h0 : Heap} (hh : s.heap = h0) {n0 : Nat} (Oh : Old Z n0 h0) (hI : s.vm.interned = Z.vm.interned) (hlit : Jvm.Lit.constHeld Z own index) (hcw : Jvm.Lit.compactW.before a0 Z = true) {vs : List Value} {z : Int32} (ht : (∀ c ∈ text.toList, c.toNat < 256) ∧ text.toList.map (fun c => Value.int (Jvm.Lit.byteI c.toNat.toUInt16)) = vs) (hz : ¬ z < 0) (hl : z.toNatClampNeg = vs.length) (hn : 4 * text.toList.length ≤ n) (hbig : n ≤ 536870912) (hc : cells + 2 ≤ R.cells) (hl' : slots + (n + 4) ≤ R.slots) (O0 : Old Z n0 h) :
  ∃ (a : Addr) (T' : State) (h' : Heap) (k1 : Nat) (b : Addr) (kb : ClassId), Stand p l e R (s.setVm T'.vm) m args below meth c T' [] (cells + 2) (slots + (n + 4)) ∧ T'.heap = h' ∧ Ext h h' ∧ Old Z n0 h' ∧ s.Since T'.vm k1 ∧ k1 ≤ h'.size ∧ Z.Warmed39 T'.vm ∧ T'.vm.findClass own = some m.cls ∧ Exa Z h' a nm0 ∧ Fld Z h' a nm0 "coder" "B" (.int 0) ∧ Fld Z h' a nm0 "value" "[B" (rr b) ∧ Arv Z h' b kb .byte z vs (.int 0) ∧ Lit (s.setVm T'.vm) own index a ∧ Kt p e below T' st0 { g with pc := g.pc + 2, stack := .ref a :: g.stack } := by
 have hib : IB Z s.vm [] := ⟨#[], by rw [hI]; simp, fun q hq => by simp at hq⟩
 obtain ⟨a, T', h', k1, b, kb, X', e', E, hS', hk', hZ', ho', f1, f2, f3, f4, -, -, -, L, st⟩ := ldcSVL X hx hZ hown w wS eT ((State.WarmedH.refl s).since 0) (Nat.zero_le _) (Fr.nil _) (fun b cl q => by rw [hh]; exact Oh.2.2 b cl q) hib (by simp) hlit hcw ht hz hl hg hd hn hbig hc hl'
 exact ⟨a, T', h', k1, b, kb, X', e', E, O0.ext E, hS', hk', hZ', ho', f1, f2, f3, f4, L, fun t q => k t (st t q)⟩
theorem backOfSI {len W : Nat}
  (hM : MFI l Z y bytes ml rt rm [] as' h Q) (hZ : Z.Warmed39 vm0) (hI : vm0.interned = Z.vm.interned) (wc : (Jvm.Cond.code y bytes ml rt).before a0 Z = true) (wz : (Jvm.Cond.initialized y.cls).before a0 Z = true) (hf : rm.frames + 1 ≤ R.frames) (hl : W + (ml + 11) + rm.locals ≤ R.locals) :
  BackS l R p e below (s.setVm vm0) args y len W (fun A a => a = as' ∧ A.U.heap = h ∧ A.cells + rm.cells ≤ R.cells ∧ A.slots + rm.slots ≤ R.slots)
   (fun A _ v B => ∃ L, Q v B.U.heap L ∧ B.locs = A.locs ++ L ∧ B.cells = A.cells + rm.cells ∧ B.slots = A.slots + rm.slots) :=
 BackS.of_freeW (bytes := bytes) (maxL := ml) (ret := rt) (E := fun _ _ o t L k n => k = rm.cells ∧ n = rm.slots ∧ ∃ v, o = .returned v ∧ Q v t.heap L) hM hf hl
  (fun m meth c A a Y hp => have hU : Z.Warmed39 A.U.vm := wtrans (s := s.setVm vm0) hZ Y.warmed
   ⟨by show (Jvm.Cond.and _ .tt).before a A.U = true; rw [Jvm.Cond.before_and, mv hU wc]; rfl, mv hU wc, mv hU wz, hp.2.2.1, hp.2.2.2⟩)
  (fun m meth c A a g mk Y hp => ⟨hp.1, wtrans (s := s.setVm vm0) hZ Y.warmed, hp.2.1, Y.warmed.interned_eq.trans hI⟩) (fun _ _ _ _ _ _ _ _ _ => trivial)
  (fun _ _ _ _ ⟨v, L, h1, h2, h3⟩ => ⟨L, _, _, h3, rfl, rfl, v, h1, h2⟩)
  (fun m meth c A a g mk v t L k n Y hp _ _ ⟨e1, e2, v', e3, e4⟩ => by cases e3; subst e1 e2; exact ⟨L, e4, rfl, rfl, rfl⟩)
end KW
abbrev MFH (l : Launch) (Z : State) (EL : List (String × Nat)) (x : Addr) (y : MethodName) (bytes : ByteArray) (ml : Nat) (rt : Option FieldType) (rm : Room) (ws : List Jvm.Cond) (A : Array Value) (h0 : Heap) (Q : Option Value → Heap → List Loc → Prop) : Prop :=
 MetFree l y (head1 (Jvm.Cond.code y bytes ml rt :: ws) rm) (fun a U => a = A ∧ Z.Warmed39 U.vm ∧ U.heap = h0 ∧ CHv Z EL U.vm h0 ∧ Safe Z EL U.vm h0 x) (fun _ _ _ _ _ => True) (fun _ U o U' => ∃ v L, o = .returned v ∧ Q v U'.heap L ∧ CHr Z EL U.vm U.heap U'.vm U'.heap ∧ ReturnedEndW U o U' L rm.cells rm.slots)
abbrev MFL (l : Launch) (Z : State) (EL : List (String × Nat)) (y : MethodName) (bytes : ByteArray) (ml : Nat) (rt : Option FieldType) (rm : Room) (ws : List Jvm.Cond) (A : Array Value) (h0 : Heap) (Q : Option Value → Heap → List Loc → Prop) : Prop :=
 MetFree l y (head1 (Jvm.Cond.code y bytes ml rt :: ws) rm) (fun a U => a = A ∧ Z.Warmed39 U.vm ∧ U.heap = h0 ∧ CHv Z EL U.vm h0) (fun _ _ _ _ _ => True) (fun _ U o U' => ∃ v L, o = .returned v ∧ Q v U'.heap L ∧ ReturnedEndW U o U' L rm.cells rm.slots)
section KH
variable {p : Program} {l : Launch} {e : Env} {R : Room} {s : State} {vm0 vm : Vm} {m : MethodId} {args : Array Value} {below : List Frame} {meth : Method} {c : Code} {T : State} {locs : List Loc} {cells slots : Nat} {Z : State} {a0 : Array Value} {h h' : Heap} {st0 : State} {g : JFrame} {y : MethodName} {bytes : ByteArray} {ml : Nat} {rt : Option FieldType} {rm : Room} {as' : Array Value} {Q : Option Value → Heap → List Loc → Prop} {EL : List (String × Nat)} {x : Addr}
theorem own_sE (S : Safe Z EL vm h x) (H : CHv Z EL vm h) (E : Ext h h') : Safe Z EL vm h' x := fun B => S ((H.step fun _ _ _ q => E.2 _ _ q).2 x B)
theorem own_sW {a : Addr} {sl : Nat} {v : Value} (S : Safe Z EL vm h x) (H : CHv Z EL vm h) (W : Wr h h' a sl v) (Sa : Safe Z EL vm h a) : Safe Z EL vm h' x := fun B => S ((H.wrStep W Sa).2 x B)
theorem own_sK {ws : List Addr} (S : Safe Z EL vm h x) (H : CHv Z EL vm h) (K : Keep h h' ws) (hs : ∀ y ∈ ws, Safe Z EL vm h y) : Safe Z EL vm h' x := fun B => S ((H.keepStep K hs).2 x B)
theorem kldcH (X : Stand p l e R (s.setVm vm0) m args below meth c T locs cells slots) (hx : p.tables.exec = Jvm.exec) (hZ : Z.Warmed39 vm0) {own text : String} {index : Nat} (hown : vm0.findClass own = some m.cls) {k0 : Nat} (hS : s.Since vm0 k0) (hk : k0 ≤ h.size) (w : (Jvm.Cond.stringLink own index text).before a0 Z = true) (wS : ∀ a ∈ Bundle.stringAtoms, a.before a0 Z = true) (hEL : EW Z a0 EL) (hmem : (own, index) ∈ EL) (H : CHv Z EL vm0 h) (eT : T.heap = h) (k : Kt p e below T st0 g) (n : Nat) (hd : decode c.code g.pc = .ok (.ldc index, 2)) (hg : g.method = m) {vs : List Value} {z : Int32} (ht : (∀ c ∈ text.toList, c.toNat < 256) ∧ text.toList.map (fun c => Value.int (Jvm.Lit.byteI c.toNat.toUInt16)) = vs) (hz : ¬ z < 0) (hl : z.toNatClampNeg = vs.length) (hn : 4 * text.toList.length ≤ n) (hbig : n ≤ 536870912) (hc : cells + 2 ≤ R.cells) (hl' : slots + (n + 4) ≤ R.slots) {n0 : Nat} (O0 : Old Z n0 h) :
  ∃ (a : Addr) (T' : State) (h' : Heap) (k1 : Nat) (b : Addr) (kb : ClassId), Stand p l e R (s.setVm T'.vm) m args below meth c T' locs (cells + 2) (slots + (n + 4)) ∧ T'.heap = h' ∧ Ext h h' ∧ Old Z n0 h' ∧ s.Since T'.vm k1 ∧ k1 ≤ h'.size ∧ Z.Warmed39 T'.vm ∧ T'.vm.findClass own = some m.cls ∧ Exa Z h' a nm0 ∧ Fld Z h' a nm0 "coder" "B" (.int 0) ∧ Fld Z h' a nm0 "value" "[B" (rr b) ∧ Arv Z h' b kb .byte z vs (.int 0) ∧ Lit (s.setVm T'.vm) own index a ∧ CHr Z EL vm0 h T'.vm h' ∧ (∀ x, Safe Z EL T'.vm h' x → x ≠ a ∧ x ≠ b) ∧ Kt p e below T' st0 { g with pc := g.pc + 2, stack := .ref a :: g.stack } := by
 obtain ⟨a, T', h', k1, b, kb, X', e', E, hS', hk', hZ', ho', f1, f2, f3, f4, -, -, hC, L, hne, st⟩ := ldcCH X hx hZ hown w wS eT hS hk hEL hmem H ht hz hl hg hd hn hbig hc hl'
 exact ⟨a, T', h', k1, b, kb, X', e', E, O0.ext E, hS', hk', hZ', ho', f1, f2, f3, f4, L, hC, hne, fun t q => k t (st t q)⟩
theorem backOfSX {len W : Nat} (hM : MFH l Z EL x y bytes ml rt rm [] as' h Q) (hZ : Z.Warmed39 vm0) (wc : (Jvm.Cond.code y bytes ml rt).before a0 Z = true) (wz : (Jvm.Cond.initialized y.cls).before a0 Z = true) (hf : rm.frames + 1 ≤ R.frames) (hl : W + (ml + 11) + rm.locals ≤ R.locals) (hEL : EW Z a0 EL) (H : CHv Z EL vm0 h) (hx0 : x < h.size) (S : Safe Z EL vm0 h x) :
  BackS l R p e below (s.setVm vm0) args y len W (fun A a => a = as' ∧ A.U.heap = h ∧ A.cells + rm.cells ≤ R.cells ∧ A.slots + rm.slots ≤ R.slots)
   (fun A _ v B => ∃ L, Q v B.U.heap L ∧ B.locs = A.locs ++ L ∧ B.cells = A.cells + rm.cells ∧ B.slots = A.slots + rm.slots ∧ CHr Z EL vm0 h B.U.vm B.U.heap) :=
 BackS.of_freeW (bytes := bytes) (maxL := ml) (ret := rt) (E := fun _ first o t L k n => k = rm.cells ∧ n = rm.slots ∧ (∃ v, o = .returned v ∧ Q v t.heap L) ∧ CHr Z EL first.vm first.heap t.vm t.heap) hM hf hl
  (fun m meth c A a Y hp => have hU : Z.Warmed39 A.U.vm := wtrans (s := s.setVm vm0) hZ Y.warmed
   ⟨by show (Jvm.Cond.and _ .tt).before a A.U = true; rw [Jvm.Cond.before_and, mv hU wc]; rfl, mv hU wc, mv hU wz, hp.2.2.1, hp.2.2.2⟩)
  (fun m meth c A a g mk Y hp => ⟨hp.1, wtrans (s := s.setVm vm0) hZ Y.warmed, hp.2.1, (CHv.at Y hZ hEL H).1, (CHv.at Y hZ hEL H).safe hx0 S⟩) (fun _ _ _ _ _ _ _ _ _ => trivial)
  (fun _ _ _ _ ⟨v, L, h1, h2, h3, h4⟩ => ⟨L, _, _, h4, rfl, rfl, ⟨v, h1, h2⟩, h3⟩)
  (fun m meth c A a g mk v t L k n Y hp _ _ ⟨e1, e2, ⟨v', e3, e4⟩, e5⟩ => by
   cases e3; subst e1 e2
   refine ⟨L, e4, rfl, rfl, rfl, (CHv.at Y hZ hEL H).trans ?_⟩
   rw [← hp.2.1]; exact e5)
theorem kspecH (X : Stand p l e R (s.setVm vm0) m args below meth c T locs cells slots) (hx : p.tables.exec = Jvm.exec) (hZ : Z.Warmed39 vm0) {own : String} {index : Nat} (hown : vm0.findClass own = some m.cls) {k0 : Nat} (hS : s.Since vm0 k0) (hk : k0 ≤ h.size) (w1 : (Jvm.Cond.methodLink own index y).before a0 Z = true) (w2 : (Jvm.Cond.instanceMethod y).before a0 Z = true) (w4 : (Jvm.Cond.code y bytes ml none).before a0 Z = true) {W : Nat} (hB : BackS l R p e below (s.setVm vm0) args y 3 W (fun A a => a = as' ∧ A.U.heap = h ∧ A.cells + rm.cells ≤ R.cells ∧ A.slots + rm.slots ≤ R.slots) (fun A _ v B => ∃ L, Q v B.U.heap L ∧ B.locs = A.locs ++ L ∧ B.cells = A.cells + rm.cells ∧ B.slots = A.slots + rm.slots ∧ CHr Z EL vm0 h B.U.vm B.U.heap)) (eT : T.heap = h) (k : Kt p e below T st0 g) {M : Nat} (hml : c.maxLocals = M) {ps : List FieldType} {r : Option FieldType} (pd : parseMethodDescriptor y.desc = some ⟨ps, r⟩) (a : Addr) (argsL rest : List Value) (hd : decode c.code g.pc = .ok (.invokespecial index, 3))
  (hg : g.method = m) (hsize : g.locals.size = M) (hln : argsL.length = ps.length) (hst : g.stack = argsL.reverse ++ .ref a :: rest) (ha : (Value.ref a :: argsL).toArray = as') (hW : 2 * g.monitorRoom + (rest.map fun v => v.category).sum = W) (hy1 : y.name = "<init>" := by rfl) (hy : y.cls ≠ "java/lang/invoke/MethodHandle" ∧ y.cls ≠ "java/lang/invoke/VarHandle" := by decide) (hc : cells + rm.cells ≤ R.cells := by decide) (hs : slots + rm.slots ≤ R.slots := by decide) :
  ∃ v T' L', Stand p l e R (s.setVm T'.vm) m args below meth c T' (locs ++ L') (cells + rm.cells) (slots + rm.slots) ∧ Q v T'.heap L' ∧ s.Since T'.vm T'.heap.size ∧ Z.Warmed39 T'.vm ∧ T'.vm.findClass own = some m.cls ∧ CHr Z EL vm0 h T'.vm T'.heap ∧ Kt p e below T' st0 { g with pc := g.pc + 3, stack := v.toList ++ rest } := by
 obtain ⟨v, _, ⟨T', L, k', n'⟩, -, X', hS', hg', ⟨Lc, hQ, e1, e2, e3, e4⟩, st⟩ := X.specialBackS hx hy1 hown (mvT (s := s.setVm vm0) hZ w1) (mvT (s := s.setVm vm0) hZ w2) (mvT (s := s.setVm vm0) hZ w4) hy hB hg (hsize.trans hml.symm) (Steps.refl _) (a := a) (argsL := argsL) (rest := rest) (lenOf pd hln) hst (Nat.le_of_eq hW) hd (fun _ _ => ⟨ha, eT, hc, hs⟩)
 dsimp only [Pt.U, Pt.locs, Pt.cells, Pt.slots] at X' hS' hg' e1 e2 e3 e4 st hQ
 subst e1 e2 e3
 obtain ⟨X2, hS2, hZ2, ho2⟩ := rebS hS (by rw [eT]; exact hk) X' hS' hg' hZ hown
 exact ⟨v, T', Lc, X2, hQ, hS2, hZ2, ho2, e4, fun t q => k t (st.trans q)⟩
end KH
theorem kcopy {p : Program} {l : Launch} {e : Env} {R : Room} {s : State} {m : MethodId} {args : Array Value} {below : List Frame} {meth : Method} {c : Code} {T : State} {locs : List Loc} {cells slots : Nat} {Z : State} {a0 : Array Value} {h : Heap} {st0 : State} {g : JFrame} (X : Stand p l e R s m args below meth c T locs cells slots) (hx : p.tables.exec = Jvm.exec) (hZ : Z.Warmed39 s.vm) {own : String} {index : Nat} (hown : s.vm.findClass own = some m.cls)
  (w1 : (Jvm.Cond.methodLink own index Jvm.Stand.acN).before a0 Z = true) (w2 : (Jvm.Cond.native Jvm.Stand.acN).before a0 Z = true) (w3 : (Jvm.Cond.static Jvm.Stand.acN).before a0 Z = true) (w4 : (Jvm.Cond.initialized "java/lang/System").before a0 Z = true) (eT : T.heap = h)
  {a b : Addr} {ka k' : ClassId} {ty : FieldType} {z z' sp dp nn : Int32} {vs vd : List Value} {dv dd : Value} (A : Arv Z h a ka ty z vs dv) (B : Arv Z h b k' ty z' vd dd) (hty : refKind ty = false)
  (h1 : ¬ sp < 0) (h2 : ¬ dp < 0) (h3 : ¬ nn < 0) (h4 : sp.toNatClampNeg + nn.toNatClampNeg ≤ z.toNatClampNeg) (h5 : dp.toNatClampNeg + nn.toNatClampNeg ≤ z'.toNatClampNeg) (hl : dp.toNatClampNeg + nn.toNatClampNeg ≤ vd.length) (k : Kt p e below T st0 g) (hg : g.method = m) {M : Nat} (hml : c.maxLocals = M) (hsize : g.locals.size = M) {rest : List Value} (hs : g.stack = .int nn :: .int dp :: .ref b :: .int sp :: .ref a :: rest) (hd : decode c.code g.pc = .ok (.invokestatic index, 3))
  (W : Nat) (hW : 2 * g.monitorRoom + (rest.map fun v => v.category).sum = W) (hf : 1 ≤ R.frames) (hlo : W + (nativeFrameWords "java/lang/System" "arraycopy" 5 + 11) ≤ R.locals) {n0 : Nat} (O0 : Old Z n0 h) (N : Fr n0 locs) (ge : n0 ≤ b) :
  ∃ T' h' L, Stand p l e R s m args below meth c T' L cells slots ∧ T'.heap = h' ∧ Keep h h' [b] ∧ Old Z n0 h' ∧ Fr n0 L ∧ Kt p e below T' st0 { g with pc := g.pc + 3, stack := rest } := by
 obtain ⟨T', h', L, X', e', N', K, -, st⟩ := cpA X hx hZ hown w1 w2 w3 w4 eT A B (Or.inl ⟨rfl, hty⟩) h1 h2 h3 h4 h5 rfl hl N ge hg (hsize.trans hml.symm) hs hd hf (Nat.le_of_eq hW) hlo
 exact ⟨T', h', L, X', e', K, O0.keep K (allS ge all0), N', fun t q => k t (st t q)⟩
theorem own_EW {Z : State} {a0 : Array Value} (hw : HW Z a0) : EW Z a0 consts_1 := (EW.cons (w99 hw) (by decide) (EW.cons (w14 hw) (by decide) EW.nil))
theorem own_and3 (x : Int32) : (x &&& (3 : Int32)) = 0 ∨ (x &&& (3 : Int32)) = 1 ∨ (x &&& (3 : Int32)) = 2 ∨ (x &&& (3 : Int32)) = 3 := by
 have h : (x &&& 3).toBitVec.toNat < 4 := by
  simp only [Int32.toBitVec_and, BitVec.toNat_and]
  exact Nat.lt_succ_of_le Nat.and_le_right
 have e : (x &&& 3) = Int32.ofNat (x &&& 3).toBitVec.toNat := by
  apply Int32.toBitVec_inj.mp
  show _ = BitVec.ofNat 32 _
  rw [BitVec.ofNat_toNat]; simp
 have t : ∀ k : Fin 4, Int32.ofNat k.val = 0 ∨ Int32.ofNat k.val = 1 ∨ Int32.ofNat k.val = 2 ∨ Int32.ofNat k.val = 3 := by decide +kernel
 rw [e]; exact t ⟨_, h⟩
theorem own_small2 (x : Int32) : ¬ ((255 : Int32) < ((x &&& (255 : Int32)).toUInt32.toUInt16.toUInt32.toInt32)) := by
 have t : ∀ k : Fin 256, ¬ ((255 : Int32) < ((Int32.ofNat k.val).toUInt32.toUInt16.toUInt32.toInt32)) := by decide +kernel
 obtain ⟨k, e⟩ := own_fin x
 rw [e]; exact t k
theorem own_neg (j : Int64) : ((-j) + j) = (0 : Int64) := by
 apply Int64.toBitVec_inj.mp
 simp [Int64.toBitVec_add, Int64.toBitVec_neg, BitVec.add_comm, BitVec.add_neg_eq_sub]
theorem pn_java_lang_StringUTF16 : plainName nm6 = true := by first | (simp [plainName, overriddenIn]; done) | decide +kernel
theorem d0_0 : decode jdk_52_method_21_code 0 = .ok (.iconst 0, 1) := by decide +kernel
theorem d0_1 : decode jdk_52_method_21_code 1 = .ok (.istore 5, 2) := by decide +kernel
theorem d0_3 : decode jdk_52_method_21_code 3 = .ok (.iload 5, 2) := by decide +kernel
theorem d0_5 : decode jdk_52_method_21_code 5 = .ok (.iload 4, 2) := by decide +kernel
theorem d0_7 : decode jdk_52_method_21_code 7 = .ok (.if_icmp .ge 37, 3) := by decide +kernel
theorem d0_10 : decode jdk_52_method_21_code 10 = .ok (.aload_n 0, 1) := by decide +kernel
theorem d0_11 : decode jdk_52_method_21_code 11 = .ok (.iload_n 1, 1) := by decide +kernel
theorem d0_12 : decode jdk_52_method_21_code 12 = .ok (.caload, 1) := by decide +kernel
theorem d0_13 : decode jdk_52_method_21_code 13 = .ok (.istore 6, 2) := by decide +kernel
theorem d0_15 : decode jdk_52_method_21_code 15 = .ok (.iload 6, 2) := by decide +kernel
theorem d0_17 : decode jdk_52_method_21_code 17 = .ok (.sipush 255, 3) := by decide +kernel
theorem d0_20 : decode jdk_52_method_21_code 20 = .ok (.if_icmp .le 6, 3) := by decide +kernel
theorem d0_26 : decode jdk_52_method_21_code 26 = .ok (.aload_n 2, 1) := by decide +kernel
theorem d0_27 : decode jdk_52_method_21_code 27 = .ok (.iload_n 3, 1) := by decide +kernel
theorem d0_28 : decode jdk_52_method_21_code 28 = .ok (.iload 6, 2) := by decide +kernel
theorem d0_30 : decode jdk_52_method_21_code 30 = .ok (.i2b, 1) := by decide +kernel
theorem d0_31 : decode jdk_52_method_21_code 31 = .ok (.bastore, 1) := by decide +kernel
theorem d0_32 : decode jdk_52_method_21_code 32 = .ok (.iinc 1 1, 3) := by decide +kernel
theorem d0_35 : decode jdk_52_method_21_code 35 = .ok (.iinc 3 1, 3) := by decide +kernel
theorem d0_38 : decode jdk_52_method_21_code 38 = .ok (.iinc 5 1, 3) := by decide +kernel
theorem d0_41 : decode jdk_52_method_21_code 41 = .ok (.goto (-38), 3) := by decide +kernel
theorem d0_44 : decode jdk_52_method_21_code 44 = .ok (.iload 4, 2) := by decide +kernel
theorem d0_46 : decode jdk_52_method_21_code 46 = .ok (.ireturn, 1) := by decide +kernel
theorem ef_cmp5_1 (m : MethodId) (s_ : Addr) (d_ : Addr) : entryFrame m #[(rr s_), (ii 0), (rr d_), (ii 0), (ii 1)] 7 = mkF m 0 #[vr s_, vi 0, vr d_, vi 0, vi 1, u_, u_] [] := by first | (simp [entryFrame, mkF, argsToLocals, Value.category]; done) | rfl
def Q_cmp5_1 (Z : State) (s_ : Addr) (ks_ : ClassId) (d_ : Addr) (kd_ : ClassId) (c0_ : Int32) (h0 : Heap) (n0 : Nat) (v : Option Value) (h : Heap) (L : List Loc) : Prop := v = some (ii 1) ∧ Fr n0 L ∧ Keep h0 h [d_] ∧ Arv Z h d_ kd_ .byte (1 : Int32) [(.int (nar .byte (c0_.toInt8.toInt32)))] (ii 0)
set_option maxRecDepth 65536 in
set_option maxHeartbeats 40000000 in
theorem rm_cmp5_1 (l : Launch) (Z : State) (a0 : Array Value) (hw : HW Z a0) (ws : List Jvm.Cond) (s_ : Addr) (ks_ : ClassId) (d_ : Addr) (kd_ : ClassId) (c0_ : Int32) (h0 : Heap) (n0 : Nat) (O0 : Old Z n0 h0) (A0_ : Arv Z h0 s_ ks_ .char (1 : Int32) [(.int c0_)] (ii 0)) (A1_ : Arv Z h0 d_ kd_ .byte (1 : Int32) [(ii 0)] (ii 0)) (G2_ : n0 ≤ d_) (NE3_ : s_ ≠ d_) (hs0_ : ¬ ((255 : Int32) < c0_)) :
  MFP l Z (⟨nm6, "compress", "([CI[BII)I"⟩ : MethodName) jdk_52_method_21_code 7 (some .int) ({ frames := 0, cells := 0, slots := 0, locals := 0 } : Room) ws #[(rr s_), (ii 0), (rr d_), (ii 0), (ii 1)] h0 (Q_cmp5_1 Z s_ ks_ d_ kd_ c0_ h0 n0) := by
 refine MetFree.of_bodySF (plainFor_of_name pn_java_lang_StringUTF16) hisR ?_
 intro p e s m args below meth c s₁ Bd hml0 hP hK
 obtain ⟨rfl, hZ, hh⟩ := hP
 have hx := Bd.exec
 have hby := Bd.bytes
 have hml : c.maxLocals = 7 := hml0
 have hown : s.vm.findClass nm6 = some m.cls := findClass_of_methodNamed Bd.named
 have hnm := (name_of_methodNamed Bd.named Bd.method).1
 have X0 : Stand p l e ({ frames := 0, cells := 0, slots := 0, locals := 0 } : Room) s m #[(rr s_), (ii 0), (rr d_), (ii 0), (ii 1)] below meth c s₁ [] 0 0 := Stand.of_body Bd
 have e0 : s₁.heap = h0 := by rw [← hh, Bd.state]; rfl
 have N0 := Fr.nil n0
 have kp0 : Keep h0 h0 [d_] := Keep.refl _ _
 have c0 : ∀ t, S_ p e below s₁ m 0 #[vr s_, vi 0, vr d_, vi 0, vi 1, u_, u_] [] t → Steps p.tables e below (s₁.setTop (entryFrame m #[(rr s_), (ii 0), (rr d_), (ii 0), (ii 1)] 7)) t := fun t k => castTop (ef_cmp5_1 m s_ d_) k
 generalize s₁.setTop (entryFrame m #[(rr s_), (ii 0), (rr d_), (ii 0), (ii 1)] 7) = st0 at c0 ⊢
 replace c0 : Kt p e below s₁ st0 (mkF m 0 #[vr s_, vi 0, vr d_, vi 0, vi 1, u_, u_] []) := c0
 have c1 : Kt p e below s₁ st0 (mkF m 31 #[vr s_, vi 0, vr d_, vi 0, vi 1, vi 0, vi c0_] [(.int (c0_.toInt8.toInt32)), (ii 0), (rr d_)]) := fun t k => by
  refine c0 t ?_
  show S_ p e below s₁ m 0 #[vr s_, vi 0, vr d_, vi 0, vi 1, u_, u_] [] t
  refine XS.iconst X0.here hx rfl (hb hby d0_0) ?_
  refine XS.istore X0.here hx rfl (hb hby d0_1) rfl (l' := #[vr s_, vi 0, vr d_, vi 0, vi 1, vi 0, u_]) rfl ?_
  refine XS.iload X0.here hx rfl (hb hby d0_3) rfl ?_
  refine XS.iload X0.here hx rfl (hb hby d0_5) rfl ?_
  show S_ p e below s₁ m 7 #[vr s_, vi 0, vr d_, vi 0, vi 1, vi 0, u_] [(ii 1), (ii 0)] t
  refine XS.icmpNo X0.here hx rfl (hb hby d0_7) rfl rfl ?_
  refine XS.aloadN X0.here hx rfl (hb hby d0_10) rfl rfl ?_
  refine XS.iloadN X0.here hx rfl (hb hby d0_11) rfl ?_
  refine ldC X0 hx hZ e0 A0_ (v := (.int c0_)) (by decide) (by decide) rfl rfl rfl (hb hby d0_12) ?_
  show S_ p e below s₁ m 13 #[vr s_, vi 0, vr d_, vi 0, vi 1, vi 0, u_] [(.int c0_)] t
  refine XS.istore X0.here hx rfl (hb hby d0_13) rfl (l' := #[vr s_, vi 0, vr d_, vi 0, vi 1, vi 0, vi c0_]) rfl ?_
  refine XS.iload X0.here hx rfl (hb hby d0_15) rfl ?_
  refine XS.sipush X0.here hx rfl (hb hby d0_17) ?_
  refine yC X0.here hx rfl 20 26 rfl (hb hby d0_20) rfl (flt hs0_).2.2.2 ?_
  show S_ p e below s₁ m 26 #[vr s_, vi 0, vr d_, vi 0, vi 1, vi 0, vi c0_] [] t
  refine XS.aloadN X0.here hx rfl (hb hby d0_26) rfl rfl ?_
  refine XS.iloadN X0.here hx rfl (hb hby d0_27) rfl ?_
  refine XS.iload X0.here hx rfl (hb hby d0_28) rfl ?_
  refine XS.i2b X0.here hx rfl (hb hby d0_30) rfl ?_
  exact k
 obtain ⟨T2, h2, X2, e2, W2, f5, o3, N4, c2⟩ := kstB X0 hx hZ e0 A1_ (j := (0 : Int32)) (by decide) (by decide) 0 rfl (Nat.le_of_ble_eq_true rfl) c1 rfl rfl (hb hby d0_31) O0 N0 G2_
 have f6 : Arv Z h2 d_ kd_ .byte (1 : Int32) [(.int (nar .byte (c0_.toInt8.toInt32)))] (ii 0) := f5
 have kp7 := kp0.wr W2 (Or.inl (List.mem_of_getElem? (i := 0) rfl))
 obtain ⟨fs, hr, hrun, hended, hW, hsame⟩ := X2.leave (v := some (ii 1)) (fun h => by rw [Bd.returns] at h; cases h)
 refine ⟨_, _, c2 _ ?_, hrun, hended, _, _, rfl, ?_, ⟨_, rfl⟩, hW, hsame.mono (by decide) (by decide)⟩
 ·show S_ p e below T2 m 32 #[vr s_, vi 0, vr d_, vi 0, vi 1, vi 0, vi c0_] [] _
  refine XS.iinc X2.here hx rfl (hb hby d0_32) rfl (l' := #[vr s_, vi 1, vr d_, vi 0, vi 1, vi 0, vi c0_]) rfl ?_
  refine XS.iinc X2.here hx rfl (hb hby d0_35) rfl (l' := #[vr s_, vi 1, vr d_, vi 1, vi 1, vi 0, vi c0_]) rfl ?_
  refine XS.iinc X2.here hx rfl (hb hby d0_38) rfl (l' := #[vr s_, vi 1, vr d_, vi 1, vi 1, vi 1, vi c0_]) rfl ?_
  refine yG X2.here hx rfl 41 3 rfl (hb hby d0_41) ?_
  show S_ p e below T2 m 3 #[vr s_, vi 1, vr d_, vi 1, vi 1, vi 1, vi c0_] [] _
  refine XS.iload X2.here hx rfl (hb hby d0_3) rfl ?_
  refine XS.iload X2.here hx rfl (hb hby d0_5) rfl ?_
  refine yC X2.here hx rfl 7 44 rfl (hb hby d0_7) rfl rfl ?_
  refine XS.iload X2.here hx rfl (hb hby d0_44) rfl ?_
  show S_ p e below T2 m 46 #[vr s_, vi 1, vr d_, vi 1, vi 1, vi 1, vi c0_] [(ii 1)] _
  exact retOut X2 hx Bd.returns rfl (Or.inl ⟨rfl, Or.inl rfl, _, rfl⟩) (hb hby d0_46) hr
 ·show Q_cmp5_1 Z s_ ks_ d_ kd_ c0_ h0 n0 _ T2.heap _
  rw [e2]
  exact ⟨rfl, N4, kp7, f6⟩
theorem d1_0 : decode jdk_52_method_16_code 0 = .ok (.iload_n 2, 1) := by decide +kernel
theorem d1_1 : decode jdk_52_method_16_code 1 = .ok (.newarray .byte, 2) := by decide +kernel
theorem d1_3 : decode jdk_52_method_16_code 3 = .ok (.astore_n 3, 1) := by decide +kernel
theorem d1_4 : decode jdk_52_method_16_code 4 = .ok (.aload_n 0, 1) := by decide +kernel
theorem d1_5 : decode jdk_52_method_16_code 5 = .ok (.iload_n 1, 1) := by decide +kernel
theorem d1_6 : decode jdk_52_method_16_code 6 = .ok (.aload_n 3, 1) := by decide +kernel
theorem d1_7 : decode jdk_52_method_16_code 7 = .ok (.iconst 0, 1) := by decide +kernel
theorem d1_8 : decode jdk_52_method_16_code 8 = .ok (.iload_n 2, 1) := by decide +kernel
theorem d1_9 : decode jdk_52_method_16_code 9 = .ok (.invokestatic 115, 3) := by decide +kernel
theorem pd_pACIABIIrI : parseMethodDescriptor "([CI[BII)I" = some ⟨[(.array .char), .int, (.array .byte), .int, .int], some .int⟩ := by decide +kernel
theorem d1_12 : decode jdk_52_method_16_code 12 = .ok (.istore 4, 2) := by decide +kernel
theorem d1_14 : decode jdk_52_method_16_code 14 = .ok (.iload 4, 2) := by decide +kernel
theorem d1_16 : decode jdk_52_method_16_code 16 = .ok (.iload_n 2, 1) := by decide +kernel
theorem d1_17 : decode jdk_52_method_16_code 17 = .ok (.if_icmp .eq 40, 3) := by decide +kernel
theorem d1_57 : decode jdk_52_method_16_code 57 = .ok (.aload_n 3, 1) := by decide +kernel
theorem d1_58 : decode jdk_52_method_16_code 58 = .ok (.areturn, 1) := by decide +kernel
theorem ef_cmp3_1 (m : MethodId) (s_ : Addr) : entryFrame m #[(rr s_), (ii 0), (ii 1)] 6 = mkF m 0 #[vr s_, vi 0, vi 1, u_, u_, u_] [] := by first | (simp [entryFrame, mkF, argsToLocals, Value.category]; done) | rfl
def Q_cmp3_1 (Z : State) (s_ : Addr) (ks_ : ClassId) (c0_ : Int32) (h0 : Heap) (n0 : Nat) (v : Option Value) (h : Heap) (L : List Loc) : Prop := ∃ (b_ : Addr), ∃ (kb_ : ClassId), v = some (rr b_) ∧ Fr n0 L ∧ Keep h0 h [] ∧ Arv Z h b_ kb_ .byte (1 : Int32) [(.int (nar .byte (c0_.toInt8.toInt32)))] (ii 0) ∧ n0 ≤ b_ ∧ h0.size ≤ b_
set_option maxRecDepth 65536 in
set_option maxHeartbeats 40000000 in
theorem rm_cmp3_1 (l : Launch) (Z : State) (a0 : Array Value) (hw : HW Z a0) (ws : List Jvm.Cond) (s_ : Addr) (ks_ : ClassId) (c0_ : Int32) (h0 : Heap) (n0 : Nat) (O0 : Old Z n0 h0) (A0_ : Arv Z h0 s_ ks_ .char (1 : Int32) [(.int c0_)] (ii 0)) (hs0_ : ¬ ((255 : Int32) < c0_)) :
  MFP l Z (⟨nm6, "compress", "([CII)[B"⟩ : MethodName) jdk_52_method_16_code 6 (some (.array .byte)) ({ frames := 1, cells := 1, slots := 1, locals := 18 } : Room) ws #[(rr s_), (ii 0), (ii 1)] h0 (Q_cmp3_1 Z s_ ks_ c0_ h0 n0) := by
 refine MetFree.of_bodySF (plainFor_of_name pn_java_lang_StringUTF16) hisR ?_
 intro p e s m args below meth c s₁ Bd hml0 hP hK
 obtain ⟨rfl, hZ, hh⟩ := hP
 have hx := Bd.exec
 have hby := Bd.bytes
 have hml : c.maxLocals = 6 := hml0
 have hown : s.vm.findClass nm6 = some m.cls := findClass_of_methodNamed Bd.named
 have hnm := (name_of_methodNamed Bd.named Bd.method).1
 have X0 : Stand p l e ({ frames := 1, cells := 1, slots := 1, locals := 18 } : Room) s m #[(rr s_), (ii 0), (ii 1)] below meth c s₁ [] 0 0 := Stand.of_body Bd
 have e0 : s₁.heap = h0 := by rw [← hh, Bd.state]; rfl
 have N0 := Fr.nil n0
 have kp0 : Keep h0 h0 [] := Keep.refl _ _
 have c0 : ∀ t, S_ p e below s₁ m 0 #[vr s_, vi 0, vi 1, u_, u_, u_] [] t → Steps p.tables e below (s₁.setTop (entryFrame m #[(rr s_), (ii 0), (ii 1)] 6)) t := fun t k => castTop (ef_cmp3_1 m s_) k
 generalize s₁.setTop (entryFrame m #[(rr s_), (ii 0), (ii 1)] 6) = st0 at c0 ⊢
 replace c0 : Kt p e below s₁ st0 (mkF m 0 #[vr s_, vi 0, vi 1, u_, u_, u_] []) := c0
 have c1 : Kt p e below s₁ st0 (mkF m 1 #[vr s_, vi 0, vi 1, u_, u_, u_] [(ii 1)]) := fun t k => by
  refine c0 t ?_
  show S_ p e below s₁ m 0 #[vr s_, vi 0, vi 1, u_, u_, u_] [] t
  refine XS.iloadN X0.here hx rfl (hb hby d1_0) rfl ?_
  exact k
 obtain ⟨b2, T2, h2, k2, z2, g2, X2, e2, E2, o3, A2, c2⟩ := knewP (aty := .byte) X0 hx hZ (w15 hw) e0 c1 rfl (hb hby d1_1) rfl (by decide) 1 (by decide) (by decide) (by decide) (by decide) O0
 have kp5 := kp0.ext E2
 have z6 := Nat.le_trans kp0.1 z2
 have f4 : Arv Z h2 b2 k2 .byte (1 : Int32) [(ii 0)] (ii 0) := A2.pad (pad_rep [] (ii 0) 1)
 have q7 := Nat.ne_of_lt (Nat.lt_of_lt_of_le A0_.lt z2)
 have c8 : Kt p e below T2 st0 (mkF m 9 #[vr s_, vi 0, vi 1, vr b2, u_, u_] [(ii 1), (ii 0), (rr b2), (ii 0), (rr s_)]) := fun t k => by
  refine c2 t ?_
  show S_ p e below T2 m 3 #[vr s_, vi 0, vi 1, u_, u_, u_] [(rr b2)] t
  refine XS.astoreN X2.here hx rfl (hb hby d1_3) rfl rfl (l' := #[vr s_, vi 0, vi 1, vr b2, u_, u_]) rfl ?_
  refine XS.aloadN X2.here hx rfl (hb hby d1_4) rfl rfl ?_
  refine XS.iloadN X2.here hx rfl (hb hby d1_5) rfl ?_
  refine XS.aloadN X2.here hx rfl (hb hby d1_6) rfl rfl ?_
  show S_ p e below T2 m 7 #[vr s_, vi 0, vi 1, vr b2, u_, u_] [(rr b2), (ii 0), (rr s_)] t
  refine XS.iconst X2.here hx rfl (hb hby d1_7) ?_
  refine XS.iloadN X2.here hx rfl (hb hby d1_8) rfl ?_
  exact k
 obtain ⟨_, T9, L9, X9, hQ9, c9⟩ := kstat X2 hx hZ hown (w185 hw) (w186 hw) (w183 hw) (w187 hw) (rm_cmp5_1 l Z a0 hw [] s_ ks_ b2 k2 c0_ h2 n0 o3 (A0_.ext E2) f4 g2 q7 hs0_) e2 c8 hml pd_pACIABIIrI [(rr s_), (ii 0), (rr b2), (ii 0), (ii 1)] [] 0 (hb hby d1_9) rfl rfl rfl rfl rfl rfl
 obtain ⟨rfl, N10q, K11, p12⟩ := hQ9
 have N10 := Fr.app N0 N10q
 have o13 := o3.keep K11 (allS g2 all0)
 have kp14 := kp5.trans K11 (allS (Or.inr z6) all0)
 obtain ⟨fs, hr, hrun, hended, hW, hsame⟩ := X9.leave (v := some (rr b2)) (fun h => by rw [Bd.returns] at h; cases h)
 refine ⟨_, _, c9 _ ?_, hrun, hended, _, _, rfl, ?_, ⟨_, rfl⟩, hW, hsame.mono (by decide) (by decide)⟩
 ·show S_ p e below T9 m 12 #[vr s_, vi 0, vi 1, vr b2, u_, u_] [(ii 1)] _
  refine XS.istore X9.here hx rfl (hb hby d1_12) rfl (l' := #[vr s_, vi 0, vi 1, vr b2, vi 1, u_]) rfl ?_
  refine XS.iload X9.here hx rfl (hb hby d1_14) rfl ?_
  refine XS.iloadN X9.here hx rfl (hb hby d1_16) rfl ?_
  refine yC X9.here hx rfl 17 57 rfl (hb hby d1_17) rfl rfl ?_
  show S_ p e below T9 m 57 #[vr s_, vi 0, vi 1, vr b2, vi 1, u_] [] _
  refine XS.aloadN X9.here hx rfl (hb hby d1_57) rfl rfl ?_
  show S_ p e below T9 m 58 #[vr s_, vi 0, vi 1, vr b2, vi 1, u_] [(rr b2)] _
  exact retOut X9 hx Bd.returns rfl (Or.inr (Or.inr (Or.inr (Or.inr ⟨rfl, rfl, rfl⟩)))) (hb hby d1_58) hr
 ·show Q_cmp3_1 Z s_ ks_ c0_ h0 n0 _ T9.heap _
  exact ⟨b2, k2, rfl, N10, kp14, p12, g2, z6⟩
theorem d2_0 : decode jdk_52_method_15_code 0 = .ok (.iload_n 1, 1) := by decide +kernel
theorem d2_1 : decode jdk_52_method_15_code 1 = .ok (.aload_n 0, 1) := by decide +kernel
theorem d2_2 : decode jdk_52_method_15_code 2 = .ok (.arraylength, 1) := by decide +kernel
theorem d2_3 : decode jdk_52_method_15_code 3 = .ok (.isub, 1) := by decide +kernel
theorem d2_4 : decode jdk_52_method_15_code 4 = .ok (.bipush 31, 2) := by decide +kernel
theorem d2_6 : decode jdk_52_method_15_code 6 = .ok (.iushr, 1) := by decide +kernel
theorem d2_7 : decode jdk_52_method_15_code 7 = .ok (.i2b, 1) := by decide +kernel
theorem d2_8 : decode jdk_52_method_15_code 8 = .ok (.ireturn, 1) := by decide +kernel
theorem ef_codl_1 (m : MethodId) (s_ : Addr) : entryFrame m #[(rr s_), (ii 1)] 2 = mkF m 0 #[vr s_, vi 1] [] := by first | (simp [entryFrame, mkF, argsToLocals, Value.category]; done) | rfl
def Q_codl_1 (Z : State) (s_ : Addr) (ks_ : ClassId) (vs_ : List Value) (h0 : Heap) (n0 : Nat) (v : Option Value) (h : Heap) (L : List Loc) : Prop := v = some (ii 0) ∧ Fr n0 L ∧ h = h0
set_option maxRecDepth 65536 in
set_option maxHeartbeats 40000000 in
theorem rm_codl_1 (l : Launch) (Z : State) (a0 : Array Value) (hw : HW Z a0) (ws : List Jvm.Cond) (s_ : Addr) (ks_ : ClassId) (vs_ : List Value) (h0 : Heap) (n0 : Nat) (O0 : Old Z n0 h0) (A0_ : Arv Z h0 s_ ks_ .byte (1 : Int32) vs_ (ii 0)) :
  MFP l Z (⟨nm6, "coderFromArrayLen", "([BI)B"⟩ : MethodName) jdk_52_method_15_code 2 (some .byte) ({ frames := 0, cells := 0, slots := 0, locals := 0 } : Room) ws #[(rr s_), (ii 1)] h0 (Q_codl_1 Z s_ ks_ vs_ h0 n0) := by
 refine MetFree.of_bodySF (plainFor_of_name pn_java_lang_StringUTF16) hisR ?_
 intro p e s m args below meth c s₁ Bd hml0 hP hK
 obtain ⟨rfl, hZ, hh⟩ := hP
 have hx := Bd.exec
 have hby := Bd.bytes
 have hml : c.maxLocals = 2 := hml0
 have hown : s.vm.findClass nm6 = some m.cls := findClass_of_methodNamed Bd.named
 have hnm := (name_of_methodNamed Bd.named Bd.method).1
 have X0 : Stand p l e ({ frames := 0, cells := 0, slots := 0, locals := 0 } : Room) s m #[(rr s_), (ii 1)] below meth c s₁ [] 0 0 := Stand.of_body Bd
 have e0 : s₁.heap = h0 := by rw [← hh, Bd.state]; rfl
 have N0 := Fr.nil n0
 have kp0 : Keep h0 h0 [] := Keep.refl _ _
 have c0 : ∀ t, S_ p e below s₁ m 0 #[vr s_, vi 1] [] t → Steps p.tables e below (s₁.setTop (entryFrame m #[(rr s_), (ii 1)] 2)) t := fun t k => castTop (ef_codl_1 m s_) k
 generalize s₁.setTop (entryFrame m #[(rr s_), (ii 1)] 2) = st0 at c0 ⊢
 replace c0 : Kt p e below s₁ st0 (mkF m 0 #[vr s_, vi 1] []) := c0
 obtain ⟨fs, hr, hrun, hended, hW, hsame⟩ := X0.leave (v := some (ii 0)) (fun h => by rw [Bd.returns] at h; cases h)
 refine ⟨_, _, c0 _ ?_, hrun, hended, _, _, rfl, ?_, ⟨_, rfl⟩, hW, hsame.mono (by decide) (by decide)⟩
 ·show S_ p e below s₁ m 0 #[vr s_, vi 1] [] _
  refine XS.iloadN X0.here hx rfl (hb hby d2_0) rfl ?_
  refine XS.aloadN X0.here hx rfl (hb hby d2_1) rfl rfl ?_
  refine ldLen X0 hx hZ e0 A0_ rfl rfl (hb hby d2_2) ?_
  refine XS.isub X0.here hx rfl (hb hby d2_3) rfl ?_
  show S_ p e below s₁ m 4 #[vr s_, vi 1] [(ii 0)] _
  refine XS.bipush X0.here hx rfl (hb hby d2_4) ?_
  refine XS.iushr X0.here hx rfl (hb hby d2_6) rfl ?_
  refine XS.i2b X0.here hx rfl (hb hby d2_7) rfl ?_
  show S_ p e below s₁ m 8 #[vr s_, vi 1] [(ii 0)] _
  exact retN X0 hx (t := .byte) Bd.returns (by simp) (hb hby d2_8) hr
 ·show Q_codl_1 Z s_ ks_ vs_ h0 n0 _ s₁.heap _
  rw [e0]
  exact ⟨rfl, N0, rfl⟩
theorem pn_java_lang_String : plainName nm0 = true := by first | (simp [plainName, overriddenIn]; done) | decide +kernel
theorem d3_0 : decode jdk_42_method_149_code 0 = .ok (.aload_n 0, 1) := by decide +kernel
theorem d3_1 : decode jdk_42_method_149_code 1 = .ok (.invokespecial 1, 3) := by decide +kernel
theorem d3_4 : decode jdk_42_method_149_code 4 = .ok (.iload_n 3, 1) := by decide +kernel
theorem d3_5 : decode jdk_42_method_149_code 5 = .ok (.ifCond .ne 22, 3) := by decide +kernel
theorem d3_27 : decode jdk_42_method_149_code 27 = .ok (.getstatic 38, 3) := by decide +kernel
theorem d3_30 : decode jdk_42_method_149_code 30 = .ok (.ifCond .eq 28, 3) := by decide +kernel
theorem d3_33 : decode jdk_42_method_149_code 33 = .ok (.aload_n 1, 1) := by decide +kernel
theorem d3_34 : decode jdk_42_method_149_code 34 = .ok (.iload_n 2, 1) := by decide +kernel
theorem d3_35 : decode jdk_42_method_149_code 35 = .ok (.iload_n 3, 1) := by decide +kernel
theorem d3_36 : decode jdk_42_method_149_code 36 = .ok (.invokestatic 177, 3) := by decide +kernel
theorem pd_pACIIrAB : parseMethodDescriptor "([CII)[B" = some ⟨[(.array .char), .int, .int], some (.array .byte)⟩ := by decide +kernel
theorem d3_39 : decode jdk_42_method_149_code 39 = .ok (.astore 5, 2) := by decide +kernel
theorem d3_41 : decode jdk_42_method_149_code 41 = .ok (.aload_n 0, 1) := by decide +kernel
theorem d3_42 : decode jdk_42_method_149_code 42 = .ok (.aload 5, 2) := by decide +kernel
theorem d3_44 : decode jdk_42_method_149_code 44 = .ok (.iload_n 3, 1) := by decide +kernel
theorem d3_45 : decode jdk_42_method_149_code 45 = .ok (.invokestatic 47, 3) := by decide +kernel
theorem pd_pABIrB : parseMethodDescriptor "([BI)B" = some ⟨[(.array .byte), .int], some .byte⟩ := by decide +kernel
theorem d3_48 : decode jdk_42_method_149_code 48 = .ok (.putfield 15, 3) := by decide +kernel
theorem d3_51 : decode jdk_42_method_149_code 51 = .ok (.aload_n 0, 1) := by decide +kernel
theorem d3_52 : decode jdk_42_method_149_code 52 = .ok (.aload 5, 2) := by decide +kernel
theorem d3_54 : decode jdk_42_method_149_code 54 = .ok (.putfield 9, 3) := by decide +kernel
theorem d3_57 : decode jdk_42_method_149_code 57 = .ok (.return_, 1) := by decide +kernel
theorem ef_str4_1 (m : MethodId) (x_ : Addr) (s_ : Addr) : entryFrame m #[(rr x_), (rr s_), (ii 0), (ii 1), .null] 6 = mkF m 0 #[vr x_, vr s_, vi 0, vi 1, .val .null, u_] [] := by first | (simp [entryFrame, mkF, argsToLocals, Value.category]; done) | rfl
def Q_str4_1 (Z : State) (x_ : Addr) (s_ : Addr) (ks_ : ClassId) (z_ : Int32) (c0_ : Int32) (h0 : Heap) (n0 : Nat) (v : Option Value) (h : Heap) (L : List Loc) : Prop := v = none ∧ Fr n0 L ∧ Keep h0 h [x_] ∧ Exa Z h x_ nm0 ∧ Fld Z h x_ nm0 "coder" "B" (ii 0) ∧ ∃ (b_ : Addr), ∃ (kb_ : ClassId), Fld Z h x_ nm0 "value" "[B" (rr b_) ∧ Arv Z h b_ kb_ .byte (1 : Int32) [(.int (nar .byte (c0_.toInt8.toInt32)))] (ii 0) ∧ n0 ≤ b_ ∧ h0.size ≤ b_
set_option maxRecDepth 65536 in
set_option maxHeartbeats 40000000 in
theorem rm_str4_1 (l : Launch) (Z : State) (a0 : Array Value) (hw : HW Z a0) (ws : List Jvm.Cond) (x_ : Addr) (s_ : Addr) (ks_ : ClassId) (z_ : Int32) (c0_ : Int32) (h0 : Heap) (n0 : Nat) (O0 : Old Z n0 h0) (E0_ : Exa Z h0 x_ nm0) (F1_ : Fld Z h0 x_ nm0 "value" "[B" .null) (F2_ : Fld Z h0 x_ nm0 "coder" "B" (ii 0)) (G3_ : n0 ≤ x_) (A4_ : Arv Z h0 s_ ks_ .char (1 : Int32) [(.int c0_)] (ii 0)) (ZS5_ : Sta Z Z.heap nm0 "COMPACT_STRINGS" "Z" (.int z_)) (hz_ : ¬ (z_ = (0 : Int32))) (hs0_ : ¬ ((255 : Int32) < c0_)) :
  MFP l Z (⟨nm0, "<init>", "([CIILjava/lang/Void;)V"⟩ : MethodName) jdk_42_method_149_code 6 none ({ frames := 2, cells := 1, slots := 1, locals := 35 } : Room) ws #[(rr x_), (rr s_), (ii 0), (ii 1), .null] h0 (Q_str4_1 Z x_ s_ ks_ z_ c0_ h0 n0) := by
 refine MetFree.of_bodySF (plainFor_of_name pn_java_lang_String) hisR ?_
 intro p e s m args below meth c s₁ Bd hml0 hP hK
 obtain ⟨rfl, hZ, hh⟩ := hP
 have hx := Bd.exec
 have hby := Bd.bytes
 have hml : c.maxLocals = 6 := hml0
 have hown : s.vm.findClass nm0 = some m.cls := findClass_of_methodNamed Bd.named
 have hnm := (name_of_methodNamed Bd.named Bd.method).1
 have X0 : Stand p l e ({ frames := 2, cells := 1, slots := 1, locals := 35 } : Room) s m #[(rr x_), (rr s_), (ii 0), (ii 1), .null] below meth c s₁ [] 0 0 := Stand.of_body Bd
 have e0 : s₁.heap = h0 := by rw [← hh, Bd.state]; rfl
 have N0 := Fr.nil n0
 have kp0 : Keep h0 h0 [x_] := Keep.refl _ _
 have c0 : ∀ t, S_ p e below s₁ m 0 #[vr x_, vr s_, vi 0, vi 1, .val .null, u_] [] t → Steps p.tables e below (s₁.setTop (entryFrame m #[(rr x_), (rr s_), (ii 0), (ii 1), .null] 6)) t := fun t k => castTop (ef_str4_1 m x_ s_) k
 generalize s₁.setTop (entryFrame m #[(rr x_), (rr s_), (ii 0), (ii 1), .null] 6) = st0 at c0 ⊢
 replace c0 : Kt p e below s₁ st0 (mkF m 0 #[vr x_, vr s_, vi 0, vi 1, .val .null, u_] []) := c0
 have c1 : Kt p e below s₁ st0 (mkF m 1 #[vr x_, vr s_, vi 0, vi 1, .val .null, u_] [(rr x_)]) := fun t k => by
  refine c0 t ?_
  show S_ p e below s₁ m 0 #[vr x_, vr s_, vi 0, vi 1, .val .null, u_] [] t
  refine XS.aloadN X0.here hx rfl (hb hby d3_0) rfl rfl ?_
  exact k
 obtain ⟨T2, X2, e2, c2⟩ := kinit X0 hx hZ hown (w11 hw) (w12 hw) (w13 hw) e0 c1 rfl hml rfl rfl (hb hby d3_1) 0 (own_w rfl) (by decide) (by decide)
 have c3 : Kt p e below T2 st0 (mkF m 27 #[vr x_, vr s_, vi 0, vi 1, .val .null, u_] []) := fun t k => by
  refine c2 t ?_
  show S_ p e below T2 m 4 #[vr x_, vr s_, vi 0, vi 1, .val .null, u_] [] t
  refine XS.iloadN X2.here hx rfl (hb hby d3_4) rfl ?_
  refine yI X2.here hx rfl 5 27 rfl (hb hby d3_5) rfl rfl ?_
  exact k
 obtain ⟨T4, X4, e4, c4⟩ := kgetS X2 hx hZ hown (host := "") (Or.inl (w35 hw)) Via.refl e2 (ZS5_.ext O0.2) c3 rfl (hb hby d3_27)
 have c5 : Kt p e below T4 st0 (mkF m 36 #[vr x_, vr s_, vi 0, vi 1, .val .null, u_] [(ii 1), (ii 0), (rr s_)]) := fun t k => by
  refine c4 t ?_
  show S_ p e below T4 m 30 #[vr x_, vr s_, vi 0, vi 1, .val .null, u_] [(.int z_)] t
  refine XS.ifNo X4.here hx rfl (hb hby d3_30) rfl ((if0 _ _).trans (feq hz_).1) ?_
  refine XS.aloadN X4.here hx rfl (hb hby d3_33) rfl rfl ?_
  refine XS.iloadN X4.here hx rfl (hb hby d3_34) rfl ?_
  refine XS.iloadN X4.here hx rfl (hb hby d3_35) rfl ?_
  exact k
 obtain ⟨_, T6, L6, X6, hQ6, c6⟩ := kstat X4 hx hZ hown (w181 hw) (w182 hw) (w183 hw) (w184 hw) (rm_cmp3_1 l Z a0 hw [] s_ ks_ c0_ h0 n0 O0 A4_ hs0_) e4 c5 hml pd_pACIIrAB [(rr s_), (ii 0), (ii 1)] [] 0 (hb hby d3_36) rfl rfl rfl rfl rfl rfl
 obtain ⟨b7, k8, rfl, N9q, K10, p11, p12, p13⟩ := hQ6
 have N9 := Fr.app N0 N9q
 have o14 := O0.keep K10 all0
 have kp15 := kp0.trans K10 all0
 have z16 := Nat.le_trans kp0.1 p13
 have g17 := Nat.le_trans (Nat.le_trans (Nat.le_of_eq O0.1.symm) O0.2.1) p13
 have c18 : Kt p e below T6 st0 (mkF m 45 #[vr x_, vr s_, vi 0, vi 1, .val .null, vr b7] [(ii 1), (rr b7), (rr x_)]) := fun t k => by
  refine c6 t ?_
  show S_ p e below T6 m 39 #[vr x_, vr s_, vi 0, vi 1, .val .null, u_] [(rr b7)] t
  refine XS.astore X6.here hx rfl (hb hby d3_39) rfl rfl (l' := #[vr x_, vr s_, vi 0, vi 1, .val .null, vr b7]) rfl ?_
  refine XS.aloadN X6.here hx rfl (hb hby d3_41) rfl rfl ?_
  refine XS.aload X6.here hx rfl (hb hby d3_42) rfl rfl ?_
  refine XS.iloadN X6.here hx rfl (hb hby d3_44) rfl ?_
  exact k
 obtain ⟨_, T19, L19, X19, hQ19, c19⟩ := kstat X6 hx hZ hown (w188 hw) (w189 hw) (w183 hw) (w190 hw) (rm_codl_1 l Z a0 hw [] b7 k8 [(.int (nar .byte (c0_.toInt8.toInt32)))] T6.heap n0 o14 p11) rfl c18 hml pd_pABIrB [(rr b7), (ii 1)] [(rr x_)] 1 (hb hby d3_45) rfl rfl rfl rfl rfl rfl
 obtain ⟨rfl, N20q, K21⟩ := hQ19
 have N20 := Fr.app N9 N20q
 obtain ⟨T22, h22, X22, e22, W22, f23, o25, N24, c22⟩ := kput X19 hx hZ .byte hown (host := "") (Or.inl (w21 hw)) Via.refl K21 (F2_.keep K10 nin0) (E0_.keep K10) (Or.inr ⟨(w17 hw), rfl, hnm⟩) (w2 hw) c19 rfl rfl (hb hby d3_48) (by decide) rfl rfl o14 N20 G3_
 have kp26 := kp15.wr W22 (Or.inl (List.mem_of_getElem? (i := 0) rfl))
 have f27 := (F1_.keep K10 nin0).other W22 (Or.inr (slot_ne (Or.inr (w16 hw)) (Or.inr (w17 hw)) (by decide) (t := (.array .byte)) (t' := .byte) (by decide) (by decide)))
 have c28 : Kt p e below T22 st0 (mkF m 54 #[vr x_, vr s_, vi 0, vi 1, .val .null, vr b7] [(rr b7), (rr x_)]) := fun t k => by
  refine c22 t ?_
  show S_ p e below T22 m 51 #[vr x_, vr s_, vi 0, vi 1, .val .null, vr b7] [] t
  refine XS.aloadN X22.here hx rfl (hb hby d3_51) rfl rfl ?_
  refine XS.aload X22.here hx rfl (hb hby d3_52) rfl rfl ?_
  exact k
 obtain ⟨T29, h29, X29, e29, W29, f30, o32, N31, c29⟩ := kput X22 hx hZ (.array .byte) hown (host := "") (Or.inl (w20 hw)) Via.refl e22 f27 ((E0_.keep K10).wr W22) (Or.inr ⟨(w16 hw), rfl, hnm⟩) (w2 hw) c28 rfl rfl (hb hby d3_54) (by decide) rfl rfl o25 N24 G3_
 have kp33 := kp26.wr W29 (Or.inl (List.mem_of_getElem? (i := 0) rfl))
 have f34 := f23.other W29 (Or.inr (slot_ne (Or.inr (w17 hw)) (Or.inr (w16 hw)) (by decide) (t := .byte) (t' := (.array .byte)) (by decide) (by decide)))
 have q35 := Ne.symm (Nat.ne_of_lt (Nat.lt_of_lt_of_le E0_.lt p13))
 obtain ⟨fs, hr, hrun, hended, hW, hsame⟩ := X29.leave (v := none) (fun _ => rfl)
 refine ⟨_, _, c29 _ ?_, hrun, hended, _, _, rfl, ?_, ⟨_, rfl⟩, hW, hsame.mono (by decide) (by decide)⟩
 ·show S_ p e below T29 m 57 #[vr x_, vr s_, vi 0, vi 1, .val .null, vr b7] [] _
  exact X29.returnOut hx Bd.returns (hb hby d3_57) hr
 ·show Q_str4_1 Z x_ s_ ks_ z_ c0_ h0 n0 _ T29.heap _
  rw [e29]
  exact ⟨rfl, N31, kp33, (((E0_.keep K10).wr W22).wr W29), f34, b7, k8, f30, ((p11.other W22 q35).other W29 q35), g17, z16⟩
theorem d4_0 : decode jdk_42_method_3_code 0 = .ok (.aload_n 0, 1) := by decide +kernel
theorem d4_1 : decode jdk_42_method_3_code 1 = .ok (.aload_n 1, 1) := by decide +kernel
theorem d4_2 : decode jdk_42_method_3_code 2 = .ok (.iconst 0, 1) := by decide +kernel
theorem d4_3 : decode jdk_42_method_3_code 3 = .ok (.aload_n 1, 1) := by decide +kernel
theorem d4_4 : decode jdk_42_method_3_code 4 = .ok (.arraylength, 1) := by decide +kernel
theorem d4_5 : decode jdk_42_method_3_code 5 = .ok (.aconst_null, 1) := by decide +kernel
theorem d4_6 : decode jdk_42_method_3_code 6 = .ok (.invokespecial 27, 3) := by decide +kernel
theorem pd_pACIILjava_lang_Void_rV : parseMethodDescriptor "([CIILjava/lang/Void;)V" = some ⟨[(.array .char), .int, .int, (.object "java/lang/Void")], none⟩ := by decide +kernel
theorem d4_9 : decode jdk_42_method_3_code 9 = .ok (.return_, 1) := by decide +kernel
theorem ef_str1_1 (m : MethodId) (x_ : Addr) (s_ : Addr) : entryFrame m #[(rr x_), (rr s_)] 2 = mkF m 0 #[vr x_, vr s_] [] := by first | (simp [entryFrame, mkF, argsToLocals, Value.category]; done) | rfl
def Q_str1_1 (Z : State) (x_ : Addr) (s_ : Addr) (ks_ : ClassId) (z_ : Int32) (c0_ : Int32) (h0 : Heap) (n0 : Nat) (v : Option Value) (h : Heap) (L : List Loc) : Prop := v = none ∧ Fr n0 L ∧ Keep h0 h [x_] ∧ Exa Z h x_ nm0 ∧ Fld Z h x_ nm0 "coder" "B" (ii 0) ∧ ∃ (b_ : Addr), ∃ (kb_ : ClassId), Fld Z h x_ nm0 "value" "[B" (rr b_) ∧ Arv Z h b_ kb_ .byte (1 : Int32) [(.int (nar .byte (c0_.toInt8.toInt32)))] (ii 0) ∧ n0 ≤ b_ ∧ h0.size ≤ b_
set_option maxRecDepth 65536 in
set_option maxHeartbeats 40000000 in
theorem rm_str1_1 (l : Launch) (Z : State) (a0 : Array Value) (hw : HW Z a0) (ws : List Jvm.Cond) (x_ : Addr) (s_ : Addr) (ks_ : ClassId) (z_ : Int32) (c0_ : Int32) (h0 : Heap) (n0 : Nat) (O0 : Old Z n0 h0) (E0_ : Exa Z h0 x_ nm0) (F1_ : Fld Z h0 x_ nm0 "value" "[B" .null) (F2_ : Fld Z h0 x_ nm0 "coder" "B" (ii 0)) (G3_ : n0 ≤ x_) (A4_ : Arv Z h0 s_ ks_ .char (1 : Int32) [(.int c0_)] (ii 0)) (ZS5_ : Sta Z Z.heap nm0 "COMPACT_STRINGS" "Z" (.int z_)) (hz_ : ¬ (z_ = (0 : Int32))) (hs0_ : ¬ ((255 : Int32) < c0_)) :
  MFP l Z (⟨nm0, "<init>", "([C)V"⟩ : MethodName) jdk_42_method_3_code 2 none ({ frames := 3, cells := 1, slots := 1, locals := 52 } : Room) ws #[(rr x_), (rr s_)] h0 (Q_str1_1 Z x_ s_ ks_ z_ c0_ h0 n0) := by
 refine MetFree.of_bodySF (plainFor_of_name pn_java_lang_String) hisR ?_
 intro p e s m args below meth c s₁ Bd hml0 hP hK
 obtain ⟨rfl, hZ, hh⟩ := hP
 have hx := Bd.exec
 have hby := Bd.bytes
 have hml : c.maxLocals = 2 := hml0
 have hown : s.vm.findClass nm0 = some m.cls := findClass_of_methodNamed Bd.named
 have hnm := (name_of_methodNamed Bd.named Bd.method).1
 have X0 : Stand p l e ({ frames := 3, cells := 1, slots := 1, locals := 52 } : Room) s m #[(rr x_), (rr s_)] below meth c s₁ [] 0 0 := Stand.of_body Bd
 have e0 : s₁.heap = h0 := by rw [← hh, Bd.state]; rfl
 have N0 := Fr.nil n0
 have kp0 : Keep h0 h0 [x_] := Keep.refl _ _
 have c0 : ∀ t, S_ p e below s₁ m 0 #[vr x_, vr s_] [] t → Steps p.tables e below (s₁.setTop (entryFrame m #[(rr x_), (rr s_)] 2)) t := fun t k => castTop (ef_str1_1 m x_ s_) k
 generalize s₁.setTop (entryFrame m #[(rr x_), (rr s_)] 2) = st0 at c0 ⊢
 replace c0 : Kt p e below s₁ st0 (mkF m 0 #[vr x_, vr s_] []) := c0
 have c1 : Kt p e below s₁ st0 (mkF m 6 #[vr x_, vr s_] [.null, (ii 1), (ii 0), (rr s_), (rr x_)]) := fun t k => by
  refine c0 t ?_
  show S_ p e below s₁ m 0 #[vr x_, vr s_] [] t
  refine XS.aloadN X0.here hx rfl (hb hby d4_0) rfl rfl ?_
  refine XS.aloadN X0.here hx rfl (hb hby d4_1) rfl rfl ?_
  refine XS.iconst X0.here hx rfl (hb hby d4_2) ?_
  refine XS.aloadN X0.here hx rfl (hb hby d4_3) rfl rfl ?_
  show S_ p e below s₁ m 4 #[vr x_, vr s_] [(rr s_), (ii 0), (rr s_), (rr x_)] t
  refine ldLen X0 hx hZ e0 A4_ rfl rfl (hb hby d4_4) ?_
  refine XS.aconstNull X0.here hx rfl (hb hby d4_5) ?_
  exact k
 obtain ⟨_, T2, L2, X2, hQ2, c2⟩ := kspec X0 hx hZ hown (w7 hw) (w8 hw) (w3 hw) (w10 hw) (rm_str4_1 l Z a0 hw [] x_ s_ ks_ z_ c0_ h0 n0 O0 E0_ F1_ F2_ G3_ A4_ ZS5_ hz_ hs0_) e0 c1 hml pd_pACIILjava_lang_Void_rV x_ [(rr s_), (ii 0), (ii 1), .null] [] 0 (hb hby d4_6) rfl rfl rfl rfl rfl rfl
 obtain ⟨rfl, N3q, K4, p5, p6, b7, k8, p9, p10, p11, p12⟩ := hQ2
 have N3 := Fr.app N0 N3q
 have o13 := O0.keep K4 (allS G3_ all0)
 have kp14 := kp0.trans K4 (allS (Or.inl (List.mem_of_getElem? (i := 0) rfl)) all0)
 have z15 := Nat.le_trans kp0.1 p12
 have g16 := Nat.le_trans (Nat.le_trans (Nat.le_of_eq O0.1.symm) O0.2.1) p12
 obtain ⟨fs, hr, hrun, hended, hW, hsame⟩ := X2.leave (v := none) (fun _ => rfl)
 refine ⟨_, _, c2 _ ?_, hrun, hended, _, _, rfl, ?_, ⟨_, rfl⟩, hW, hsame.mono (by decide) (by decide)⟩
 ·show S_ p e below T2 m 9 #[vr x_, vr s_] [] _
  exact X2.returnOut hx Bd.returns (hb hby d4_9) hr
 ·show Q_str1_1 Z x_ s_ ks_ z_ c0_ h0 n0 _ T2.heap _
  exact ⟨rfl, N3, kp14, p5, p6, b7, k8, p9, p10, g16, z15⟩
theorem ef_cmp5_2 (m : MethodId) (s_ : Addr) (d_ : Addr) : entryFrame m #[(rr s_), (ii 0), (rr d_), (ii 0), (ii 2)] 7 = mkF m 0 #[vr s_, vi 0, vr d_, vi 0, vi 2, u_, u_] [] := by first | (simp [entryFrame, mkF, argsToLocals, Value.category]; done) | rfl
def Q_cmp5_2 (Z : State) (s_ : Addr) (ks_ : ClassId) (d_ : Addr) (kd_ : ClassId) (c0_ : Int32) (c1_ : Int32) (h0 : Heap) (n0 : Nat) (v : Option Value) (h : Heap) (L : List Loc) : Prop := v = some (ii 2) ∧ Fr n0 L ∧ Keep h0 h [d_] ∧ Arv Z h d_ kd_ .byte (2 : Int32) [(.int (nar .byte (c0_.toInt8.toInt32))), (.int (nar .byte (c1_.toInt8.toInt32)))] (ii 0)
set_option maxRecDepth 65536 in
set_option maxHeartbeats 40000000 in
theorem rm_cmp5_2 (l : Launch) (Z : State) (a0 : Array Value) (hw : HW Z a0) (ws : List Jvm.Cond) (s_ : Addr) (ks_ : ClassId) (d_ : Addr) (kd_ : ClassId) (c0_ : Int32) (c1_ : Int32) (h0 : Heap) (n0 : Nat) (O0 : Old Z n0 h0) (A0_ : Arv Z h0 s_ ks_ .char (2 : Int32) [(.int c0_), (.int c1_)] (ii 0)) (A1_ : Arv Z h0 d_ kd_ .byte (2 : Int32) [(ii 0), (ii 0)] (ii 0)) (G2_ : n0 ≤ d_) (NE3_ : s_ ≠ d_) (hs0_ : ¬ ((255 : Int32) < c0_)) (hs1_ : ¬ ((255 : Int32) < c1_)) :
  MFP l Z (⟨nm6, "compress", "([CI[BII)I"⟩ : MethodName) jdk_52_method_21_code 7 (some .int) ({ frames := 0, cells := 0, slots := 0, locals := 0 } : Room) ws #[(rr s_), (ii 0), (rr d_), (ii 0), (ii 2)] h0 (Q_cmp5_2 Z s_ ks_ d_ kd_ c0_ c1_ h0 n0) := by
 refine MetFree.of_bodySF (plainFor_of_name pn_java_lang_StringUTF16) hisR ?_
 intro p e s m args below meth c s₁ Bd hml0 hP hK
 obtain ⟨rfl, hZ, hh⟩ := hP
 have hx := Bd.exec
 have hby := Bd.bytes
 have hml : c.maxLocals = 7 := hml0
 have hown : s.vm.findClass nm6 = some m.cls := findClass_of_methodNamed Bd.named
 have hnm := (name_of_methodNamed Bd.named Bd.method).1
 have X0 : Stand p l e ({ frames := 0, cells := 0, slots := 0, locals := 0 } : Room) s m #[(rr s_), (ii 0), (rr d_), (ii 0), (ii 2)] below meth c s₁ [] 0 0 := Stand.of_body Bd
 have e0 : s₁.heap = h0 := by rw [← hh, Bd.state]; rfl
 have N0 := Fr.nil n0
 have kp0 : Keep h0 h0 [d_] := Keep.refl _ _
 have c0 : ∀ t, S_ p e below s₁ m 0 #[vr s_, vi 0, vr d_, vi 0, vi 2, u_, u_] [] t → Steps p.tables e below (s₁.setTop (entryFrame m #[(rr s_), (ii 0), (rr d_), (ii 0), (ii 2)] 7)) t := fun t k => castTop (ef_cmp5_2 m s_ d_) k
 generalize s₁.setTop (entryFrame m #[(rr s_), (ii 0), (rr d_), (ii 0), (ii 2)] 7) = st0 at c0 ⊢
 replace c0 : Kt p e below s₁ st0 (mkF m 0 #[vr s_, vi 0, vr d_, vi 0, vi 2, u_, u_] []) := c0
 have c1 : Kt p e below s₁ st0 (mkF m 31 #[vr s_, vi 0, vr d_, vi 0, vi 2, vi 0, vi c0_] [(.int (c0_.toInt8.toInt32)), (ii 0), (rr d_)]) := fun t k => by
  refine c0 t ?_
  show S_ p e below s₁ m 0 #[vr s_, vi 0, vr d_, vi 0, vi 2, u_, u_] [] t
  refine XS.iconst X0.here hx rfl (hb hby d0_0) ?_
  refine XS.istore X0.here hx rfl (hb hby d0_1) rfl (l' := #[vr s_, vi 0, vr d_, vi 0, vi 2, vi 0, u_]) rfl ?_
  refine XS.iload X0.here hx rfl (hb hby d0_3) rfl ?_
  refine XS.iload X0.here hx rfl (hb hby d0_5) rfl ?_
  show S_ p e below s₁ m 7 #[vr s_, vi 0, vr d_, vi 0, vi 2, vi 0, u_] [(ii 2), (ii 0)] t
  refine XS.icmpNo X0.here hx rfl (hb hby d0_7) rfl rfl ?_
  refine XS.aloadN X0.here hx rfl (hb hby d0_10) rfl rfl ?_
  refine XS.iloadN X0.here hx rfl (hb hby d0_11) rfl ?_
  refine ldC X0 hx hZ e0 A0_ (v := (.int c0_)) (by decide) (by decide) rfl rfl rfl (hb hby d0_12) ?_
  show S_ p e below s₁ m 13 #[vr s_, vi 0, vr d_, vi 0, vi 2, vi 0, u_] [(.int c0_)] t
  refine XS.istore X0.here hx rfl (hb hby d0_13) rfl (l' := #[vr s_, vi 0, vr d_, vi 0, vi 2, vi 0, vi c0_]) rfl ?_
  refine XS.iload X0.here hx rfl (hb hby d0_15) rfl ?_
  refine XS.sipush X0.here hx rfl (hb hby d0_17) ?_
  refine yC X0.here hx rfl 20 26 rfl (hb hby d0_20) rfl (flt hs0_).2.2.2 ?_
  show S_ p e below s₁ m 26 #[vr s_, vi 0, vr d_, vi 0, vi 2, vi 0, vi c0_] [] t
  refine XS.aloadN X0.here hx rfl (hb hby d0_26) rfl rfl ?_
  refine XS.iloadN X0.here hx rfl (hb hby d0_27) rfl ?_
  refine XS.iload X0.here hx rfl (hb hby d0_28) rfl ?_
  refine XS.i2b X0.here hx rfl (hb hby d0_30) rfl ?_
  exact k
 obtain ⟨T2, h2, X2, e2, W2, f5, o3, N4, c2⟩ := kstB X0 hx hZ e0 A1_ (j := (0 : Int32)) (by decide) (by decide) 0 rfl (Nat.le_of_ble_eq_true rfl) c1 rfl rfl (hb hby d0_31) O0 N0 G2_
 have f6 : Arv Z h2 d_ kd_ .byte (2 : Int32) [(.int (nar .byte (c0_.toInt8.toInt32))), (ii 0)] (ii 0) := f5
 have kp7 := kp0.wr W2 (Or.inl (List.mem_of_getElem? (i := 0) rfl))
 have c8 : Kt p e below T2 st0 (mkF m 31 #[vr s_, vi 1, vr d_, vi 1, vi 2, vi 1, vi c1_] [(.int (c1_.toInt8.toInt32)), (ii 1), (rr d_)]) := fun t k => by
  refine c2 t ?_
  show S_ p e below T2 m 32 #[vr s_, vi 0, vr d_, vi 0, vi 2, vi 0, vi c0_] [] t
  refine XS.iinc X2.here hx rfl (hb hby d0_32) rfl (l' := #[vr s_, vi 1, vr d_, vi 0, vi 2, vi 0, vi c0_]) rfl ?_
  refine XS.iinc X2.here hx rfl (hb hby d0_35) rfl (l' := #[vr s_, vi 1, vr d_, vi 1, vi 2, vi 0, vi c0_]) rfl ?_
  refine XS.iinc X2.here hx rfl (hb hby d0_38) rfl (l' := #[vr s_, vi 1, vr d_, vi 1, vi 2, vi 1, vi c0_]) rfl ?_
  refine yG X2.here hx rfl 41 3 rfl (hb hby d0_41) ?_
  show S_ p e below T2 m 3 #[vr s_, vi 1, vr d_, vi 1, vi 2, vi 1, vi c0_] [] t
  refine XS.iload X2.here hx rfl (hb hby d0_3) rfl ?_
  refine XS.iload X2.here hx rfl (hb hby d0_5) rfl ?_
  refine XS.icmpNo X2.here hx rfl (hb hby d0_7) rfl rfl ?_
  refine XS.aloadN X2.here hx rfl (hb hby d0_10) rfl rfl ?_
  show S_ p e below T2 m 11 #[vr s_, vi 1, vr d_, vi 1, vi 2, vi 1, vi c0_] [(rr s_)] t
  refine XS.iloadN X2.here hx rfl (hb hby d0_11) rfl ?_
  refine ldC X2 hx hZ e2 (A0_.other W2 NE3_) (v := (.int c1_)) (by decide) (by decide) rfl rfl rfl (hb hby d0_12) ?_
  refine XS.istore X2.here hx rfl (hb hby d0_13) rfl (l' := #[vr s_, vi 1, vr d_, vi 1, vi 2, vi 1, vi c1_]) rfl ?_
  refine XS.iload X2.here hx rfl (hb hby d0_15) rfl ?_
  show S_ p e below T2 m 17 #[vr s_, vi 1, vr d_, vi 1, vi 2, vi 1, vi c1_] [(.int c1_)] t
  refine XS.sipush X2.here hx rfl (hb hby d0_17) ?_
  refine yC X2.here hx rfl 20 26 rfl (hb hby d0_20) rfl (flt hs1_).2.2.2 ?_
  refine XS.aloadN X2.here hx rfl (hb hby d0_26) rfl rfl ?_
  refine XS.iloadN X2.here hx rfl (hb hby d0_27) rfl ?_
  show S_ p e below T2 m 28 #[vr s_, vi 1, vr d_, vi 1, vi 2, vi 1, vi c1_] [(ii 1), (rr d_)] t
  refine XS.iload X2.here hx rfl (hb hby d0_28) rfl ?_
  refine XS.i2b X2.here hx rfl (hb hby d0_30) rfl ?_
  exact k
 obtain ⟨T9, h9, X9, e9, W9, f12, o10, N11, c9⟩ := kstB X2 hx hZ e2 f6 (j := (1 : Int32)) (by decide) (by decide) 1 rfl (Nat.le_of_ble_eq_true rfl) c8 rfl rfl (hb hby d0_31) o3 N4 G2_
 have f13 : Arv Z h9 d_ kd_ .byte (2 : Int32) [(.int (nar .byte (c0_.toInt8.toInt32))), (.int (nar .byte (c1_.toInt8.toInt32)))] (ii 0) := f12
 have kp14 := kp7.wr W9 (Or.inl (List.mem_of_getElem? (i := 0) rfl))
 obtain ⟨fs, hr, hrun, hended, hW, hsame⟩ := X9.leave (v := some (ii 2)) (fun h => by rw [Bd.returns] at h; cases h)
 refine ⟨_, _, c9 _ ?_, hrun, hended, _, _, rfl, ?_, ⟨_, rfl⟩, hW, hsame.mono (by decide) (by decide)⟩
 ·show S_ p e below T9 m 32 #[vr s_, vi 1, vr d_, vi 1, vi 2, vi 1, vi c1_] [] _
  refine XS.iinc X9.here hx rfl (hb hby d0_32) rfl (l' := #[vr s_, vi 2, vr d_, vi 1, vi 2, vi 1, vi c1_]) rfl ?_
  refine XS.iinc X9.here hx rfl (hb hby d0_35) rfl (l' := #[vr s_, vi 2, vr d_, vi 2, vi 2, vi 1, vi c1_]) rfl ?_
  refine XS.iinc X9.here hx rfl (hb hby d0_38) rfl (l' := #[vr s_, vi 2, vr d_, vi 2, vi 2, vi 2, vi c1_]) rfl ?_
  refine yG X9.here hx rfl 41 3 rfl (hb hby d0_41) ?_
  show S_ p e below T9 m 3 #[vr s_, vi 2, vr d_, vi 2, vi 2, vi 2, vi c1_] [] _
  refine XS.iload X9.here hx rfl (hb hby d0_3) rfl ?_
  refine XS.iload X9.here hx rfl (hb hby d0_5) rfl ?_
  refine yC X9.here hx rfl 7 44 rfl (hb hby d0_7) rfl rfl ?_
  refine XS.iload X9.here hx rfl (hb hby d0_44) rfl ?_
  show S_ p e below T9 m 46 #[vr s_, vi 2, vr d_, vi 2, vi 2, vi 2, vi c1_] [(ii 2)] _
  exact retOut X9 hx Bd.returns rfl (Or.inl ⟨rfl, Or.inl rfl, _, rfl⟩) (hb hby d0_46) hr
 ·show Q_cmp5_2 Z s_ ks_ d_ kd_ c0_ c1_ h0 n0 _ T9.heap _
  rw [e9]
  exact ⟨rfl, N11, kp14, f13⟩
theorem ef_cmp3_2 (m : MethodId) (s_ : Addr) : entryFrame m #[(rr s_), (ii 0), (ii 2)] 6 = mkF m 0 #[vr s_, vi 0, vi 2, u_, u_, u_] [] := by first | (simp [entryFrame, mkF, argsToLocals, Value.category]; done) | rfl
def Q_cmp3_2 (Z : State) (s_ : Addr) (ks_ : ClassId) (c0_ : Int32) (c1_ : Int32) (h0 : Heap) (n0 : Nat) (v : Option Value) (h : Heap) (L : List Loc) : Prop := ∃ (b_ : Addr), ∃ (kb_ : ClassId), v = some (rr b_) ∧ Fr n0 L ∧ Keep h0 h [] ∧ Arv Z h b_ kb_ .byte (2 : Int32) [(.int (nar .byte (c0_.toInt8.toInt32))), (.int (nar .byte (c1_.toInt8.toInt32)))] (ii 0) ∧ n0 ≤ b_ ∧ h0.size ≤ b_
set_option maxRecDepth 65536 in
set_option maxHeartbeats 40000000 in
theorem rm_cmp3_2 (l : Launch) (Z : State) (a0 : Array Value) (hw : HW Z a0) (ws : List Jvm.Cond) (s_ : Addr) (ks_ : ClassId) (c0_ : Int32) (c1_ : Int32) (h0 : Heap) (n0 : Nat) (O0 : Old Z n0 h0) (A0_ : Arv Z h0 s_ ks_ .char (2 : Int32) [(.int c0_), (.int c1_)] (ii 0)) (hs0_ : ¬ ((255 : Int32) < c0_)) (hs1_ : ¬ ((255 : Int32) < c1_)) :
  MFP l Z (⟨nm6, "compress", "([CII)[B"⟩ : MethodName) jdk_52_method_16_code 6 (some (.array .byte)) ({ frames := 1, cells := 1, slots := 2, locals := 18 } : Room) ws #[(rr s_), (ii 0), (ii 2)] h0 (Q_cmp3_2 Z s_ ks_ c0_ c1_ h0 n0) := by
 refine MetFree.of_bodySF (plainFor_of_name pn_java_lang_StringUTF16) hisR ?_
 intro p e s m args below meth c s₁ Bd hml0 hP hK
 obtain ⟨rfl, hZ, hh⟩ := hP
 have hx := Bd.exec
 have hby := Bd.bytes
 have hml : c.maxLocals = 6 := hml0
 have hown : s.vm.findClass nm6 = some m.cls := findClass_of_methodNamed Bd.named
 have hnm := (name_of_methodNamed Bd.named Bd.method).1
 have X0 : Stand p l e ({ frames := 1, cells := 1, slots := 2, locals := 18 } : Room) s m #[(rr s_), (ii 0), (ii 2)] below meth c s₁ [] 0 0 := Stand.of_body Bd
 have e0 : s₁.heap = h0 := by rw [← hh, Bd.state]; rfl
 have N0 := Fr.nil n0
 have kp0 : Keep h0 h0 [] := Keep.refl _ _
 have c0 : ∀ t, S_ p e below s₁ m 0 #[vr s_, vi 0, vi 2, u_, u_, u_] [] t → Steps p.tables e below (s₁.setTop (entryFrame m #[(rr s_), (ii 0), (ii 2)] 6)) t := fun t k => castTop (ef_cmp3_2 m s_) k
 generalize s₁.setTop (entryFrame m #[(rr s_), (ii 0), (ii 2)] 6) = st0 at c0 ⊢
 replace c0 : Kt p e below s₁ st0 (mkF m 0 #[vr s_, vi 0, vi 2, u_, u_, u_] []) := c0
 have c1 : Kt p e below s₁ st0 (mkF m 1 #[vr s_, vi 0, vi 2, u_, u_, u_] [(ii 2)]) := fun t k => by
  refine c0 t ?_
  show S_ p e below s₁ m 0 #[vr s_, vi 0, vi 2, u_, u_, u_] [] t
  refine XS.iloadN X0.here hx rfl (hb hby d1_0) rfl ?_
  exact k
 obtain ⟨b2, T2, h2, k2, z2, g2, X2, e2, E2, o3, A2, c2⟩ := knewP (aty := .byte) X0 hx hZ (w15 hw) e0 c1 rfl (hb hby d1_1) rfl (by decide) 2 (by decide) (by decide) (by decide) (by decide) O0
 have kp5 := kp0.ext E2
 have z6 := Nat.le_trans kp0.1 z2
 have f4 : Arv Z h2 b2 k2 .byte (2 : Int32) [(ii 0), (ii 0)] (ii 0) := A2.pad (pad_rep [] (ii 0) 2)
 have q7 := Nat.ne_of_lt (Nat.lt_of_lt_of_le A0_.lt z2)
 have c8 : Kt p e below T2 st0 (mkF m 9 #[vr s_, vi 0, vi 2, vr b2, u_, u_] [(ii 2), (ii 0), (rr b2), (ii 0), (rr s_)]) := fun t k => by
  refine c2 t ?_
  show S_ p e below T2 m 3 #[vr s_, vi 0, vi 2, u_, u_, u_] [(rr b2)] t
  refine XS.astoreN X2.here hx rfl (hb hby d1_3) rfl rfl (l' := #[vr s_, vi 0, vi 2, vr b2, u_, u_]) rfl ?_
  refine XS.aloadN X2.here hx rfl (hb hby d1_4) rfl rfl ?_
  refine XS.iloadN X2.here hx rfl (hb hby d1_5) rfl ?_
  refine XS.aloadN X2.here hx rfl (hb hby d1_6) rfl rfl ?_
  show S_ p e below T2 m 7 #[vr s_, vi 0, vi 2, vr b2, u_, u_] [(rr b2), (ii 0), (rr s_)] t
  refine XS.iconst X2.here hx rfl (hb hby d1_7) ?_
  refine XS.iloadN X2.here hx rfl (hb hby d1_8) rfl ?_
  exact k
 obtain ⟨_, T9, L9, X9, hQ9, c9⟩ := kstat X2 hx hZ hown (w185 hw) (w186 hw) (w183 hw) (w187 hw) (rm_cmp5_2 l Z a0 hw [] s_ ks_ b2 k2 c0_ c1_ h2 n0 o3 (A0_.ext E2) f4 g2 q7 hs0_ hs1_) e2 c8 hml pd_pACIABIIrI [(rr s_), (ii 0), (rr b2), (ii 0), (ii 2)] [] 0 (hb hby d1_9) rfl rfl rfl rfl rfl rfl
 obtain ⟨rfl, N10q, K11, p12⟩ := hQ9
 have N10 := Fr.app N0 N10q
 have o13 := o3.keep K11 (allS g2 all0)
 have kp14 := kp5.trans K11 (allS (Or.inr z6) all0)
 obtain ⟨fs, hr, hrun, hended, hW, hsame⟩ := X9.leave (v := some (rr b2)) (fun h => by rw [Bd.returns] at h; cases h)
 refine ⟨_, _, c9 _ ?_, hrun, hended, _, _, rfl, ?_, ⟨_, rfl⟩, hW, hsame.mono (by decide) (by decide)⟩
 ·show S_ p e below T9 m 12 #[vr s_, vi 0, vi 2, vr b2, u_, u_] [(ii 2)] _
  refine XS.istore X9.here hx rfl (hb hby d1_12) rfl (l' := #[vr s_, vi 0, vi 2, vr b2, vi 2, u_]) rfl ?_
  refine XS.iload X9.here hx rfl (hb hby d1_14) rfl ?_
  refine XS.iloadN X9.here hx rfl (hb hby d1_16) rfl ?_
  refine yC X9.here hx rfl 17 57 rfl (hb hby d1_17) rfl rfl ?_
  show S_ p e below T9 m 57 #[vr s_, vi 0, vi 2, vr b2, vi 2, u_] [] _
  refine XS.aloadN X9.here hx rfl (hb hby d1_57) rfl rfl ?_
  show S_ p e below T9 m 58 #[vr s_, vi 0, vi 2, vr b2, vi 2, u_] [(rr b2)] _
  exact retOut X9 hx Bd.returns rfl (Or.inr (Or.inr (Or.inr (Or.inr ⟨rfl, rfl, rfl⟩)))) (hb hby d1_58) hr
 ·show Q_cmp3_2 Z s_ ks_ c0_ c1_ h0 n0 _ T9.heap _
  exact ⟨b2, k2, rfl, N10, kp14, p12, g2, z6⟩
theorem ef_codl_2 (m : MethodId) (s_ : Addr) : entryFrame m #[(rr s_), (ii 2)] 2 = mkF m 0 #[vr s_, vi 2] [] := by first | (simp [entryFrame, mkF, argsToLocals, Value.category]; done) | rfl
def Q_codl_2 (Z : State) (s_ : Addr) (ks_ : ClassId) (vs_ : List Value) (h0 : Heap) (n0 : Nat) (v : Option Value) (h : Heap) (L : List Loc) : Prop := v = some (ii 0) ∧ Fr n0 L ∧ h = h0
set_option maxRecDepth 65536 in
set_option maxHeartbeats 40000000 in
theorem rm_codl_2 (l : Launch) (Z : State) (a0 : Array Value) (hw : HW Z a0) (ws : List Jvm.Cond) (s_ : Addr) (ks_ : ClassId) (vs_ : List Value) (h0 : Heap) (n0 : Nat) (O0 : Old Z n0 h0) (A0_ : Arv Z h0 s_ ks_ .byte (2 : Int32) vs_ (ii 0)) :
  MFP l Z (⟨nm6, "coderFromArrayLen", "([BI)B"⟩ : MethodName) jdk_52_method_15_code 2 (some .byte) ({ frames := 0, cells := 0, slots := 0, locals := 0 } : Room) ws #[(rr s_), (ii 2)] h0 (Q_codl_2 Z s_ ks_ vs_ h0 n0) := by
 refine MetFree.of_bodySF (plainFor_of_name pn_java_lang_StringUTF16) hisR ?_
 intro p e s m args below meth c s₁ Bd hml0 hP hK
 obtain ⟨rfl, hZ, hh⟩ := hP
 have hx := Bd.exec
 have hby := Bd.bytes
 have hml : c.maxLocals = 2 := hml0
 have hown : s.vm.findClass nm6 = some m.cls := findClass_of_methodNamed Bd.named
 have hnm := (name_of_methodNamed Bd.named Bd.method).1
 have X0 : Stand p l e ({ frames := 0, cells := 0, slots := 0, locals := 0 } : Room) s m #[(rr s_), (ii 2)] below meth c s₁ [] 0 0 := Stand.of_body Bd
 have e0 : s₁.heap = h0 := by rw [← hh, Bd.state]; rfl
 have N0 := Fr.nil n0
 have kp0 : Keep h0 h0 [] := Keep.refl _ _
 have c0 : ∀ t, S_ p e below s₁ m 0 #[vr s_, vi 2] [] t → Steps p.tables e below (s₁.setTop (entryFrame m #[(rr s_), (ii 2)] 2)) t := fun t k => castTop (ef_codl_2 m s_) k
 generalize s₁.setTop (entryFrame m #[(rr s_), (ii 2)] 2) = st0 at c0 ⊢
 replace c0 : Kt p e below s₁ st0 (mkF m 0 #[vr s_, vi 2] []) := c0
 obtain ⟨fs, hr, hrun, hended, hW, hsame⟩ := X0.leave (v := some (ii 0)) (fun h => by rw [Bd.returns] at h; cases h)
 refine ⟨_, _, c0 _ ?_, hrun, hended, _, _, rfl, ?_, ⟨_, rfl⟩, hW, hsame.mono (by decide) (by decide)⟩
 ·show S_ p e below s₁ m 0 #[vr s_, vi 2] [] _
  refine XS.iloadN X0.here hx rfl (hb hby d2_0) rfl ?_
  refine XS.aloadN X0.here hx rfl (hb hby d2_1) rfl rfl ?_
  refine ldLen X0 hx hZ e0 A0_ rfl rfl (hb hby d2_2) ?_
  refine XS.isub X0.here hx rfl (hb hby d2_3) rfl ?_
  show S_ p e below s₁ m 4 #[vr s_, vi 2] [(ii 0)] _
  refine XS.bipush X0.here hx rfl (hb hby d2_4) ?_
  refine XS.iushr X0.here hx rfl (hb hby d2_6) rfl ?_
  refine XS.i2b X0.here hx rfl (hb hby d2_7) rfl ?_
  show S_ p e below s₁ m 8 #[vr s_, vi 2] [(ii 0)] _
  exact retN X0 hx (t := .byte) Bd.returns (by simp) (hb hby d2_8) hr
 ·show Q_codl_2 Z s_ ks_ vs_ h0 n0 _ s₁.heap _
  rw [e0]
  exact ⟨rfl, N0, rfl⟩
theorem ef_str4_2 (m : MethodId) (x_ : Addr) (s_ : Addr) : entryFrame m #[(rr x_), (rr s_), (ii 0), (ii 2), .null] 6 = mkF m 0 #[vr x_, vr s_, vi 0, vi 2, .val .null, u_] [] := by first | (simp [entryFrame, mkF, argsToLocals, Value.category]; done) | rfl
def Q_str4_2 (Z : State) (x_ : Addr) (s_ : Addr) (ks_ : ClassId) (z_ : Int32) (c0_ : Int32) (c1_ : Int32) (h0 : Heap) (n0 : Nat) (v : Option Value) (h : Heap) (L : List Loc) : Prop := v = none ∧ Fr n0 L ∧ Keep h0 h [x_] ∧ Exa Z h x_ nm0 ∧ Fld Z h x_ nm0 "coder" "B" (ii 0) ∧ ∃ (b_ : Addr), ∃ (kb_ : ClassId), Fld Z h x_ nm0 "value" "[B" (rr b_) ∧ Arv Z h b_ kb_ .byte (2 : Int32) [(.int (nar .byte (c0_.toInt8.toInt32))), (.int (nar .byte (c1_.toInt8.toInt32)))] (ii 0) ∧ n0 ≤ b_ ∧ h0.size ≤ b_
set_option maxRecDepth 65536 in
set_option maxHeartbeats 40000000 in
theorem rm_str4_2 (l : Launch) (Z : State) (a0 : Array Value) (hw : HW Z a0) (ws : List Jvm.Cond) (x_ : Addr) (s_ : Addr) (ks_ : ClassId) (z_ : Int32) (c0_ : Int32) (c1_ : Int32) (h0 : Heap) (n0 : Nat) (O0 : Old Z n0 h0) (E0_ : Exa Z h0 x_ nm0) (F1_ : Fld Z h0 x_ nm0 "value" "[B" .null) (F2_ : Fld Z h0 x_ nm0 "coder" "B" (ii 0)) (G3_ : n0 ≤ x_) (A4_ : Arv Z h0 s_ ks_ .char (2 : Int32) [(.int c0_), (.int c1_)] (ii 0)) (ZS5_ : Sta Z Z.heap nm0 "COMPACT_STRINGS" "Z" (.int z_)) (hz_ : ¬ (z_ = (0 : Int32))) (hs0_ : ¬ ((255 : Int32) < c0_)) (hs1_ : ¬ ((255 : Int32) < c1_)) :
  MFP l Z (⟨nm0, "<init>", "([CIILjava/lang/Void;)V"⟩ : MethodName) jdk_42_method_149_code 6 none ({ frames := 2, cells := 1, slots := 2, locals := 35 } : Room) ws #[(rr x_), (rr s_), (ii 0), (ii 2), .null] h0 (Q_str4_2 Z x_ s_ ks_ z_ c0_ c1_ h0 n0) := by
 refine MetFree.of_bodySF (plainFor_of_name pn_java_lang_String) hisR ?_
 intro p e s m args below meth c s₁ Bd hml0 hP hK
 obtain ⟨rfl, hZ, hh⟩ := hP
 have hx := Bd.exec
 have hby := Bd.bytes
 have hml : c.maxLocals = 6 := hml0
 have hown : s.vm.findClass nm0 = some m.cls := findClass_of_methodNamed Bd.named
 have hnm := (name_of_methodNamed Bd.named Bd.method).1
 have X0 : Stand p l e ({ frames := 2, cells := 1, slots := 2, locals := 35 } : Room) s m #[(rr x_), (rr s_), (ii 0), (ii 2), .null] below meth c s₁ [] 0 0 := Stand.of_body Bd
 have e0 : s₁.heap = h0 := by rw [← hh, Bd.state]; rfl
 have N0 := Fr.nil n0
 have kp0 : Keep h0 h0 [x_] := Keep.refl _ _
 have c0 : ∀ t, S_ p e below s₁ m 0 #[vr x_, vr s_, vi 0, vi 2, .val .null, u_] [] t → Steps p.tables e below (s₁.setTop (entryFrame m #[(rr x_), (rr s_), (ii 0), (ii 2), .null] 6)) t := fun t k => castTop (ef_str4_2 m x_ s_) k
 generalize s₁.setTop (entryFrame m #[(rr x_), (rr s_), (ii 0), (ii 2), .null] 6) = st0 at c0 ⊢
 replace c0 : Kt p e below s₁ st0 (mkF m 0 #[vr x_, vr s_, vi 0, vi 2, .val .null, u_] []) := c0
 have c1 : Kt p e below s₁ st0 (mkF m 1 #[vr x_, vr s_, vi 0, vi 2, .val .null, u_] [(rr x_)]) := fun t k => by
  refine c0 t ?_
  show S_ p e below s₁ m 0 #[vr x_, vr s_, vi 0, vi 2, .val .null, u_] [] t
  refine XS.aloadN X0.here hx rfl (hb hby d3_0) rfl rfl ?_
  exact k
 obtain ⟨T2, X2, e2, c2⟩ := kinit X0 hx hZ hown (w11 hw) (w12 hw) (w13 hw) e0 c1 rfl hml rfl rfl (hb hby d3_1) 0 (own_w rfl) (by decide) (by decide)
 have c3 : Kt p e below T2 st0 (mkF m 27 #[vr x_, vr s_, vi 0, vi 2, .val .null, u_] []) := fun t k => by
  refine c2 t ?_
  show S_ p e below T2 m 4 #[vr x_, vr s_, vi 0, vi 2, .val .null, u_] [] t
  refine XS.iloadN X2.here hx rfl (hb hby d3_4) rfl ?_
  refine yI X2.here hx rfl 5 27 rfl (hb hby d3_5) rfl rfl ?_
  exact k
 obtain ⟨T4, X4, e4, c4⟩ := kgetS X2 hx hZ hown (host := "") (Or.inl (w35 hw)) Via.refl e2 (ZS5_.ext O0.2) c3 rfl (hb hby d3_27)
 have c5 : Kt p e below T4 st0 (mkF m 36 #[vr x_, vr s_, vi 0, vi 2, .val .null, u_] [(ii 2), (ii 0), (rr s_)]) := fun t k => by
  refine c4 t ?_
  show S_ p e below T4 m 30 #[vr x_, vr s_, vi 0, vi 2, .val .null, u_] [(.int z_)] t
  refine XS.ifNo X4.here hx rfl (hb hby d3_30) rfl ((if0 _ _).trans (feq hz_).1) ?_
  refine XS.aloadN X4.here hx rfl (hb hby d3_33) rfl rfl ?_
  refine XS.iloadN X4.here hx rfl (hb hby d3_34) rfl ?_
  refine XS.iloadN X4.here hx rfl (hb hby d3_35) rfl ?_
  exact k
 obtain ⟨_, T6, L6, X6, hQ6, c6⟩ := kstat X4 hx hZ hown (w181 hw) (w182 hw) (w183 hw) (w184 hw) (rm_cmp3_2 l Z a0 hw [] s_ ks_ c0_ c1_ h0 n0 O0 A4_ hs0_ hs1_) e4 c5 hml pd_pACIIrAB [(rr s_), (ii 0), (ii 2)] [] 0 (hb hby d3_36) rfl rfl rfl rfl rfl rfl
 obtain ⟨b7, k8, rfl, N9q, K10, p11, p12, p13⟩ := hQ6
 have N9 := Fr.app N0 N9q
 have o14 := O0.keep K10 all0
 have kp15 := kp0.trans K10 all0
 have z16 := Nat.le_trans kp0.1 p13
 have g17 := Nat.le_trans (Nat.le_trans (Nat.le_of_eq O0.1.symm) O0.2.1) p13
 have c18 : Kt p e below T6 st0 (mkF m 45 #[vr x_, vr s_, vi 0, vi 2, .val .null, vr b7] [(ii 2), (rr b7), (rr x_)]) := fun t k => by
  refine c6 t ?_
  show S_ p e below T6 m 39 #[vr x_, vr s_, vi 0, vi 2, .val .null, u_] [(rr b7)] t
  refine XS.astore X6.here hx rfl (hb hby d3_39) rfl rfl (l' := #[vr x_, vr s_, vi 0, vi 2, .val .null, vr b7]) rfl ?_
  refine XS.aloadN X6.here hx rfl (hb hby d3_41) rfl rfl ?_
  refine XS.aload X6.here hx rfl (hb hby d3_42) rfl rfl ?_
  refine XS.iloadN X6.here hx rfl (hb hby d3_44) rfl ?_
  exact k
 obtain ⟨_, T19, L19, X19, hQ19, c19⟩ := kstat X6 hx hZ hown (w188 hw) (w189 hw) (w183 hw) (w190 hw) (rm_codl_2 l Z a0 hw [] b7 k8 [(.int (nar .byte (c0_.toInt8.toInt32))), (.int (nar .byte (c1_.toInt8.toInt32)))] T6.heap n0 o14 p11) rfl c18 hml pd_pABIrB [(rr b7), (ii 2)] [(rr x_)] 1 (hb hby d3_45) rfl rfl rfl rfl rfl rfl
 obtain ⟨rfl, N20q, K21⟩ := hQ19
 have N20 := Fr.app N9 N20q
 obtain ⟨T22, h22, X22, e22, W22, f23, o25, N24, c22⟩ := kput X19 hx hZ .byte hown (host := "") (Or.inl (w21 hw)) Via.refl K21 (F2_.keep K10 nin0) (E0_.keep K10) (Or.inr ⟨(w17 hw), rfl, hnm⟩) (w2 hw) c19 rfl rfl (hb hby d3_48) (by decide) rfl rfl o14 N20 G3_
 have kp26 := kp15.wr W22 (Or.inl (List.mem_of_getElem? (i := 0) rfl))
 have f27 := (F1_.keep K10 nin0).other W22 (Or.inr (slot_ne (Or.inr (w16 hw)) (Or.inr (w17 hw)) (by decide) (t := (.array .byte)) (t' := .byte) (by decide) (by decide)))
 have c28 : Kt p e below T22 st0 (mkF m 54 #[vr x_, vr s_, vi 0, vi 2, .val .null, vr b7] [(rr b7), (rr x_)]) := fun t k => by
  refine c22 t ?_
  show S_ p e below T22 m 51 #[vr x_, vr s_, vi 0, vi 2, .val .null, vr b7] [] t
  refine XS.aloadN X22.here hx rfl (hb hby d3_51) rfl rfl ?_
  refine XS.aload X22.here hx rfl (hb hby d3_52) rfl rfl ?_
  exact k
 obtain ⟨T29, h29, X29, e29, W29, f30, o32, N31, c29⟩ := kput X22 hx hZ (.array .byte) hown (host := "") (Or.inl (w20 hw)) Via.refl e22 f27 ((E0_.keep K10).wr W22) (Or.inr ⟨(w16 hw), rfl, hnm⟩) (w2 hw) c28 rfl rfl (hb hby d3_54) (by decide) rfl rfl o25 N24 G3_
 have kp33 := kp26.wr W29 (Or.inl (List.mem_of_getElem? (i := 0) rfl))
 have f34 := f23.other W29 (Or.inr (slot_ne (Or.inr (w17 hw)) (Or.inr (w16 hw)) (by decide) (t := .byte) (t' := (.array .byte)) (by decide) (by decide)))
 have q35 := Ne.symm (Nat.ne_of_lt (Nat.lt_of_lt_of_le E0_.lt p13))
 obtain ⟨fs, hr, hrun, hended, hW, hsame⟩ := X29.leave (v := none) (fun _ => rfl)
 refine ⟨_, _, c29 _ ?_, hrun, hended, _, _, rfl, ?_, ⟨_, rfl⟩, hW, hsame.mono (by decide) (by decide)⟩
 ·show S_ p e below T29 m 57 #[vr x_, vr s_, vi 0, vi 2, .val .null, vr b7] [] _
  exact X29.returnOut hx Bd.returns (hb hby d3_57) hr
 ·show Q_str4_2 Z x_ s_ ks_ z_ c0_ c1_ h0 n0 _ T29.heap _
  rw [e29]
  exact ⟨rfl, N31, kp33, (((E0_.keep K10).wr W22).wr W29), f34, b7, k8, f30, ((p11.other W22 q35).other W29 q35), g17, z16⟩
theorem ef_str1_2 (m : MethodId) (x_ : Addr) (s_ : Addr) : entryFrame m #[(rr x_), (rr s_)] 2 = mkF m 0 #[vr x_, vr s_] [] := by first | (simp [entryFrame, mkF, argsToLocals, Value.category]; done) | rfl
def Q_str1_2 (Z : State) (x_ : Addr) (s_ : Addr) (ks_ : ClassId) (z_ : Int32) (c0_ : Int32) (c1_ : Int32) (h0 : Heap) (n0 : Nat) (v : Option Value) (h : Heap) (L : List Loc) : Prop := v = none ∧ Fr n0 L ∧ Keep h0 h [x_] ∧ Exa Z h x_ nm0 ∧ Fld Z h x_ nm0 "coder" "B" (ii 0) ∧ ∃ (b_ : Addr), ∃ (kb_ : ClassId), Fld Z h x_ nm0 "value" "[B" (rr b_) ∧ Arv Z h b_ kb_ .byte (2 : Int32) [(.int (nar .byte (c0_.toInt8.toInt32))), (.int (nar .byte (c1_.toInt8.toInt32)))] (ii 0) ∧ n0 ≤ b_ ∧ h0.size ≤ b_
set_option maxRecDepth 65536 in
set_option maxHeartbeats 40000000 in
theorem rm_str1_2 (l : Launch) (Z : State) (a0 : Array Value) (hw : HW Z a0) (ws : List Jvm.Cond) (x_ : Addr) (s_ : Addr) (ks_ : ClassId) (z_ : Int32) (c0_ : Int32) (c1_ : Int32) (h0 : Heap) (n0 : Nat) (O0 : Old Z n0 h0) (E0_ : Exa Z h0 x_ nm0) (F1_ : Fld Z h0 x_ nm0 "value" "[B" .null) (F2_ : Fld Z h0 x_ nm0 "coder" "B" (ii 0)) (G3_ : n0 ≤ x_) (A4_ : Arv Z h0 s_ ks_ .char (2 : Int32) [(.int c0_), (.int c1_)] (ii 0)) (ZS5_ : Sta Z Z.heap nm0 "COMPACT_STRINGS" "Z" (.int z_)) (hz_ : ¬ (z_ = (0 : Int32))) (hs0_ : ¬ ((255 : Int32) < c0_)) (hs1_ : ¬ ((255 : Int32) < c1_)) :
  MFP l Z (⟨nm0, "<init>", "([C)V"⟩ : MethodName) jdk_42_method_3_code 2 none ({ frames := 3, cells := 1, slots := 2, locals := 52 } : Room) ws #[(rr x_), (rr s_)] h0 (Q_str1_2 Z x_ s_ ks_ z_ c0_ c1_ h0 n0) := by
 refine MetFree.of_bodySF (plainFor_of_name pn_java_lang_String) hisR ?_
 intro p e s m args below meth c s₁ Bd hml0 hP hK
 obtain ⟨rfl, hZ, hh⟩ := hP
 have hx := Bd.exec
 have hby := Bd.bytes
 have hml : c.maxLocals = 2 := hml0
 have hown : s.vm.findClass nm0 = some m.cls := findClass_of_methodNamed Bd.named
 have hnm := (name_of_methodNamed Bd.named Bd.method).1
 have X0 : Stand p l e ({ frames := 3, cells := 1, slots := 2, locals := 52 } : Room) s m #[(rr x_), (rr s_)] below meth c s₁ [] 0 0 := Stand.of_body Bd
 have e0 : s₁.heap = h0 := by rw [← hh, Bd.state]; rfl
 have N0 := Fr.nil n0
 have kp0 : Keep h0 h0 [x_] := Keep.refl _ _
 have c0 : ∀ t, S_ p e below s₁ m 0 #[vr x_, vr s_] [] t → Steps p.tables e below (s₁.setTop (entryFrame m #[(rr x_), (rr s_)] 2)) t := fun t k => castTop (ef_str1_2 m x_ s_) k
 generalize s₁.setTop (entryFrame m #[(rr x_), (rr s_)] 2) = st0 at c0 ⊢
 replace c0 : Kt p e below s₁ st0 (mkF m 0 #[vr x_, vr s_] []) := c0
 have c1 : Kt p e below s₁ st0 (mkF m 6 #[vr x_, vr s_] [.null, (ii 2), (ii 0), (rr s_), (rr x_)]) := fun t k => by
  refine c0 t ?_
  show S_ p e below s₁ m 0 #[vr x_, vr s_] [] t
  refine XS.aloadN X0.here hx rfl (hb hby d4_0) rfl rfl ?_
  refine XS.aloadN X0.here hx rfl (hb hby d4_1) rfl rfl ?_
  refine XS.iconst X0.here hx rfl (hb hby d4_2) ?_
  refine XS.aloadN X0.here hx rfl (hb hby d4_3) rfl rfl ?_
  show S_ p e below s₁ m 4 #[vr x_, vr s_] [(rr s_), (ii 0), (rr s_), (rr x_)] t
  refine ldLen X0 hx hZ e0 A4_ rfl rfl (hb hby d4_4) ?_
  refine XS.aconstNull X0.here hx rfl (hb hby d4_5) ?_
  exact k
 obtain ⟨_, T2, L2, X2, hQ2, c2⟩ := kspec X0 hx hZ hown (w7 hw) (w8 hw) (w3 hw) (w10 hw) (rm_str4_2 l Z a0 hw [] x_ s_ ks_ z_ c0_ c1_ h0 n0 O0 E0_ F1_ F2_ G3_ A4_ ZS5_ hz_ hs0_ hs1_) e0 c1 hml pd_pACIILjava_lang_Void_rV x_ [(rr s_), (ii 0), (ii 2), .null] [] 0 (hb hby d4_6) rfl rfl rfl rfl rfl rfl
 obtain ⟨rfl, N3q, K4, p5, p6, b7, k8, p9, p10, p11, p12⟩ := hQ2
 have N3 := Fr.app N0 N3q
 have o13 := O0.keep K4 (allS G3_ all0)
 have kp14 := kp0.trans K4 (allS (Or.inl (List.mem_of_getElem? (i := 0) rfl)) all0)
 have z15 := Nat.le_trans kp0.1 p12
 have g16 := Nat.le_trans (Nat.le_trans (Nat.le_of_eq O0.1.symm) O0.2.1) p12
 obtain ⟨fs, hr, hrun, hended, hW, hsame⟩ := X2.leave (v := none) (fun _ => rfl)
 refine ⟨_, _, c2 _ ?_, hrun, hended, _, _, rfl, ?_, ⟨_, rfl⟩, hW, hsame.mono (by decide) (by decide)⟩
 ·show S_ p e below T2 m 9 #[vr x_, vr s_] [] _
  exact X2.returnOut hx Bd.returns (hb hby d4_9) hr
 ·show Q_str1_2 Z x_ s_ ks_ z_ c0_ c1_ h0 n0 _ T2.heap _
  exact ⟨rfl, N3, kp14, p5, p6, b7, k8, p9, p10, g16, z15⟩
theorem ef_cmp5_3 (m : MethodId) (s_ : Addr) (d_ : Addr) : entryFrame m #[(rr s_), (ii 0), (rr d_), (ii 0), (ii 3)] 7 = mkF m 0 #[vr s_, vi 0, vr d_, vi 0, vi 3, u_, u_] [] := by first | (simp [entryFrame, mkF, argsToLocals, Value.category]; done) | rfl
def Q_cmp5_3 (Z : State) (s_ : Addr) (ks_ : ClassId) (d_ : Addr) (kd_ : ClassId) (c0_ : Int32) (c1_ : Int32) (c2_ : Int32) (h0 : Heap) (n0 : Nat) (v : Option Value) (h : Heap) (L : List Loc) : Prop := v = some (ii 3) ∧ Fr n0 L ∧ Keep h0 h [d_] ∧ Arv Z h d_ kd_ .byte (3 : Int32) [(.int (nar .byte (c0_.toInt8.toInt32))), (.int (nar .byte (c1_.toInt8.toInt32))), (.int (nar .byte (c2_.toInt8.toInt32)))] (ii 0)
set_option maxRecDepth 65536 in
set_option maxHeartbeats 40000000 in
theorem rm_cmp5_3 (l : Launch) (Z : State) (a0 : Array Value) (hw : HW Z a0) (ws : List Jvm.Cond) (s_ : Addr) (ks_ : ClassId) (d_ : Addr) (kd_ : ClassId) (c0_ : Int32) (c1_ : Int32) (c2_ : Int32) (h0 : Heap) (n0 : Nat) (O0 : Old Z n0 h0) (A0_ : Arv Z h0 s_ ks_ .char (3 : Int32) [(.int c0_), (.int c1_), (.int c2_)] (ii 0)) (A1_ : Arv Z h0 d_ kd_ .byte (3 : Int32) [(ii 0), (ii 0), (ii 0)] (ii 0)) (G2_ : n0 ≤ d_) (NE3_ : s_ ≠ d_) (hs0_ : ¬ ((255 : Int32) < c0_)) (hs1_ : ¬ ((255 : Int32) < c1_)) (hs2_ : ¬ ((255 : Int32) < c2_)) :
  MFP l Z (⟨nm6, "compress", "([CI[BII)I"⟩ : MethodName) jdk_52_method_21_code 7 (some .int) ({ frames := 0, cells := 0, slots := 0, locals := 0 } : Room) ws #[(rr s_), (ii 0), (rr d_), (ii 0), (ii 3)] h0 (Q_cmp5_3 Z s_ ks_ d_ kd_ c0_ c1_ c2_ h0 n0) := by
 refine MetFree.of_bodySF (plainFor_of_name pn_java_lang_StringUTF16) hisR ?_
 intro p e s m args below meth c s₁ Bd hml0 hP hK
 obtain ⟨rfl, hZ, hh⟩ := hP
 have hx := Bd.exec
 have hby := Bd.bytes
 have hml : c.maxLocals = 7 := hml0
 have hown : s.vm.findClass nm6 = some m.cls := findClass_of_methodNamed Bd.named
 have hnm := (name_of_methodNamed Bd.named Bd.method).1
 have X0 : Stand p l e ({ frames := 0, cells := 0, slots := 0, locals := 0 } : Room) s m #[(rr s_), (ii 0), (rr d_), (ii 0), (ii 3)] below meth c s₁ [] 0 0 := Stand.of_body Bd
 have e0 : s₁.heap = h0 := by rw [← hh, Bd.state]; rfl
 have N0 := Fr.nil n0
 have kp0 : Keep h0 h0 [d_] := Keep.refl _ _
 have c0 : ∀ t, S_ p e below s₁ m 0 #[vr s_, vi 0, vr d_, vi 0, vi 3, u_, u_] [] t → Steps p.tables e below (s₁.setTop (entryFrame m #[(rr s_), (ii 0), (rr d_), (ii 0), (ii 3)] 7)) t := fun t k => castTop (ef_cmp5_3 m s_ d_) k
 generalize s₁.setTop (entryFrame m #[(rr s_), (ii 0), (rr d_), (ii 0), (ii 3)] 7) = st0 at c0 ⊢
 replace c0 : Kt p e below s₁ st0 (mkF m 0 #[vr s_, vi 0, vr d_, vi 0, vi 3, u_, u_] []) := c0
 have c1 : Kt p e below s₁ st0 (mkF m 31 #[vr s_, vi 0, vr d_, vi 0, vi 3, vi 0, vi c0_] [(.int (c0_.toInt8.toInt32)), (ii 0), (rr d_)]) := fun t k => by
  refine c0 t ?_
  show S_ p e below s₁ m 0 #[vr s_, vi 0, vr d_, vi 0, vi 3, u_, u_] [] t
  refine XS.iconst X0.here hx rfl (hb hby d0_0) ?_
  refine XS.istore X0.here hx rfl (hb hby d0_1) rfl (l' := #[vr s_, vi 0, vr d_, vi 0, vi 3, vi 0, u_]) rfl ?_
  refine XS.iload X0.here hx rfl (hb hby d0_3) rfl ?_
  refine XS.iload X0.here hx rfl (hb hby d0_5) rfl ?_
  show S_ p e below s₁ m 7 #[vr s_, vi 0, vr d_, vi 0, vi 3, vi 0, u_] [(ii 3), (ii 0)] t
  refine XS.icmpNo X0.here hx rfl (hb hby d0_7) rfl rfl ?_
  refine XS.aloadN X0.here hx rfl (hb hby d0_10) rfl rfl ?_
  refine XS.iloadN X0.here hx rfl (hb hby d0_11) rfl ?_
  refine ldC X0 hx hZ e0 A0_ (v := (.int c0_)) (by decide) (by decide) rfl rfl rfl (hb hby d0_12) ?_
  show S_ p e below s₁ m 13 #[vr s_, vi 0, vr d_, vi 0, vi 3, vi 0, u_] [(.int c0_)] t
  refine XS.istore X0.here hx rfl (hb hby d0_13) rfl (l' := #[vr s_, vi 0, vr d_, vi 0, vi 3, vi 0, vi c0_]) rfl ?_
  refine XS.iload X0.here hx rfl (hb hby d0_15) rfl ?_
  refine XS.sipush X0.here hx rfl (hb hby d0_17) ?_
  refine yC X0.here hx rfl 20 26 rfl (hb hby d0_20) rfl (flt hs0_).2.2.2 ?_
  show S_ p e below s₁ m 26 #[vr s_, vi 0, vr d_, vi 0, vi 3, vi 0, vi c0_] [] t
  refine XS.aloadN X0.here hx rfl (hb hby d0_26) rfl rfl ?_
  refine XS.iloadN X0.here hx rfl (hb hby d0_27) rfl ?_
  refine XS.iload X0.here hx rfl (hb hby d0_28) rfl ?_
  refine XS.i2b X0.here hx rfl (hb hby d0_30) rfl ?_
  exact k
 obtain ⟨T2, h2, X2, e2, W2, f5, o3, N4, c2⟩ := kstB X0 hx hZ e0 A1_ (j := (0 : Int32)) (by decide) (by decide) 0 rfl (Nat.le_of_ble_eq_true rfl) c1 rfl rfl (hb hby d0_31) O0 N0 G2_
 have f6 : Arv Z h2 d_ kd_ .byte (3 : Int32) [(.int (nar .byte (c0_.toInt8.toInt32))), (ii 0), (ii 0)] (ii 0) := f5
 have kp7 := kp0.wr W2 (Or.inl (List.mem_of_getElem? (i := 0) rfl))
 have c8 : Kt p e below T2 st0 (mkF m 31 #[vr s_, vi 1, vr d_, vi 1, vi 3, vi 1, vi c1_] [(.int (c1_.toInt8.toInt32)), (ii 1), (rr d_)]) := fun t k => by
  refine c2 t ?_
  show S_ p e below T2 m 32 #[vr s_, vi 0, vr d_, vi 0, vi 3, vi 0, vi c0_] [] t
  refine XS.iinc X2.here hx rfl (hb hby d0_32) rfl (l' := #[vr s_, vi 1, vr d_, vi 0, vi 3, vi 0, vi c0_]) rfl ?_
  refine XS.iinc X2.here hx rfl (hb hby d0_35) rfl (l' := #[vr s_, vi 1, vr d_, vi 1, vi 3, vi 0, vi c0_]) rfl ?_
  refine XS.iinc X2.here hx rfl (hb hby d0_38) rfl (l' := #[vr s_, vi 1, vr d_, vi 1, vi 3, vi 1, vi c0_]) rfl ?_
  refine yG X2.here hx rfl 41 3 rfl (hb hby d0_41) ?_
  show S_ p e below T2 m 3 #[vr s_, vi 1, vr d_, vi 1, vi 3, vi 1, vi c0_] [] t
  refine XS.iload X2.here hx rfl (hb hby d0_3) rfl ?_
  refine XS.iload X2.here hx rfl (hb hby d0_5) rfl ?_
  refine XS.icmpNo X2.here hx rfl (hb hby d0_7) rfl rfl ?_
  refine XS.aloadN X2.here hx rfl (hb hby d0_10) rfl rfl ?_
  show S_ p e below T2 m 11 #[vr s_, vi 1, vr d_, vi 1, vi 3, vi 1, vi c0_] [(rr s_)] t
  refine XS.iloadN X2.here hx rfl (hb hby d0_11) rfl ?_
  refine ldC X2 hx hZ e2 (A0_.other W2 NE3_) (v := (.int c1_)) (by decide) (by decide) rfl rfl rfl (hb hby d0_12) ?_
  refine XS.istore X2.here hx rfl (hb hby d0_13) rfl (l' := #[vr s_, vi 1, vr d_, vi 1, vi 3, vi 1, vi c1_]) rfl ?_
  refine XS.iload X2.here hx rfl (hb hby d0_15) rfl ?_
  show S_ p e below T2 m 17 #[vr s_, vi 1, vr d_, vi 1, vi 3, vi 1, vi c1_] [(.int c1_)] t
  refine XS.sipush X2.here hx rfl (hb hby d0_17) ?_
  refine yC X2.here hx rfl 20 26 rfl (hb hby d0_20) rfl (flt hs1_).2.2.2 ?_
  refine XS.aloadN X2.here hx rfl (hb hby d0_26) rfl rfl ?_
  refine XS.iloadN X2.here hx rfl (hb hby d0_27) rfl ?_
  show S_ p e below T2 m 28 #[vr s_, vi 1, vr d_, vi 1, vi 3, vi 1, vi c1_] [(ii 1), (rr d_)] t
  refine XS.iload X2.here hx rfl (hb hby d0_28) rfl ?_
  refine XS.i2b X2.here hx rfl (hb hby d0_30) rfl ?_
  exact k
 obtain ⟨T9, h9, X9, e9, W9, f12, o10, N11, c9⟩ := kstB X2 hx hZ e2 f6 (j := (1 : Int32)) (by decide) (by decide) 1 rfl (Nat.le_of_ble_eq_true rfl) c8 rfl rfl (hb hby d0_31) o3 N4 G2_
 have f13 : Arv Z h9 d_ kd_ .byte (3 : Int32) [(.int (nar .byte (c0_.toInt8.toInt32))), (.int (nar .byte (c1_.toInt8.toInt32))), (ii 0)] (ii 0) := f12
 have kp14 := kp7.wr W9 (Or.inl (List.mem_of_getElem? (i := 0) rfl))
 have c15 : Kt p e below T9 st0 (mkF m 31 #[vr s_, vi 2, vr d_, vi 2, vi 3, vi 2, vi c2_] [(.int (c2_.toInt8.toInt32)), (ii 2), (rr d_)]) := fun t k => by
  refine c9 t ?_
  show S_ p e below T9 m 32 #[vr s_, vi 1, vr d_, vi 1, vi 3, vi 1, vi c1_] [] t
  refine XS.iinc X9.here hx rfl (hb hby d0_32) rfl (l' := #[vr s_, vi 2, vr d_, vi 1, vi 3, vi 1, vi c1_]) rfl ?_
  refine XS.iinc X9.here hx rfl (hb hby d0_35) rfl (l' := #[vr s_, vi 2, vr d_, vi 2, vi 3, vi 1, vi c1_]) rfl ?_
  refine XS.iinc X9.here hx rfl (hb hby d0_38) rfl (l' := #[vr s_, vi 2, vr d_, vi 2, vi 3, vi 2, vi c1_]) rfl ?_
  refine yG X9.here hx rfl 41 3 rfl (hb hby d0_41) ?_
  show S_ p e below T9 m 3 #[vr s_, vi 2, vr d_, vi 2, vi 3, vi 2, vi c1_] [] t
  refine XS.iload X9.here hx rfl (hb hby d0_3) rfl ?_
  refine XS.iload X9.here hx rfl (hb hby d0_5) rfl ?_
  refine XS.icmpNo X9.here hx rfl (hb hby d0_7) rfl rfl ?_
  refine XS.aloadN X9.here hx rfl (hb hby d0_10) rfl rfl ?_
  show S_ p e below T9 m 11 #[vr s_, vi 2, vr d_, vi 2, vi 3, vi 2, vi c1_] [(rr s_)] t
  refine XS.iloadN X9.here hx rfl (hb hby d0_11) rfl ?_
  refine ldC X9 hx hZ e9 ((A0_.other W2 NE3_).other W9 NE3_) (v := (.int c2_)) (by decide) (by decide) rfl rfl rfl (hb hby d0_12) ?_
  refine XS.istore X9.here hx rfl (hb hby d0_13) rfl (l' := #[vr s_, vi 2, vr d_, vi 2, vi 3, vi 2, vi c2_]) rfl ?_
  refine XS.iload X9.here hx rfl (hb hby d0_15) rfl ?_
  show S_ p e below T9 m 17 #[vr s_, vi 2, vr d_, vi 2, vi 3, vi 2, vi c2_] [(.int c2_)] t
  refine XS.sipush X9.here hx rfl (hb hby d0_17) ?_
  refine yC X9.here hx rfl 20 26 rfl (hb hby d0_20) rfl (flt hs2_).2.2.2 ?_
  refine XS.aloadN X9.here hx rfl (hb hby d0_26) rfl rfl ?_
  refine XS.iloadN X9.here hx rfl (hb hby d0_27) rfl ?_
  show S_ p e below T9 m 28 #[vr s_, vi 2, vr d_, vi 2, vi 3, vi 2, vi c2_] [(ii 2), (rr d_)] t
  refine XS.iload X9.here hx rfl (hb hby d0_28) rfl ?_
  refine XS.i2b X9.here hx rfl (hb hby d0_30) rfl ?_
  exact k
 obtain ⟨T16, h16, X16, e16, W16, f19, o17, N18, c16⟩ := kstB X9 hx hZ e9 f13 (j := (2 : Int32)) (by decide) (by decide) 2 rfl (Nat.le_of_ble_eq_true rfl) c15 rfl rfl (hb hby d0_31) o10 N11 G2_
 have f20 : Arv Z h16 d_ kd_ .byte (3 : Int32) [(.int (nar .byte (c0_.toInt8.toInt32))), (.int (nar .byte (c1_.toInt8.toInt32))), (.int (nar .byte (c2_.toInt8.toInt32)))] (ii 0) := f19
 have kp21 := kp14.wr W16 (Or.inl (List.mem_of_getElem? (i := 0) rfl))
 obtain ⟨fs, hr, hrun, hended, hW, hsame⟩ := X16.leave (v := some (ii 3)) (fun h => by rw [Bd.returns] at h; cases h)
 refine ⟨_, _, c16 _ ?_, hrun, hended, _, _, rfl, ?_, ⟨_, rfl⟩, hW, hsame.mono (by decide) (by decide)⟩
 ·show S_ p e below T16 m 32 #[vr s_, vi 2, vr d_, vi 2, vi 3, vi 2, vi c2_] [] _
  refine XS.iinc X16.here hx rfl (hb hby d0_32) rfl (l' := #[vr s_, vi 3, vr d_, vi 2, vi 3, vi 2, vi c2_]) rfl ?_
  refine XS.iinc X16.here hx rfl (hb hby d0_35) rfl (l' := #[vr s_, vi 3, vr d_, vi 3, vi 3, vi 2, vi c2_]) rfl ?_
  refine XS.iinc X16.here hx rfl (hb hby d0_38) rfl (l' := #[vr s_, vi 3, vr d_, vi 3, vi 3, vi 3, vi c2_]) rfl ?_
  refine yG X16.here hx rfl 41 3 rfl (hb hby d0_41) ?_
  show S_ p e below T16 m 3 #[vr s_, vi 3, vr d_, vi 3, vi 3, vi 3, vi c2_] [] _
  refine XS.iload X16.here hx rfl (hb hby d0_3) rfl ?_
  refine XS.iload X16.here hx rfl (hb hby d0_5) rfl ?_
  refine yC X16.here hx rfl 7 44 rfl (hb hby d0_7) rfl rfl ?_
  refine XS.iload X16.here hx rfl (hb hby d0_44) rfl ?_
  show S_ p e below T16 m 46 #[vr s_, vi 3, vr d_, vi 3, vi 3, vi 3, vi c2_] [(ii 3)] _
  exact retOut X16 hx Bd.returns rfl (Or.inl ⟨rfl, Or.inl rfl, _, rfl⟩) (hb hby d0_46) hr
 ·show Q_cmp5_3 Z s_ ks_ d_ kd_ c0_ c1_ c2_ h0 n0 _ T16.heap _
  rw [e16]
  exact ⟨rfl, N18, kp21, f20⟩
theorem ef_cmp3_3 (m : MethodId) (s_ : Addr) : entryFrame m #[(rr s_), (ii 0), (ii 3)] 6 = mkF m 0 #[vr s_, vi 0, vi 3, u_, u_, u_] [] := by first | (simp [entryFrame, mkF, argsToLocals, Value.category]; done) | rfl
def Q_cmp3_3 (Z : State) (s_ : Addr) (ks_ : ClassId) (c0_ : Int32) (c1_ : Int32) (c2_ : Int32) (h0 : Heap) (n0 : Nat) (v : Option Value) (h : Heap) (L : List Loc) : Prop := ∃ (b_ : Addr), ∃ (kb_ : ClassId), v = some (rr b_) ∧ Fr n0 L ∧ Keep h0 h [] ∧ Arv Z h b_ kb_ .byte (3 : Int32) [(.int (nar .byte (c0_.toInt8.toInt32))), (.int (nar .byte (c1_.toInt8.toInt32))), (.int (nar .byte (c2_.toInt8.toInt32)))] (ii 0) ∧ n0 ≤ b_ ∧ h0.size ≤ b_
set_option maxRecDepth 65536 in
set_option maxHeartbeats 40000000 in
theorem rm_cmp3_3 (l : Launch) (Z : State) (a0 : Array Value) (hw : HW Z a0) (ws : List Jvm.Cond) (s_ : Addr) (ks_ : ClassId) (c0_ : Int32) (c1_ : Int32) (c2_ : Int32) (h0 : Heap) (n0 : Nat) (O0 : Old Z n0 h0) (A0_ : Arv Z h0 s_ ks_ .char (3 : Int32) [(.int c0_), (.int c1_), (.int c2_)] (ii 0)) (hs0_ : ¬ ((255 : Int32) < c0_)) (hs1_ : ¬ ((255 : Int32) < c1_)) (hs2_ : ¬ ((255 : Int32) < c2_)) :
  MFP l Z (⟨nm6, "compress", "([CII)[B"⟩ : MethodName) jdk_52_method_16_code 6 (some (.array .byte)) ({ frames := 1, cells := 1, slots := 3, locals := 18 } : Room) ws #[(rr s_), (ii 0), (ii 3)] h0 (Q_cmp3_3 Z s_ ks_ c0_ c1_ c2_ h0 n0) := by
 refine MetFree.of_bodySF (plainFor_of_name pn_java_lang_StringUTF16) hisR ?_
 intro p e s m args below meth c s₁ Bd hml0 hP hK
 obtain ⟨rfl, hZ, hh⟩ := hP
 have hx := Bd.exec
 have hby := Bd.bytes
 have hml : c.maxLocals = 6 := hml0
 have hown : s.vm.findClass nm6 = some m.cls := findClass_of_methodNamed Bd.named
 have hnm := (name_of_methodNamed Bd.named Bd.method).1
 have X0 : Stand p l e ({ frames := 1, cells := 1, slots := 3, locals := 18 } : Room) s m #[(rr s_), (ii 0), (ii 3)] below meth c s₁ [] 0 0 := Stand.of_body Bd
 have e0 : s₁.heap = h0 := by rw [← hh, Bd.state]; rfl
 have N0 := Fr.nil n0
 have kp0 : Keep h0 h0 [] := Keep.refl _ _
 have c0 : ∀ t, S_ p e below s₁ m 0 #[vr s_, vi 0, vi 3, u_, u_, u_] [] t → Steps p.tables e below (s₁.setTop (entryFrame m #[(rr s_), (ii 0), (ii 3)] 6)) t := fun t k => castTop (ef_cmp3_3 m s_) k
 generalize s₁.setTop (entryFrame m #[(rr s_), (ii 0), (ii 3)] 6) = st0 at c0 ⊢
 replace c0 : Kt p e below s₁ st0 (mkF m 0 #[vr s_, vi 0, vi 3, u_, u_, u_] []) := c0
 have c1 : Kt p e below s₁ st0 (mkF m 1 #[vr s_, vi 0, vi 3, u_, u_, u_] [(ii 3)]) := fun t k => by
  refine c0 t ?_
  show S_ p e below s₁ m 0 #[vr s_, vi 0, vi 3, u_, u_, u_] [] t
  refine XS.iloadN X0.here hx rfl (hb hby d1_0) rfl ?_
  exact k
 obtain ⟨b2, T2, h2, k2, z2, g2, X2, e2, E2, o3, A2, c2⟩ := knewP (aty := .byte) X0 hx hZ (w15 hw) e0 c1 rfl (hb hby d1_1) rfl (by decide) 3 (by decide) (by decide) (by decide) (by decide) O0
 have kp5 := kp0.ext E2
 have z6 := Nat.le_trans kp0.1 z2
 have f4 : Arv Z h2 b2 k2 .byte (3 : Int32) [(ii 0), (ii 0), (ii 0)] (ii 0) := A2.pad (pad_rep [] (ii 0) 3)
 have q7 := Nat.ne_of_lt (Nat.lt_of_lt_of_le A0_.lt z2)
 have c8 : Kt p e below T2 st0 (mkF m 9 #[vr s_, vi 0, vi 3, vr b2, u_, u_] [(ii 3), (ii 0), (rr b2), (ii 0), (rr s_)]) := fun t k => by
  refine c2 t ?_
  show S_ p e below T2 m 3 #[vr s_, vi 0, vi 3, u_, u_, u_] [(rr b2)] t
  refine XS.astoreN X2.here hx rfl (hb hby d1_3) rfl rfl (l' := #[vr s_, vi 0, vi 3, vr b2, u_, u_]) rfl ?_
  refine XS.aloadN X2.here hx rfl (hb hby d1_4) rfl rfl ?_
  refine XS.iloadN X2.here hx rfl (hb hby d1_5) rfl ?_
  refine XS.aloadN X2.here hx rfl (hb hby d1_6) rfl rfl ?_
  show S_ p e below T2 m 7 #[vr s_, vi 0, vi 3, vr b2, u_, u_] [(rr b2), (ii 0), (rr s_)] t
  refine XS.iconst X2.here hx rfl (hb hby d1_7) ?_
  refine XS.iloadN X2.here hx rfl (hb hby d1_8) rfl ?_
  exact k
 obtain ⟨_, T9, L9, X9, hQ9, c9⟩ := kstat X2 hx hZ hown (w185 hw) (w186 hw) (w183 hw) (w187 hw) (rm_cmp5_3 l Z a0 hw [] s_ ks_ b2 k2 c0_ c1_ c2_ h2 n0 o3 (A0_.ext E2) f4 g2 q7 hs0_ hs1_ hs2_) e2 c8 hml pd_pACIABIIrI [(rr s_), (ii 0), (rr b2), (ii 0), (ii 3)] [] 0 (hb hby d1_9) rfl rfl rfl rfl rfl rfl
 obtain ⟨rfl, N10q, K11, p12⟩ := hQ9
 have N10 := Fr.app N0 N10q
 have o13 := o3.keep K11 (allS g2 all0)
 have kp14 := kp5.trans K11 (allS (Or.inr z6) all0)
 obtain ⟨fs, hr, hrun, hended, hW, hsame⟩ := X9.leave (v := some (rr b2)) (fun h => by rw [Bd.returns] at h; cases h)
 refine ⟨_, _, c9 _ ?_, hrun, hended, _, _, rfl, ?_, ⟨_, rfl⟩, hW, hsame.mono (by decide) (by decide)⟩
 ·show S_ p e below T9 m 12 #[vr s_, vi 0, vi 3, vr b2, u_, u_] [(ii 3)] _
  refine XS.istore X9.here hx rfl (hb hby d1_12) rfl (l' := #[vr s_, vi 0, vi 3, vr b2, vi 3, u_]) rfl ?_
  refine XS.iload X9.here hx rfl (hb hby d1_14) rfl ?_
  refine XS.iloadN X9.here hx rfl (hb hby d1_16) rfl ?_
  refine yC X9.here hx rfl 17 57 rfl (hb hby d1_17) rfl rfl ?_
  show S_ p e below T9 m 57 #[vr s_, vi 0, vi 3, vr b2, vi 3, u_] [] _
  refine XS.aloadN X9.here hx rfl (hb hby d1_57) rfl rfl ?_
  show S_ p e below T9 m 58 #[vr s_, vi 0, vi 3, vr b2, vi 3, u_] [(rr b2)] _
  exact retOut X9 hx Bd.returns rfl (Or.inr (Or.inr (Or.inr (Or.inr ⟨rfl, rfl, rfl⟩)))) (hb hby d1_58) hr
 ·show Q_cmp3_3 Z s_ ks_ c0_ c1_ c2_ h0 n0 _ T9.heap _
  exact ⟨b2, k2, rfl, N10, kp14, p12, g2, z6⟩
theorem ef_codl_3 (m : MethodId) (s_ : Addr) : entryFrame m #[(rr s_), (ii 3)] 2 = mkF m 0 #[vr s_, vi 3] [] := by first | (simp [entryFrame, mkF, argsToLocals, Value.category]; done) | rfl
def Q_codl_3 (Z : State) (s_ : Addr) (ks_ : ClassId) (vs_ : List Value) (h0 : Heap) (n0 : Nat) (v : Option Value) (h : Heap) (L : List Loc) : Prop := v = some (ii 0) ∧ Fr n0 L ∧ h = h0
set_option maxRecDepth 65536 in
set_option maxHeartbeats 40000000 in
theorem rm_codl_3 (l : Launch) (Z : State) (a0 : Array Value) (hw : HW Z a0) (ws : List Jvm.Cond) (s_ : Addr) (ks_ : ClassId) (vs_ : List Value) (h0 : Heap) (n0 : Nat) (O0 : Old Z n0 h0) (A0_ : Arv Z h0 s_ ks_ .byte (3 : Int32) vs_ (ii 0)) :
  MFP l Z (⟨nm6, "coderFromArrayLen", "([BI)B"⟩ : MethodName) jdk_52_method_15_code 2 (some .byte) ({ frames := 0, cells := 0, slots := 0, locals := 0 } : Room) ws #[(rr s_), (ii 3)] h0 (Q_codl_3 Z s_ ks_ vs_ h0 n0) := by
 refine MetFree.of_bodySF (plainFor_of_name pn_java_lang_StringUTF16) hisR ?_
 intro p e s m args below meth c s₁ Bd hml0 hP hK
 obtain ⟨rfl, hZ, hh⟩ := hP
 have hx := Bd.exec
 have hby := Bd.bytes
 have hml : c.maxLocals = 2 := hml0
 have hown : s.vm.findClass nm6 = some m.cls := findClass_of_methodNamed Bd.named
 have hnm := (name_of_methodNamed Bd.named Bd.method).1
 have X0 : Stand p l e ({ frames := 0, cells := 0, slots := 0, locals := 0 } : Room) s m #[(rr s_), (ii 3)] below meth c s₁ [] 0 0 := Stand.of_body Bd
 have e0 : s₁.heap = h0 := by rw [← hh, Bd.state]; rfl
 have N0 := Fr.nil n0
 have kp0 : Keep h0 h0 [] := Keep.refl _ _
 have c0 : ∀ t, S_ p e below s₁ m 0 #[vr s_, vi 3] [] t → Steps p.tables e below (s₁.setTop (entryFrame m #[(rr s_), (ii 3)] 2)) t := fun t k => castTop (ef_codl_3 m s_) k
 generalize s₁.setTop (entryFrame m #[(rr s_), (ii 3)] 2) = st0 at c0 ⊢
 replace c0 : Kt p e below s₁ st0 (mkF m 0 #[vr s_, vi 3] []) := c0
 obtain ⟨fs, hr, hrun, hended, hW, hsame⟩ := X0.leave (v := some (ii 0)) (fun h => by rw [Bd.returns] at h; cases h)
 refine ⟨_, _, c0 _ ?_, hrun, hended, _, _, rfl, ?_, ⟨_, rfl⟩, hW, hsame.mono (by decide) (by decide)⟩
 ·show S_ p e below s₁ m 0 #[vr s_, vi 3] [] _
  refine XS.iloadN X0.here hx rfl (hb hby d2_0) rfl ?_
  refine XS.aloadN X0.here hx rfl (hb hby d2_1) rfl rfl ?_
  refine ldLen X0 hx hZ e0 A0_ rfl rfl (hb hby d2_2) ?_
  refine XS.isub X0.here hx rfl (hb hby d2_3) rfl ?_
  show S_ p e below s₁ m 4 #[vr s_, vi 3] [(ii 0)] _
  refine XS.bipush X0.here hx rfl (hb hby d2_4) ?_
  refine XS.iushr X0.here hx rfl (hb hby d2_6) rfl ?_
  refine XS.i2b X0.here hx rfl (hb hby d2_7) rfl ?_
  show S_ p e below s₁ m 8 #[vr s_, vi 3] [(ii 0)] _
  exact retN X0 hx (t := .byte) Bd.returns (by simp) (hb hby d2_8) hr
 ·show Q_codl_3 Z s_ ks_ vs_ h0 n0 _ s₁.heap _
  rw [e0]
  exact ⟨rfl, N0, rfl⟩
theorem ef_str4_3 (m : MethodId) (x_ : Addr) (s_ : Addr) : entryFrame m #[(rr x_), (rr s_), (ii 0), (ii 3), .null] 6 = mkF m 0 #[vr x_, vr s_, vi 0, vi 3, .val .null, u_] [] := by first | (simp [entryFrame, mkF, argsToLocals, Value.category]; done) | rfl
def Q_str4_3 (Z : State) (x_ : Addr) (s_ : Addr) (ks_ : ClassId) (z_ : Int32) (c0_ : Int32) (c1_ : Int32) (c2_ : Int32) (h0 : Heap) (n0 : Nat) (v : Option Value) (h : Heap) (L : List Loc) : Prop := v = none ∧ Fr n0 L ∧ Keep h0 h [x_] ∧ Exa Z h x_ nm0 ∧ Fld Z h x_ nm0 "coder" "B" (ii 0) ∧ ∃ (b_ : Addr), ∃ (kb_ : ClassId), Fld Z h x_ nm0 "value" "[B" (rr b_) ∧ Arv Z h b_ kb_ .byte (3 : Int32) [(.int (nar .byte (c0_.toInt8.toInt32))), (.int (nar .byte (c1_.toInt8.toInt32))), (.int (nar .byte (c2_.toInt8.toInt32)))] (ii 0) ∧ n0 ≤ b_ ∧ h0.size ≤ b_
set_option maxRecDepth 65536 in
set_option maxHeartbeats 40000000 in
theorem rm_str4_3 (l : Launch) (Z : State) (a0 : Array Value) (hw : HW Z a0) (ws : List Jvm.Cond) (x_ : Addr) (s_ : Addr) (ks_ : ClassId) (z_ : Int32) (c0_ : Int32) (c1_ : Int32) (c2_ : Int32) (h0 : Heap) (n0 : Nat) (O0 : Old Z n0 h0) (E0_ : Exa Z h0 x_ nm0) (F1_ : Fld Z h0 x_ nm0 "value" "[B" .null) (F2_ : Fld Z h0 x_ nm0 "coder" "B" (ii 0)) (G3_ : n0 ≤ x_) (A4_ : Arv Z h0 s_ ks_ .char (3 : Int32) [(.int c0_), (.int c1_), (.int c2_)] (ii 0)) (ZS5_ : Sta Z Z.heap nm0 "COMPACT_STRINGS" "Z" (.int z_)) (hz_ : ¬ (z_ = (0 : Int32))) (hs0_ : ¬ ((255 : Int32) < c0_)) (hs1_ : ¬ ((255 : Int32) < c1_)) (hs2_ : ¬ ((255 : Int32) < c2_)) :
  MFP l Z (⟨nm0, "<init>", "([CIILjava/lang/Void;)V"⟩ : MethodName) jdk_42_method_149_code 6 none ({ frames := 2, cells := 1, slots := 3, locals := 35 } : Room) ws #[(rr x_), (rr s_), (ii 0), (ii 3), .null] h0 (Q_str4_3 Z x_ s_ ks_ z_ c0_ c1_ c2_ h0 n0) := by
 refine MetFree.of_bodySF (plainFor_of_name pn_java_lang_String) hisR ?_
 intro p e s m args below meth c s₁ Bd hml0 hP hK
 obtain ⟨rfl, hZ, hh⟩ := hP
 have hx := Bd.exec
 have hby := Bd.bytes
 have hml : c.maxLocals = 6 := hml0
 have hown : s.vm.findClass nm0 = some m.cls := findClass_of_methodNamed Bd.named
 have hnm := (name_of_methodNamed Bd.named Bd.method).1
 have X0 : Stand p l e ({ frames := 2, cells := 1, slots := 3, locals := 35 } : Room) s m #[(rr x_), (rr s_), (ii 0), (ii 3), .null] below meth c s₁ [] 0 0 := Stand.of_body Bd
 have e0 : s₁.heap = h0 := by rw [← hh, Bd.state]; rfl
 have N0 := Fr.nil n0
 have kp0 : Keep h0 h0 [x_] := Keep.refl _ _
 have c0 : ∀ t, S_ p e below s₁ m 0 #[vr x_, vr s_, vi 0, vi 3, .val .null, u_] [] t → Steps p.tables e below (s₁.setTop (entryFrame m #[(rr x_), (rr s_), (ii 0), (ii 3), .null] 6)) t := fun t k => castTop (ef_str4_3 m x_ s_) k
 generalize s₁.setTop (entryFrame m #[(rr x_), (rr s_), (ii 0), (ii 3), .null] 6) = st0 at c0 ⊢
 replace c0 : Kt p e below s₁ st0 (mkF m 0 #[vr x_, vr s_, vi 0, vi 3, .val .null, u_] []) := c0
 have c1 : Kt p e below s₁ st0 (mkF m 1 #[vr x_, vr s_, vi 0, vi 3, .val .null, u_] [(rr x_)]) := fun t k => by
  refine c0 t ?_
  show S_ p e below s₁ m 0 #[vr x_, vr s_, vi 0, vi 3, .val .null, u_] [] t
  refine XS.aloadN X0.here hx rfl (hb hby d3_0) rfl rfl ?_
  exact k
 obtain ⟨T2, X2, e2, c2⟩ := kinit X0 hx hZ hown (w11 hw) (w12 hw) (w13 hw) e0 c1 rfl hml rfl rfl (hb hby d3_1) 0 (own_w rfl) (by decide) (by decide)
 have c3 : Kt p e below T2 st0 (mkF m 27 #[vr x_, vr s_, vi 0, vi 3, .val .null, u_] []) := fun t k => by
  refine c2 t ?_
  show S_ p e below T2 m 4 #[vr x_, vr s_, vi 0, vi 3, .val .null, u_] [] t
  refine XS.iloadN X2.here hx rfl (hb hby d3_4) rfl ?_
  refine yI X2.here hx rfl 5 27 rfl (hb hby d3_5) rfl rfl ?_
  exact k
 obtain ⟨T4, X4, e4, c4⟩ := kgetS X2 hx hZ hown (host := "") (Or.inl (w35 hw)) Via.refl e2 (ZS5_.ext O0.2) c3 rfl (hb hby d3_27)
 have c5 : Kt p e below T4 st0 (mkF m 36 #[vr x_, vr s_, vi 0, vi 3, .val .null, u_] [(ii 3), (ii 0), (rr s_)]) := fun t k => by
  refine c4 t ?_
  show S_ p e below T4 m 30 #[vr x_, vr s_, vi 0, vi 3, .val .null, u_] [(.int z_)] t
  refine XS.ifNo X4.here hx rfl (hb hby d3_30) rfl ((if0 _ _).trans (feq hz_).1) ?_
  refine XS.aloadN X4.here hx rfl (hb hby d3_33) rfl rfl ?_
  refine XS.iloadN X4.here hx rfl (hb hby d3_34) rfl ?_
  refine XS.iloadN X4.here hx rfl (hb hby d3_35) rfl ?_
  exact k
 obtain ⟨_, T6, L6, X6, hQ6, c6⟩ := kstat X4 hx hZ hown (w181 hw) (w182 hw) (w183 hw) (w184 hw) (rm_cmp3_3 l Z a0 hw [] s_ ks_ c0_ c1_ c2_ h0 n0 O0 A4_ hs0_ hs1_ hs2_) e4 c5 hml pd_pACIIrAB [(rr s_), (ii 0), (ii 3)] [] 0 (hb hby d3_36) rfl rfl rfl rfl rfl rfl
 obtain ⟨b7, k8, rfl, N9q, K10, p11, p12, p13⟩ := hQ6
 have N9 := Fr.app N0 N9q
 have o14 := O0.keep K10 all0
 have kp15 := kp0.trans K10 all0
 have z16 := Nat.le_trans kp0.1 p13
 have g17 := Nat.le_trans (Nat.le_trans (Nat.le_of_eq O0.1.symm) O0.2.1) p13
 have c18 : Kt p e below T6 st0 (mkF m 45 #[vr x_, vr s_, vi 0, vi 3, .val .null, vr b7] [(ii 3), (rr b7), (rr x_)]) := fun t k => by
  refine c6 t ?_
  show S_ p e below T6 m 39 #[vr x_, vr s_, vi 0, vi 3, .val .null, u_] [(rr b7)] t
  refine XS.astore X6.here hx rfl (hb hby d3_39) rfl rfl (l' := #[vr x_, vr s_, vi 0, vi 3, .val .null, vr b7]) rfl ?_
  refine XS.aloadN X6.here hx rfl (hb hby d3_41) rfl rfl ?_
  refine XS.aload X6.here hx rfl (hb hby d3_42) rfl rfl ?_
  refine XS.iloadN X6.here hx rfl (hb hby d3_44) rfl ?_
  exact k
 obtain ⟨_, T19, L19, X19, hQ19, c19⟩ := kstat X6 hx hZ hown (w188 hw) (w189 hw) (w183 hw) (w190 hw) (rm_codl_3 l Z a0 hw [] b7 k8 [(.int (nar .byte (c0_.toInt8.toInt32))), (.int (nar .byte (c1_.toInt8.toInt32))), (.int (nar .byte (c2_.toInt8.toInt32)))] T6.heap n0 o14 p11) rfl c18 hml pd_pABIrB [(rr b7), (ii 3)] [(rr x_)] 1 (hb hby d3_45) rfl rfl rfl rfl rfl rfl
 obtain ⟨rfl, N20q, K21⟩ := hQ19
 have N20 := Fr.app N9 N20q
 obtain ⟨T22, h22, X22, e22, W22, f23, o25, N24, c22⟩ := kput X19 hx hZ .byte hown (host := "") (Or.inl (w21 hw)) Via.refl K21 (F2_.keep K10 nin0) (E0_.keep K10) (Or.inr ⟨(w17 hw), rfl, hnm⟩) (w2 hw) c19 rfl rfl (hb hby d3_48) (by decide) rfl rfl o14 N20 G3_
 have kp26 := kp15.wr W22 (Or.inl (List.mem_of_getElem? (i := 0) rfl))
 have f27 := (F1_.keep K10 nin0).other W22 (Or.inr (slot_ne (Or.inr (w16 hw)) (Or.inr (w17 hw)) (by decide) (t := (.array .byte)) (t' := .byte) (by decide) (by decide)))
 have c28 : Kt p e below T22 st0 (mkF m 54 #[vr x_, vr s_, vi 0, vi 3, .val .null, vr b7] [(rr b7), (rr x_)]) := fun t k => by
  refine c22 t ?_
  show S_ p e below T22 m 51 #[vr x_, vr s_, vi 0, vi 3, .val .null, vr b7] [] t
  refine XS.aloadN X22.here hx rfl (hb hby d3_51) rfl rfl ?_
  refine XS.aload X22.here hx rfl (hb hby d3_52) rfl rfl ?_
  exact k
 obtain ⟨T29, h29, X29, e29, W29, f30, o32, N31, c29⟩ := kput X22 hx hZ (.array .byte) hown (host := "") (Or.inl (w20 hw)) Via.refl e22 f27 ((E0_.keep K10).wr W22) (Or.inr ⟨(w16 hw), rfl, hnm⟩) (w2 hw) c28 rfl rfl (hb hby d3_54) (by decide) rfl rfl o25 N24 G3_
 have kp33 := kp26.wr W29 (Or.inl (List.mem_of_getElem? (i := 0) rfl))
 have f34 := f23.other W29 (Or.inr (slot_ne (Or.inr (w17 hw)) (Or.inr (w16 hw)) (by decide) (t := .byte) (t' := (.array .byte)) (by decide) (by decide)))
 have q35 := Ne.symm (Nat.ne_of_lt (Nat.lt_of_lt_of_le E0_.lt p13))
 obtain ⟨fs, hr, hrun, hended, hW, hsame⟩ := X29.leave (v := none) (fun _ => rfl)
 refine ⟨_, _, c29 _ ?_, hrun, hended, _, _, rfl, ?_, ⟨_, rfl⟩, hW, hsame.mono (by decide) (by decide)⟩
 ·show S_ p e below T29 m 57 #[vr x_, vr s_, vi 0, vi 3, .val .null, vr b7] [] _
  exact X29.returnOut hx Bd.returns (hb hby d3_57) hr
 ·show Q_str4_3 Z x_ s_ ks_ z_ c0_ c1_ c2_ h0 n0 _ T29.heap _
  rw [e29]
  exact ⟨rfl, N31, kp33, (((E0_.keep K10).wr W22).wr W29), f34, b7, k8, f30, ((p11.other W22 q35).other W29 q35), g17, z16⟩
theorem ef_str1_3 (m : MethodId) (x_ : Addr) (s_ : Addr) : entryFrame m #[(rr x_), (rr s_)] 2 = mkF m 0 #[vr x_, vr s_] [] := by first | (simp [entryFrame, mkF, argsToLocals, Value.category]; done) | rfl
def Q_str1_3 (Z : State) (x_ : Addr) (s_ : Addr) (ks_ : ClassId) (z_ : Int32) (c0_ : Int32) (c1_ : Int32) (c2_ : Int32) (h0 : Heap) (n0 : Nat) (v : Option Value) (h : Heap) (L : List Loc) : Prop := v = none ∧ Fr n0 L ∧ Keep h0 h [x_] ∧ Exa Z h x_ nm0 ∧ Fld Z h x_ nm0 "coder" "B" (ii 0) ∧ ∃ (b_ : Addr), ∃ (kb_ : ClassId), Fld Z h x_ nm0 "value" "[B" (rr b_) ∧ Arv Z h b_ kb_ .byte (3 : Int32) [(.int (nar .byte (c0_.toInt8.toInt32))), (.int (nar .byte (c1_.toInt8.toInt32))), (.int (nar .byte (c2_.toInt8.toInt32)))] (ii 0) ∧ n0 ≤ b_ ∧ h0.size ≤ b_
set_option maxRecDepth 65536 in
set_option maxHeartbeats 40000000 in
theorem rm_str1_3 (l : Launch) (Z : State) (a0 : Array Value) (hw : HW Z a0) (ws : List Jvm.Cond) (x_ : Addr) (s_ : Addr) (ks_ : ClassId) (z_ : Int32) (c0_ : Int32) (c1_ : Int32) (c2_ : Int32) (h0 : Heap) (n0 : Nat) (O0 : Old Z n0 h0) (E0_ : Exa Z h0 x_ nm0) (F1_ : Fld Z h0 x_ nm0 "value" "[B" .null) (F2_ : Fld Z h0 x_ nm0 "coder" "B" (ii 0)) (G3_ : n0 ≤ x_) (A4_ : Arv Z h0 s_ ks_ .char (3 : Int32) [(.int c0_), (.int c1_), (.int c2_)] (ii 0)) (ZS5_ : Sta Z Z.heap nm0 "COMPACT_STRINGS" "Z" (.int z_)) (hz_ : ¬ (z_ = (0 : Int32))) (hs0_ : ¬ ((255 : Int32) < c0_)) (hs1_ : ¬ ((255 : Int32) < c1_)) (hs2_ : ¬ ((255 : Int32) < c2_)) :
  MFP l Z (⟨nm0, "<init>", "([C)V"⟩ : MethodName) jdk_42_method_3_code 2 none ({ frames := 3, cells := 1, slots := 3, locals := 52 } : Room) ws #[(rr x_), (rr s_)] h0 (Q_str1_3 Z x_ s_ ks_ z_ c0_ c1_ c2_ h0 n0) := by
 refine MetFree.of_bodySF (plainFor_of_name pn_java_lang_String) hisR ?_
 intro p e s m args below meth c s₁ Bd hml0 hP hK
 obtain ⟨rfl, hZ, hh⟩ := hP
 have hx := Bd.exec
 have hby := Bd.bytes
 have hml : c.maxLocals = 2 := hml0
 have hown : s.vm.findClass nm0 = some m.cls := findClass_of_methodNamed Bd.named
 have hnm := (name_of_methodNamed Bd.named Bd.method).1
 have X0 : Stand p l e ({ frames := 3, cells := 1, slots := 3, locals := 52 } : Room) s m #[(rr x_), (rr s_)] below meth c s₁ [] 0 0 := Stand.of_body Bd
 have e0 : s₁.heap = h0 := by rw [← hh, Bd.state]; rfl
 have N0 := Fr.nil n0
 have kp0 : Keep h0 h0 [x_] := Keep.refl _ _
 have c0 : ∀ t, S_ p e below s₁ m 0 #[vr x_, vr s_] [] t → Steps p.tables e below (s₁.setTop (entryFrame m #[(rr x_), (rr s_)] 2)) t := fun t k => castTop (ef_str1_3 m x_ s_) k
 generalize s₁.setTop (entryFrame m #[(rr x_), (rr s_)] 2) = st0 at c0 ⊢
 replace c0 : Kt p e below s₁ st0 (mkF m 0 #[vr x_, vr s_] []) := c0
 have c1 : Kt p e below s₁ st0 (mkF m 6 #[vr x_, vr s_] [.null, (ii 3), (ii 0), (rr s_), (rr x_)]) := fun t k => by
  refine c0 t ?_
  show S_ p e below s₁ m 0 #[vr x_, vr s_] [] t
  refine XS.aloadN X0.here hx rfl (hb hby d4_0) rfl rfl ?_
  refine XS.aloadN X0.here hx rfl (hb hby d4_1) rfl rfl ?_
  refine XS.iconst X0.here hx rfl (hb hby d4_2) ?_
  refine XS.aloadN X0.here hx rfl (hb hby d4_3) rfl rfl ?_
  show S_ p e below s₁ m 4 #[vr x_, vr s_] [(rr s_), (ii 0), (rr s_), (rr x_)] t
  refine ldLen X0 hx hZ e0 A4_ rfl rfl (hb hby d4_4) ?_
  refine XS.aconstNull X0.here hx rfl (hb hby d4_5) ?_
  exact k
 obtain ⟨_, T2, L2, X2, hQ2, c2⟩ := kspec X0 hx hZ hown (w7 hw) (w8 hw) (w3 hw) (w10 hw) (rm_str4_3 l Z a0 hw [] x_ s_ ks_ z_ c0_ c1_ c2_ h0 n0 O0 E0_ F1_ F2_ G3_ A4_ ZS5_ hz_ hs0_ hs1_ hs2_) e0 c1 hml pd_pACIILjava_lang_Void_rV x_ [(rr s_), (ii 0), (ii 3), .null] [] 0 (hb hby d4_6) rfl rfl rfl rfl rfl rfl
 obtain ⟨rfl, N3q, K4, p5, p6, b7, k8, p9, p10, p11, p12⟩ := hQ2
 have N3 := Fr.app N0 N3q
 have o13 := O0.keep K4 (allS G3_ all0)
 have kp14 := kp0.trans K4 (allS (Or.inl (List.mem_of_getElem? (i := 0) rfl)) all0)
 have z15 := Nat.le_trans kp0.1 p12
 have g16 := Nat.le_trans (Nat.le_trans (Nat.le_of_eq O0.1.symm) O0.2.1) p12
 obtain ⟨fs, hr, hrun, hended, hW, hsame⟩ := X2.leave (v := none) (fun _ => rfl)
 refine ⟨_, _, c2 _ ?_, hrun, hended, _, _, rfl, ?_, ⟨_, rfl⟩, hW, hsame.mono (by decide) (by decide)⟩
 ·show S_ p e below T2 m 9 #[vr x_, vr s_] [] _
  exact X2.returnOut hx Bd.returns (hb hby d4_9) hr
 ·show Q_str1_3 Z x_ s_ ks_ z_ c0_ c1_ c2_ h0 n0 _ T2.heap _
  exact ⟨rfl, N3, kp14, p5, p6, b7, k8, p9, p10, g16, z15⟩
theorem d3_8 : decode jdk_42_method_149_code 8 = .ok (.aload_n 0, 1) := by decide +kernel
theorem d3_9 : decode jdk_42_method_149_code 9 = .ok (.ldc 7, 2) := by decide +kernel
theorem d3_11 : decode jdk_42_method_149_code 11 = .ok (.getfield 9, 3) := by decide +kernel
theorem d3_14 : decode jdk_42_method_149_code 14 = .ok (.putfield 9, 3) := by decide +kernel
theorem d3_17 : decode jdk_42_method_149_code 17 = .ok (.aload_n 0, 1) := by decide +kernel
theorem d3_18 : decode jdk_42_method_149_code 18 = .ok (.ldc 7, 2) := by decide +kernel
theorem d3_20 : decode jdk_42_method_149_code 20 = .ok (.getfield 15, 3) := by decide +kernel
theorem d3_23 : decode jdk_42_method_149_code 23 = .ok (.putfield 15, 3) := by decide +kernel
theorem d3_26 : decode jdk_42_method_149_code 26 = .ok (.return_, 1) := by decide +kernel
theorem ef_str4_0 (m : MethodId) (x_ : Addr) (s_ : Addr) : entryFrame m #[(rr x_), (rr s_), (ii 0), (ii 0), .null] 6 = mkF m 0 #[vr x_, vr s_, vi 0, vi 0, .val .null, u_] [] := by first | (simp [entryFrame, mkF, argsToLocals, Value.category]; done) | rfl
def Q_str4_0 (Z : State) (x_ : Addr) (s_ : Addr) (ks_ : ClassId) (h0 : Heap) (n0 : Nat) (v : Option Value) (h : Heap) (L : List Loc) : Prop := v = none ∧ Fr n0 L ∧ Keep h0 h [x_] ∧ Exa Z h x_ nm0 ∧ Fld Z h x_ nm0 "coder" "B" (ii 0) ∧ ∃ (b_ : Addr), ∃ (kb_ : ClassId), Fld Z h x_ nm0 "value" "[B" (rr b_) ∧ Arv Z h b_ kb_ .byte (0 : Int32) [] (ii 0)
set_option maxRecDepth 65536 in
set_option maxHeartbeats 40000000 in
theorem rm_str4_0 (l : Launch) (Z : State) (a0 : Array Value) (hw : HW Z a0) (ws : List Jvm.Cond) (x_ : Addr) (s_ : Addr) (ks_ : ClassId) (h0 : Heap) (n0 : Nat) (O0 : Old Z n0 h0) (E0_ : Exa Z h0 x_ nm0) (F1_ : Fld Z h0 x_ nm0 "value" "[B" .null) (F2_ : Fld Z h0 x_ nm0 "coder" "B" (ii 0)) (G3_ : n0 ≤ x_) (A4_ : Arv Z h0 s_ ks_ .char (0 : Int32) [] (ii 0)) :
  MFH l Z consts_1 x_ (⟨nm0, "<init>", "([CIILjava/lang/Void;)V"⟩ : MethodName) jdk_42_method_149_code 6 none ({ frames := 1, cells := 2, slots := 4, locals := 12 } : Room) ws #[(rr x_), (rr s_), (ii 0), (ii 0), .null] h0 (Q_str4_0 Z x_ s_ ks_ h0 n0) := by
 refine MetFree.of_bodySF (plainFor_of_name pn_java_lang_String) hisR ?_
 intro p e s m args below meth c s₁ Bd hml0 hP hK
 obtain ⟨rfl, hZ, hh, hCH, hSx⟩ := hP
 have hx := Bd.exec
 have hby := Bd.bytes
 have hml : c.maxLocals = 6 := hml0
 have hown : s.vm.findClass nm0 = some m.cls := findClass_of_methodNamed Bd.named
 have hnm := (name_of_methodNamed Bd.named Bd.method).1
 have X0 : Stand p l e ({ frames := 1, cells := 2, slots := 4, locals := 12 } : Room) (s.setVm s.vm) m #[(rr x_), (rr s_), (ii 0), (ii 0), .null] below meth c s₁ [] 0 0 := Stand.of_body Bd
 have e0 : s₁.heap = h0 := by rw [← hh, Bd.state]; rfl
 have N0 := Fr.nil n0
 have kp0 : Keep h0 h0 [x_] := Keep.refl _ _
 have ch0 : CHr Z consts_1 s.vm h0 s.vm h0 := CHr.refl hCH
 have hS0 : s.Since s.vm 0 := (State.WarmedH.refl s).since 0
 have c0 : ∀ t, S_ p e below s₁ m 0 #[vr x_, vr s_, vi 0, vi 0, .val .null, u_] [] t → Steps p.tables e below (s₁.setTop (entryFrame m #[(rr x_), (rr s_), (ii 0), (ii 0), .null] 6)) t := fun t k => castTop (ef_str4_0 m x_ s_) k
 generalize s₁.setTop (entryFrame m #[(rr x_), (rr s_), (ii 0), (ii 0), .null] 6) = st0 at c0 ⊢
 replace c0 : Kt p e below s₁ st0 (mkF m 0 #[vr x_, vr s_, vi 0, vi 0, .val .null, u_] []) := c0
 have c1 : Kt p e below s₁ st0 (mkF m 1 #[vr x_, vr s_, vi 0, vi 0, .val .null, u_] [(rr x_)]) := fun t k => by
  refine c0 t ?_
  show S_ p e below s₁ m 0 #[vr x_, vr s_, vi 0, vi 0, .val .null, u_] [] t
  refine XS.aloadN X0.here hx rfl (hb hby d3_0) rfl rfl ?_
  exact k
 obtain ⟨T2, X2, e2, c2⟩ := kinit X0 hx hZ hown (w11 hw) (w12 hw) (w13 hw) e0 c1 rfl hml rfl rfl (hb hby d3_1) 0 (own_w rfl) (by decide) (by decide)
 have c3 : Kt p e below T2 st0 (mkF m 9 #[vr x_, vr s_, vi 0, vi 0, .val .null, u_] [(rr x_)]) := fun t k => by
  refine c2 t ?_
  show S_ p e below T2 m 4 #[vr x_, vr s_, vi 0, vi 0, .val .null, u_] [] t
  refine XS.iloadN X2.here hx rfl (hb hby d3_4) rfl ?_
  refine XS.ifNo X2.here hx rfl (hb hby d3_5) rfl rfl ?_
  refine XS.aloadN X2.here hx rfl (hb hby d3_8) rfl rfl ?_
  exact k
 obtain ⟨a4, T4, h4, k4, b4, kb4, X4, e4, E4, o5, hS4, hk4, hZ4, hown4, fE4, fC4, fV4, fA4, Lt4, cr4, hne4, c4⟩ := kldcH X2 hx hZ hown hS0 (Nat.zero_le _) (w14 hw) (own_atoms hw) (own_EW hw) (by simp [consts_1]) ch0.1 e2 c3 0 (hb hby d3_9) rfl (vs := []) (z := (0 : Int32)) ⟨by decide, rfl⟩ (by decide) rfl (by decide) (by decide) (by decide) (by decide) O0
 have kp6 := kp0.ext E4
 have ch7 : CHr Z consts_1 s.vm h0 T4.vm h4 := ch0.trans cr4
 obtain ⟨T8, X8, e8, c8⟩ := kget X4 hx hZ4 hown4 (host := "") (Or.inl (w20 hw)) Via.refl e4 fV4 c4 rfl rfl (hb hby d3_11)
 obtain ⟨T9, h9, X9, e9, W9, f10, o12, N11, c9⟩ := kput X8 hx hZ4 (.array .byte) hown4 (host := "") (Or.inl (w20 hw)) Via.refl e8 (F1_.ext E4) (E0_.ext E4) (Or.inr ⟨(w16 hw), rfl, hnm⟩) (w2 hw) c8 rfl rfl (hb hby d3_14) (by decide) rfl rfl o5 N0 G3_
 have kp13 := kp6.wr W9 (Or.inl (List.mem_of_getElem? (i := 0) rfl))
 have sf14 : Safe Z consts_1 T4.vm h4 x_ := cr4.safe E0_.lt hSx
 have q15 := Ne.symm (hne4 x_ sf14).1
 have c16 : Kt p e below T9 st0 (mkF m 20 #[vr x_, vr s_, vi 0, vi 0, .val .null, u_] [(rr a4), (rr x_)]) := fun t k => by
  refine c9 t ?_
  show S_ p e below T9 m 17 #[vr x_, vr s_, vi 0, vi 0, .val .null, u_] [] t
  refine XS.aloadN X9.here hx rfl (hb hby d3_17) rfl rfl ?_
  show S_ p e below T9 m 18 #[vr x_, vr s_, vi 0, vi 0, .val .null, u_] [(rr x_)] t
  refine ldcAgain X9 hx hZ4 hown4 (w14 hw) Lt4 (g := (mkF m 18 #[vr x_, vr s_, vi 0, vi 0, .val .null, u_] [(rr x_)])) rfl (hb hby d3_18) _ ?_
  exact k
 obtain ⟨T17, X17, e17, c17⟩ := kget X9 hx hZ4 hown4 (host := "") (Or.inl (w21 hw)) Via.refl e9 (fC4.other W9 (Or.inl q15)) c16 rfl rfl (hb hby d3_20)
 have f18 := (F2_.ext E4).other W9 (Or.inr (slot_ne (Or.inr (w17 hw)) (Or.inr (w16 hw)) (by decide) (t := .byte) (t' := (.array .byte)) (by decide) (by decide)))
 obtain ⟨T19, h19, X19, e19, W19, f20, o22, N21, c19⟩ := kput X17 hx hZ4 .byte hown4 (host := "") (Or.inl (w21 hw)) Via.refl e17 f18 ((E0_.ext E4).wr W9) (Or.inr ⟨(w17 hw), rfl, hnm⟩) (w2 hw) c17 rfl rfl (hb hby d3_23) (by decide) rfl rfl o12 N11 G3_
 have kp23 := kp13.wr W19 (Or.inl (List.mem_of_getElem? (i := 0) rfl))
 have f24 := f10.other W19 (Or.inr (slot_ne (Or.inr (w16 hw)) (Or.inr (w17 hw)) (by decide) (t := (.array .byte)) (t' := .byte) (by decide) (by decide)))
 have q25 := Ne.symm (hne4 x_ sf14).2
 obtain ⟨fs, hr, hrun, hended, hRW⟩ := X19.leaveW hS4 (by first | exact (Nat.le_trans hk4 (Nat.le_trans (Keep.of_wr W9).1 (Keep.of_wr W19).1)) | (rw [e19]; exact (Nat.le_trans hk4 (Nat.le_trans (Keep.of_wr W9).1 (Keep.of_wr W19).1)))) (v := none) (fun _ => rfl)
 have ch26 : CHr Z consts_1 s.vm h0 T4.vm h9 := ch7.trans (CHr.wr W9 sf14 ch7.1)
 have sf27 : Safe Z consts_1 T4.vm h9 x_ := own_sW sf14 ch7.1 W9 sf14
 have ch28 : CHr Z consts_1 s.vm h0 T4.vm h19 := ch26.trans (CHr.wr W19 sf27 ch26.1)
 have ch29 : CHr Z consts_1 s.vm s.heap T19.vm T19.heap := by
  rw [hh, e19]
  exact ch28.trans (CHv.at X19 hZ4 (own_EW hw) ch28.1)
 refine ⟨_, _, c19 _ ?_, hrun, hended, _, _, rfl, ?_, ch29, hRW.1, hRW.2.1, hRW.2.2.1, hRW.2.2.2.mono (by decide) (by decide)⟩
 ·show S_ p e below T19 m 26 #[vr x_, vr s_, vi 0, vi 0, .val .null, u_] [] _
  exact X19.returnOut hx Bd.returns (hb hby d3_26) hr
 ·show Q_str4_0 Z x_ s_ ks_ h0 n0 _ T19.heap _
  rw [e19]
  exact ⟨rfl, N21, kp23, (((E0_.ext E4).wr W9).wr W19), f20, b4, kb4, f24, ((fA4.other W9 q25).other W19 q25)⟩
theorem ef_str1_0 (m : MethodId) (x_ : Addr) (s_ : Addr) : entryFrame m #[(rr x_), (rr s_)] 2 = mkF m 0 #[vr x_, vr s_] [] := by first | (simp [entryFrame, mkF, argsToLocals, Value.category]; done) | rfl
def Q_str1_0 (Z : State) (x_ : Addr) (s_ : Addr) (ks_ : ClassId) (h0 : Heap) (n0 : Nat) (v : Option Value) (h : Heap) (L : List Loc) : Prop := v = none ∧ Fr n0 L ∧ Keep h0 h [x_] ∧ Exa Z h x_ nm0 ∧ Fld Z h x_ nm0 "coder" "B" (ii 0) ∧ ∃ (b_ : Addr), ∃ (kb_ : ClassId), Fld Z h x_ nm0 "value" "[B" (rr b_) ∧ Arv Z h b_ kb_ .byte (0 : Int32) [] (ii 0)
set_option maxRecDepth 65536 in
set_option maxHeartbeats 40000000 in
theorem rm_str1_0 (l : Launch) (Z : State) (a0 : Array Value) (hw : HW Z a0) (ws : List Jvm.Cond) (x_ : Addr) (s_ : Addr) (ks_ : ClassId) (h0 : Heap) (n0 : Nat) (O0 : Old Z n0 h0) (E0_ : Exa Z h0 x_ nm0) (F1_ : Fld Z h0 x_ nm0 "value" "[B" .null) (F2_ : Fld Z h0 x_ nm0 "coder" "B" (ii 0)) (G3_ : n0 ≤ x_) (A4_ : Arv Z h0 s_ ks_ .char (0 : Int32) [] (ii 0)) :
  MFH l Z consts_1 x_ (⟨nm0, "<init>", "([C)V"⟩ : MethodName) jdk_42_method_3_code 2 none ({ frames := 2, cells := 2, slots := 4, locals := 29 } : Room) ws #[(rr x_), (rr s_)] h0 (Q_str1_0 Z x_ s_ ks_ h0 n0) := by
 refine MetFree.of_bodySF (plainFor_of_name pn_java_lang_String) hisR ?_
 intro p e s m args below meth c s₁ Bd hml0 hP hK
 obtain ⟨rfl, hZ, hh, hCH, hSx⟩ := hP
 have hx := Bd.exec
 have hby := Bd.bytes
 have hml : c.maxLocals = 2 := hml0
 have hown : s.vm.findClass nm0 = some m.cls := findClass_of_methodNamed Bd.named
 have hnm := (name_of_methodNamed Bd.named Bd.method).1
 have X0 : Stand p l e ({ frames := 2, cells := 2, slots := 4, locals := 29 } : Room) (s.setVm s.vm) m #[(rr x_), (rr s_)] below meth c s₁ [] 0 0 := Stand.of_body Bd
 have e0 : s₁.heap = h0 := by rw [← hh, Bd.state]; rfl
 have N0 := Fr.nil n0
 have kp0 : Keep h0 h0 [x_] := Keep.refl _ _
 have ch0 : CHr Z consts_1 s.vm h0 s.vm h0 := CHr.refl hCH
 have hS0 : s.Since s.vm 0 := (State.WarmedH.refl s).since 0
 have c0 : ∀ t, S_ p e below s₁ m 0 #[vr x_, vr s_] [] t → Steps p.tables e below (s₁.setTop (entryFrame m #[(rr x_), (rr s_)] 2)) t := fun t k => castTop (ef_str1_0 m x_ s_) k
 generalize s₁.setTop (entryFrame m #[(rr x_), (rr s_)] 2) = st0 at c0 ⊢
 replace c0 : Kt p e below s₁ st0 (mkF m 0 #[vr x_, vr s_] []) := c0
 have c1 : Kt p e below s₁ st0 (mkF m 6 #[vr x_, vr s_] [.null, (ii 0), (ii 0), (rr s_), (rr x_)]) := fun t k => by
  refine c0 t ?_
  show S_ p e below s₁ m 0 #[vr x_, vr s_] [] t
  refine XS.aloadN X0.here hx rfl (hb hby d4_0) rfl rfl ?_
  refine XS.aloadN X0.here hx rfl (hb hby d4_1) rfl rfl ?_
  refine XS.iconst X0.here hx rfl (hb hby d4_2) ?_
  refine XS.aloadN X0.here hx rfl (hb hby d4_3) rfl rfl ?_
  show S_ p e below s₁ m 4 #[vr x_, vr s_] [(rr s_), (ii 0), (rr s_), (rr x_)] t
  refine ldLen X0 hx hZ e0 A4_ rfl rfl (hb hby d4_4) ?_
  refine XS.aconstNull X0.here hx rfl (hb hby d4_5) ?_
  exact k
 obtain ⟨_, T2, L2, X2, hQ2, hS2, hZ2, hown2, cr2, c2⟩ := kspecH X0 hx hZ hown hS0 (Nat.zero_le _) (w7 hw) (w8 hw) (w10 hw) (rm := ({ frames := 1, cells := 2, slots := 4, locals := 12 } : Room)) (backOfSX (W := 0) (rm_str4_0 l Z a0 hw [] x_ s_ ks_ h0 n0 O0 E0_ F1_ F2_ G3_ A4_) hZ (w10 hw) (w3 hw) (by decide) (by decide) (own_EW hw) ch0.1 E0_.lt hSx) e0 c1 hml pd_pACIILjava_lang_Void_rV x_ [(rr s_), (ii 0), (ii 0), .null] [] (hb hby d4_6) rfl rfl rfl rfl rfl rfl
 obtain ⟨rfl, N3q, K4, p5, p6, b7, k8, p9, p10⟩ := hQ2
 have N3 := Fr.app N0 N3q
 have o11 := O0.keep K4 (allS G3_ all0)
 have kp12 := kp0.trans K4 (allS (Or.inl (List.mem_of_getElem? (i := 0) rfl)) all0)
 have ch13 : CHr Z consts_1 s.vm h0 T2.vm T2.heap := ch0.trans cr2
 obtain ⟨fs, hr, hrun, hended, hRW⟩ := X2.leaveW hS2 (by first | exact (Nat.le_refl _) | (rw [rfl]; exact (Nat.le_refl _))) (v := none) (fun _ => rfl)
 have ch14 : CHr Z consts_1 s.vm s.heap T2.vm T2.heap := by
  rw [hh]
  exact ch13.trans (CHv.at X2 hZ2 (own_EW hw) ch13.1)
 refine ⟨_, _, c2 _ ?_, hrun, hended, _, _, rfl, ?_, ch14, hRW.1, hRW.2.1, hRW.2.2.1, hRW.2.2.2.mono (by decide) (by decide)⟩
 ·show S_ p e below T2 m 9 #[vr x_, vr s_] [] _
  exact X2.returnOut hx Bd.returns (hb hby d4_9) hr
 ·show Q_str1_0 Z x_ s_ ks_ h0 n0 _ T2.heap _
  exact ⟨rfl, N3, kp12, p5, p6, b7, k8, p9, p10⟩
theorem d5_0 : decode jdk_42_method_152_code 0 = .ok (.getstatic 38, 3) := by decide +kernel
theorem d5_3 : decode jdk_42_method_152_code 3 = .ok (.ifCond .eq 10, 3) := by decide +kernel
theorem d5_6 : decode jdk_42_method_152_code 6 = .ok (.aload_n 0, 1) := by decide +kernel
theorem d5_7 : decode jdk_42_method_152_code 7 = .ok (.getfield 15, 3) := by decide +kernel
theorem d5_10 : decode jdk_42_method_152_code 10 = .ok (.goto 4, 3) := by decide +kernel
theorem d5_14 : decode jdk_42_method_152_code 14 = .ok (.ireturn, 1) := by decide +kernel
theorem ef_codL (m : MethodId) (x_ : Addr) : entryFrame m #[(rr x_)] 1 = mkF m 0 #[vr x_] [] := by first | (simp [entryFrame, mkF, argsToLocals, Value.category]; done) | rfl
def Q_codL (Z : State) (x_ : Addr) (z_ : Int32) (h0 : Heap) (n0 : Nat) (v : Option Value) (h : Heap) (L : List Loc) : Prop := v = some (ii 0) ∧ Fr n0 L ∧ h = h0
set_option maxRecDepth 65536 in
set_option maxHeartbeats 40000000 in
theorem rm_codL (l : Launch) (Z : State) (a0 : Array Value) (hw : HW Z a0) (ws : List Jvm.Cond) (x_ : Addr) (z_ : Int32) (h0 : Heap) (n0 : Nat) (O0 : Old Z n0 h0) (F0_ : Fld Z h0 x_ nm0 "coder" "B" (ii 0)) (ZS1_ : Sta Z Z.heap nm0 "COMPACT_STRINGS" "Z" (.int z_)) (hz_ : ¬ (z_ = (0 : Int32))) :
  MFP l Z (⟨nm0, "coder", "()B"⟩ : MethodName) jdk_42_method_152_code 1 (some .byte) ({ frames := 0, cells := 0, slots := 0, locals := 0 } : Room) ws #[(rr x_)] h0 (Q_codL Z x_ z_ h0 n0) := by
 refine MetFree.of_bodySF (plainFor_of_name pn_java_lang_String) hisR ?_
 intro p e s m args below meth c s₁ Bd hml0 hP hK
 obtain ⟨rfl, hZ, hh⟩ := hP
 have hx := Bd.exec
 have hby := Bd.bytes
 have hml : c.maxLocals = 1 := hml0
 have hown : s.vm.findClass nm0 = some m.cls := findClass_of_methodNamed Bd.named
 have hnm := (name_of_methodNamed Bd.named Bd.method).1
 have X0 : Stand p l e ({ frames := 0, cells := 0, slots := 0, locals := 0 } : Room) s m #[(rr x_)] below meth c s₁ [] 0 0 := Stand.of_body Bd
 have e0 : s₁.heap = h0 := by rw [← hh, Bd.state]; rfl
 have N0 := Fr.nil n0
 have kp0 : Keep h0 h0 [] := Keep.refl _ _
 have c0 : ∀ t, S_ p e below s₁ m 0 #[vr x_] [] t → Steps p.tables e below (s₁.setTop (entryFrame m #[(rr x_)] 1)) t := fun t k => castTop (ef_codL m x_) k
 generalize s₁.setTop (entryFrame m #[(rr x_)] 1) = st0 at c0 ⊢
 replace c0 : Kt p e below s₁ st0 (mkF m 0 #[vr x_] []) := c0
 obtain ⟨T1, X1, e1, c1⟩ := kgetS X0 hx hZ hown (host := "") (Or.inl (w35 hw)) Via.refl e0 (ZS1_.ext O0.2) c0 rfl (hb hby d5_0)
 have c2 : Kt p e below T1 st0 (mkF m 7 #[vr x_] [(rr x_)]) := fun t k => by
  refine c1 t ?_
  show S_ p e below T1 m 3 #[vr x_] [(.int z_)] t
  refine XS.ifNo X1.here hx rfl (hb hby d5_3) rfl ((if0 _ _).trans (feq hz_).1) ?_
  refine XS.aloadN X1.here hx rfl (hb hby d5_6) rfl rfl ?_
  exact k
 obtain ⟨T3, X3, e3, c3⟩ := kget X1 hx hZ hown (host := "") (Or.inl (w21 hw)) Via.refl e1 F0_ c2 rfl rfl (hb hby d5_7)
 obtain ⟨fs, hr, hrun, hended, hW, hsame⟩ := X3.leave (v := some (ii 0)) (fun h => by rw [Bd.returns] at h; cases h)
 refine ⟨_, _, c3 _ ?_, hrun, hended, _, _, rfl, ?_, ⟨_, rfl⟩, hW, hsame.mono (by decide) (by decide)⟩
 ·show S_ p e below T3 m 10 #[vr x_] [(ii 0)] _
  refine yG X3.here hx rfl 10 14 rfl (hb hby d5_10) ?_
  show S_ p e below T3 m 14 #[vr x_] [(ii 0)] _
  exact retN X3 hx (t := .byte) Bd.returns (by simp) (hb hby d5_14) hr
 ·show Q_codL Z x_ z_ h0 n0 _ T3.heap _
  rw [e3]
  exact ⟨rfl, N0, rfl⟩
theorem pn_gleaner_Match : plainName nm2 = true := by first | (simp [plainName, overriddenIn]; done) | decide +kernel
theorem d6_0 : decode prog_18_method_1_code 0 = .ok (.aload_n 0, 1) := by decide +kernel
theorem d6_1 : decode prog_18_method_1_code 1 = .ok (.invokespecial 1, 3) := by decide +kernel
theorem d6_4 : decode prog_18_method_1_code 4 = .ok (.aload_n 0, 1) := by decide +kernel
theorem d6_5 : decode prog_18_method_1_code 5 = .ok (.aload_n 1, 1) := by decide +kernel
theorem d6_6 : decode prog_18_method_1_code 6 = .ok (.putfield 7, 3) := by decide +kernel
theorem d6_9 : decode prog_18_method_1_code 9 = .ok (.aload_n 0, 1) := by decide +kernel
theorem d6_10 : decode prog_18_method_1_code 10 = .ok (.lload_n 2, 1) := by decide +kernel
theorem d6_11 : decode prog_18_method_1_code 11 = .ok (.putfield 13, 3) := by decide +kernel
theorem d6_14 : decode prog_18_method_1_code 14 = .ok (.aload_n 0, 1) := by decide +kernel
theorem d6_15 : decode prog_18_method_1_code 15 = .ok (.aload 4, 2) := by decide +kernel
theorem d6_17 : decode prog_18_method_1_code 17 = .ok (.putfield 17, 3) := by decide +kernel
theorem d6_20 : decode prog_18_method_1_code 20 = .ok (.return_, 1) := by decide +kernel
theorem ef_minit (m : MethodId) (x_ : Addr) (s_ : Addr) (j_ : Int64) (b_ : Addr) : entryFrame m #[(rr x_), (rr s_), (.long j_), (rr b_)] 5 = mkF m 0 #[vr x_, vr s_, vj j_, .second, vr b_] [] := by first | (simp [entryFrame, mkF, argsToLocals, Value.category]; done) | rfl
def Q_minit (Z : State) (x_ : Addr) (s_ : Addr) (j_ : Int64) (b_ : Addr) (h0 : Heap) (n0 : Nat) (v : Option Value) (h : Heap) (L : List Loc) : Prop := v = none ∧ Fr n0 L ∧ Keep h0 h [x_] ∧ Exa Z h x_ nm2 ∧ Fld Z h x_ nm2 "text" nm3 (rr s_) ∧ Fld Z h x_ nm2 "offset" "J" (.long j_) ∧ Fld Z h x_ nm2 "bounds" "[I" (rr b_)
set_option maxRecDepth 65536 in
set_option maxHeartbeats 40000000 in
theorem rm_minit (l : Launch) (Z : State) (a0 : Array Value) (hw : HW Z a0) (ws : List Jvm.Cond) (x_ : Addr) (s_ : Addr) (j_ : Int64) (b_ : Addr) (h0 : Heap) (n0 : Nat) (O0 : Old Z n0 h0) (E0_ : Exa Z h0 x_ nm2) (F1_ : Fld Z h0 x_ nm2 "text" nm3 .null) (F2_ : Fld Z h0 x_ nm2 "offset" "J" (.long (0 : Int64))) (F3_ : Fld Z h0 x_ nm2 "bounds" "[I" .null) (G4_ : n0 ≤ x_) :
  MFP l Z (⟨nm2, "<init>", "(Ljava/lang/String;J[I)V"⟩ : MethodName) prog_18_method_1_code 5 none ({ frames := 1, cells := 0, slots := 0, locals := 12 } : Room) ws #[(rr x_), (rr s_), (.long j_), (rr b_)] h0 (Q_minit Z x_ s_ j_ b_ h0 n0) := by
 refine MetFree.of_bodySF (plainFor_of_name pn_gleaner_Match) hisR ?_
 intro p e s m args below meth c s₁ Bd hml0 hP hK
 obtain ⟨rfl, hZ, hh⟩ := hP
 have hx := Bd.exec
 have hby := Bd.bytes
 have hml : c.maxLocals = 5 := hml0
 have hown : s.vm.findClass nm2 = some m.cls := findClass_of_methodNamed Bd.named
 have hnm := (name_of_methodNamed Bd.named Bd.method).1
 have X0 : Stand p l e ({ frames := 1, cells := 0, slots := 0, locals := 12 } : Room) s m #[(rr x_), (rr s_), (.long j_), (rr b_)] below meth c s₁ [] 0 0 := Stand.of_body Bd
 have e0 : s₁.heap = h0 := by rw [← hh, Bd.state]; rfl
 have N0 := Fr.nil n0
 have kp0 : Keep h0 h0 [x_] := Keep.refl _ _
 have c0 : ∀ t, S_ p e below s₁ m 0 #[vr x_, vr s_, vj j_, .second, vr b_] [] t → Steps p.tables e below (s₁.setTop (entryFrame m #[(rr x_), (rr s_), (.long j_), (rr b_)] 5)) t := fun t k => castTop (ef_minit m x_ s_ j_ b_) k
 generalize s₁.setTop (entryFrame m #[(rr x_), (rr s_), (.long j_), (rr b_)] 5) = st0 at c0 ⊢
 replace c0 : Kt p e below s₁ st0 (mkF m 0 #[vr x_, vr s_, vj j_, .second, vr b_] []) := c0
 have c1 : Kt p e below s₁ st0 (mkF m 1 #[vr x_, vr s_, vj j_, .second, vr b_] [(rr x_)]) := fun t k => by
  refine c0 t ?_
  show S_ p e below s₁ m 0 #[vr x_, vr s_, vj j_, .second, vr b_] [] t
  refine XS.aloadN X0.here hx rfl (hb hby d6_0) rfl rfl ?_
  exact k
 obtain ⟨T2, X2, e2, c2⟩ := kinit X0 hx hZ hown (w67 hw) (w12 hw) (w13 hw) e0 c1 rfl hml rfl rfl (hb hby d6_1) 0 (own_w rfl) (by decide) (by decide)
 have c3 : Kt p e below T2 st0 (mkF m 6 #[vr x_, vr s_, vj j_, .second, vr b_] [(rr s_), (rr x_)]) := fun t k => by
  refine c2 t ?_
  show S_ p e below T2 m 4 #[vr x_, vr s_, vj j_, .second, vr b_] [] t
  refine XS.aloadN X2.here hx rfl (hb hby d6_4) rfl rfl ?_
  refine XS.aloadN X2.here hx rfl (hb hby d6_5) rfl rfl ?_
  exact k
 obtain ⟨T4, h4, X4, e4, W4, f5, o7, N6, c4⟩ := kput X2 hx hZ (.object nm0) hown (host := "") (Or.inl (w68 hw)) Via.refl e2 F1_ E0_ (Or.inr ⟨(w69 hw), rfl, hnm⟩) (w52 hw) c3 rfl rfl (hb hby d6_6) (by decide) rfl rfl O0 N0 G4_
 have kp8 := kp0.wr W4 (Or.inl (List.mem_of_getElem? (i := 0) rfl))
 have f9 := F2_.other W4 (Or.inr (slot_ne (Or.inr (w71 hw)) (Or.inr (w69 hw)) (by decide) (t := .long) (t' := (.object nm0)) (by decide) (by decide)))
 have c10 : Kt p e below T4 st0 (mkF m 11 #[vr x_, vr s_, vj j_, .second, vr b_] [(.long j_), (rr x_)]) := fun t k => by
  refine c4 t ?_
  show S_ p e below T4 m 9 #[vr x_, vr s_, vj j_, .second, vr b_] [] t
  refine XS.aloadN X4.here hx rfl (hb hby d6_9) rfl rfl ?_
  refine XS.lloadN X4.here hx rfl (hb hby d6_10) rfl ?_
  exact k
 obtain ⟨T11, h11, X11, e11, W11, f12, o14, N13, c11⟩ := kput X4 hx hZ .long hown (host := "") (Or.inl (w70 hw)) Via.refl e4 f9 (E0_.wr W4) (Or.inr ⟨(w71 hw), rfl, hnm⟩) (w52 hw) c10 rfl rfl (hb hby d6_11) (by decide) rfl rfl o7 N6 G4_
 have kp15 := kp8.wr W11 (Or.inl (List.mem_of_getElem? (i := 0) rfl))
 have f16 := (F3_.other W4 (Or.inr (slot_ne (Or.inr (w73 hw)) (Or.inr (w69 hw)) (by decide) (t := (.array .int)) (t' := (.object nm0)) (by decide) (by decide)))).other W11 (Or.inr (slot_ne (Or.inr (w73 hw)) (Or.inr (w71 hw)) (by decide) (t := (.array .int)) (t' := .long) (by decide) (by decide)))
 have c17 : Kt p e below T11 st0 (mkF m 17 #[vr x_, vr s_, vj j_, .second, vr b_] [(rr b_), (rr x_)]) := fun t k => by
  refine c11 t ?_
  show S_ p e below T11 m 14 #[vr x_, vr s_, vj j_, .second, vr b_] [] t
  refine XS.aloadN X11.here hx rfl (hb hby d6_14) rfl rfl ?_
  refine XS.aload X11.here hx rfl (hb hby d6_15) rfl rfl ?_
  exact k
 obtain ⟨T18, h18, X18, e18, W18, f19, o21, N20, c18⟩ := kput X11 hx hZ (.array .int) hown (host := "") (Or.inl (w72 hw)) Via.refl e11 f16 ((E0_.wr W4).wr W11) (Or.inr ⟨(w73 hw), rfl, hnm⟩) (w52 hw) c17 rfl rfl (hb hby d6_17) (by decide) rfl rfl o14 N13 G4_
 have kp22 := kp15.wr W18 (Or.inl (List.mem_of_getElem? (i := 0) rfl))
 have f23 := (f5.other W11 (Or.inr (slot_ne (Or.inr (w69 hw)) (Or.inr (w71 hw)) (by decide) (t := (.object nm0)) (t' := .long) (by decide) (by decide)))).other W18 (Or.inr (slot_ne (Or.inr (w69 hw)) (Or.inr (w73 hw)) (by decide) (t := (.object nm0)) (t' := (.array .int)) (by decide) (by decide)))
 have f24 := f12.other W18 (Or.inr (slot_ne (Or.inr (w71 hw)) (Or.inr (w73 hw)) (by decide) (t := .long) (t' := (.array .int)) (by decide) (by decide)))
 obtain ⟨fs, hr, hrun, hended, hW, hsame⟩ := X18.leave (v := none) (fun _ => rfl)
 refine ⟨_, _, c18 _ ?_, hrun, hended, _, _, rfl, ?_, ⟨_, rfl⟩, hW, hsame.mono (by decide) (by decide)⟩
 ·show S_ p e below T18 m 20 #[vr x_, vr s_, vj j_, .second, vr b_] [] _
  exact X18.returnOut hx Bd.returns (hb hby d6_20) hr
 ·show Q_minit Z x_ s_ j_ b_ h0 n0 _ T18.heap _
  rw [e18]
  exact ⟨rfl, N20, kp22, (((E0_.wr W4).wr W11).wr W18), f23, f24, f19⟩
theorem pn_java_lang_StringLatin1 : plainName "java/lang/StringLatin1" = true := by first | (simp [plainName, overriddenIn]; done) | decide +kernel
theorem d7_0 : decode jdk_43_method_3_code 0 = .ok (.iload_n 0, 1) := by decide +kernel
theorem d7_1 : decode jdk_43_method_3_code 1 = .ok (.sipush 255, 3) := by decide +kernel
theorem d7_4 : decode jdk_43_method_3_code 4 = .ok (.if_icmp .gt 7, 3) := by decide +kernel
theorem d7_7 : decode jdk_43_method_3_code 7 = .ok (.iconst 1, 1) := by decide +kernel
theorem d7_8 : decode jdk_43_method_3_code 8 = .ok (.goto 4, 3) := by decide +kernel
theorem d7_12 : decode jdk_43_method_3_code 12 = .ok (.ireturn, 1) := by decide +kernel
theorem ef_ceC (m : MethodId) (c_ : Int32) : entryFrame m #[(.int c_)] 1 = mkF m 0 #[vi c_] [] := by first | (simp [entryFrame, mkF, argsToLocals, Value.category]; done) | rfl
def Q_ceC (Z : State) (c_ : Int32) (h0 : Heap) (n0 : Nat) (v : Option Value) (h : Heap) (L : List Loc) : Prop := v = some (ii 1) ∧ Fr n0 L ∧ h = h0
set_option maxRecDepth 65536 in
set_option maxHeartbeats 40000000 in
theorem rm_ceC (l : Launch) (Z : State) (a0 : Array Value) (hw : HW Z a0) (ws : List Jvm.Cond) (c_ : Int32) (h0 : Heap) (n0 : Nat) (O0 : Old Z n0 h0) (hs_ : ¬ ((255 : Int32) < c_)) :
  MFP l Z (⟨"java/lang/StringLatin1", "canEncode", "(C)Z"⟩ : MethodName) jdk_43_method_3_code 1 (some .boolean) ({ frames := 0, cells := 0, slots := 0, locals := 0 } : Room) ws #[(.int c_)] h0 (Q_ceC Z c_ h0 n0) := by
 refine MetFree.of_bodySF (plainFor_of_name pn_java_lang_StringLatin1) hisR ?_
 intro p e s m args below meth c s₁ Bd hml0 hP hK
 obtain ⟨rfl, hZ, hh⟩ := hP
 have hx := Bd.exec
 have hby := Bd.bytes
 have hml : c.maxLocals = 1 := hml0
 have hown : s.vm.findClass "java/lang/StringLatin1" = some m.cls := findClass_of_methodNamed Bd.named
 have hnm := (name_of_methodNamed Bd.named Bd.method).1
 have X0 : Stand p l e ({ frames := 0, cells := 0, slots := 0, locals := 0 } : Room) s m #[(.int c_)] below meth c s₁ [] 0 0 := Stand.of_body Bd
 have e0 : s₁.heap = h0 := by rw [← hh, Bd.state]; rfl
 have N0 := Fr.nil n0
 have kp0 : Keep h0 h0 [] := Keep.refl _ _
 have c0 : ∀ t, S_ p e below s₁ m 0 #[vi c_] [] t → Steps p.tables e below (s₁.setTop (entryFrame m #[(.int c_)] 1)) t := fun t k => castTop (ef_ceC m c_) k
 generalize s₁.setTop (entryFrame m #[(.int c_)] 1) = st0 at c0 ⊢
 replace c0 : Kt p e below s₁ st0 (mkF m 0 #[vi c_] []) := c0
 obtain ⟨fs, hr, hrun, hended, hW, hsame⟩ := X0.leave (v := some (ii 1)) (fun h => by rw [Bd.returns] at h; cases h)
 refine ⟨_, _, c0 _ ?_, hrun, hended, _, _, rfl, ?_, ⟨_, rfl⟩, hW, hsame.mono (by decide) (by decide)⟩
 ·show S_ p e below s₁ m 0 #[vi c_] [] _
  refine XS.iloadN X0.here hx rfl (hb hby d7_0) rfl ?_
  refine XS.sipush X0.here hx rfl (hb hby d7_1) ?_
  refine XS.icmpNo X0.here hx rfl (hb hby d7_4) rfl (flt hs_).2.2.1 ?_
  refine XS.iconst X0.here hx rfl (hb hby d7_7) ?_
  show S_ p e below s₁ m 8 #[vi c_] [(ii 1)] _
  refine yG X0.here hx rfl 8 12 rfl (hb hby d7_8) ?_
  show S_ p e below s₁ m 12 #[vi c_] [(ii 1)] _
  exact retN X0 hx (t := .boolean) Bd.returns (by simp) (hb hby d7_12) hr
 ·show Q_ceC Z c_ h0 n0 _ s₁.heap _
  rw [e0]
  exact ⟨rfl, N0, rfl⟩
theorem d8_0 : decode jdk_43_method_46_code 0 = .ok (.iconst 1, 1) := by decide +kernel
theorem d8_1 : decode jdk_43_method_46_code 1 = .ok (.newarray .byte, 2) := by decide +kernel
theorem d8_3 : decode jdk_43_method_46_code 3 = .ok (.dup, 1) := by decide +kernel
theorem d8_4 : decode jdk_43_method_46_code 4 = .ok (.iconst 0, 1) := by decide +kernel
theorem d8_5 : decode jdk_43_method_46_code 5 = .ok (.iload_n 0, 1) := by decide +kernel
theorem d8_6 : decode jdk_43_method_46_code 6 = .ok (.i2b, 1) := by decide +kernel
theorem d8_7 : decode jdk_43_method_46_code 7 = .ok (.bastore, 1) := by decide +kernel
theorem d8_8 : decode jdk_43_method_46_code 8 = .ok (.areturn, 1) := by decide +kernel
theorem ef_l1tb (m : MethodId) (c0_ : Int32) : entryFrame m #[(.int c0_)] 1 = mkF m 0 #[vi c0_] [] := by first | (simp [entryFrame, mkF, argsToLocals, Value.category]; done) | rfl
def Q_l1tb (Z : State) (c0_ : Int32) (h0 : Heap) (n0 : Nat) (v : Option Value) (h : Heap) (L : List Loc) : Prop := ∃ (b_ : Addr), ∃ (kb_ : ClassId), v = some (rr b_) ∧ Fr n0 L ∧ Keep h0 h [] ∧ Arv Z h b_ kb_ .byte (1 : Int32) [(.int (nar .byte (c0_.toInt8.toInt32)))] (ii 0) ∧ n0 ≤ b_ ∧ h0.size ≤ b_
set_option maxRecDepth 65536 in
set_option maxHeartbeats 40000000 in
theorem rm_l1tb (l : Launch) (Z : State) (a0 : Array Value) (hw : HW Z a0) (ws : List Jvm.Cond) (c0_ : Int32) (h0 : Heap) (n0 : Nat) (O0 : Old Z n0 h0) :
  MFP l Z (⟨"java/lang/StringLatin1", "toBytes", "(C)[B"⟩ : MethodName) jdk_43_method_46_code 1 (some (.array .byte)) ({ frames := 0, cells := 1, slots := 1, locals := 0 } : Room) ws #[(.int c0_)] h0 (Q_l1tb Z c0_ h0 n0) := by
 refine MetFree.of_bodySF (plainFor_of_name pn_java_lang_StringLatin1) hisR ?_
 intro p e s m args below meth c s₁ Bd hml0 hP hK
 obtain ⟨rfl, hZ, hh⟩ := hP
 have hx := Bd.exec
 have hby := Bd.bytes
 have hml : c.maxLocals = 1 := hml0
 have hown : s.vm.findClass "java/lang/StringLatin1" = some m.cls := findClass_of_methodNamed Bd.named
 have hnm := (name_of_methodNamed Bd.named Bd.method).1
 have X0 : Stand p l e ({ frames := 0, cells := 1, slots := 1, locals := 0 } : Room) s m #[(.int c0_)] below meth c s₁ [] 0 0 := Stand.of_body Bd
 have e0 : s₁.heap = h0 := by rw [← hh, Bd.state]; rfl
 have N0 := Fr.nil n0
 have kp0 : Keep h0 h0 [] := Keep.refl _ _
 have c0 : ∀ t, S_ p e below s₁ m 0 #[vi c0_] [] t → Steps p.tables e below (s₁.setTop (entryFrame m #[(.int c0_)] 1)) t := fun t k => castTop (ef_l1tb m c0_) k
 generalize s₁.setTop (entryFrame m #[(.int c0_)] 1) = st0 at c0 ⊢
 replace c0 : Kt p e below s₁ st0 (mkF m 0 #[vi c0_] []) := c0
 have c1 : Kt p e below s₁ st0 (mkF m 1 #[vi c0_] [(ii 1)]) := fun t k => by
  refine c0 t ?_
  show S_ p e below s₁ m 0 #[vi c0_] [] t
  refine XS.iconst X0.here hx rfl (hb hby d8_0) ?_
  exact k
 obtain ⟨b2, T2, h2, k2, z2, g2, X2, e2, E2, o3, A2, c2⟩ := knewP (aty := .byte) X0 hx hZ (w15 hw) e0 c1 rfl (hb hby d8_1) rfl (by decide) 1 (by decide) (by decide) (by decide) (by decide) O0
 have kp5 := kp0.ext E2
 have z6 := Nat.le_trans kp0.1 z2
 have f4 : Arv Z h2 b2 k2 .byte (1 : Int32) [(ii 0)] (ii 0) := A2.pad (pad_rep [] (ii 0) 1)
 have c7 : Kt p e below T2 st0 (mkF m 7 #[vi c0_] [(.int (c0_.toInt8.toInt32)), (ii 0), (rr b2), (rr b2)]) := fun t k => by
  refine c2 t ?_
  show S_ p e below T2 m 3 #[vi c0_] [(rr b2)] t
  refine XS.dup X2.here hx rfl (hb hby d8_3) rfl rfl ?_
  refine XS.iconst X2.here hx rfl (hb hby d8_4) ?_
  refine XS.iloadN X2.here hx rfl (hb hby d8_5) rfl ?_
  refine XS.i2b X2.here hx rfl (hb hby d8_6) rfl ?_
  exact k
 obtain ⟨T8, h8, X8, e8, W8, f11, o9, N10, c8⟩ := kstB X2 hx hZ e2 f4 (j := (0 : Int32)) (by decide) (by decide) 0 rfl (Nat.le_of_ble_eq_true rfl) c7 rfl rfl (hb hby d8_7) o3 N0 g2
 have f12 : Arv Z h8 b2 k2 .byte (1 : Int32) [(.int (nar .byte (c0_.toInt8.toInt32)))] (ii 0) := f11
 have kp13 := kp5.wr W8 (Or.inr z6)
 obtain ⟨fs, hr, hrun, hended, hW, hsame⟩ := X8.leave (v := some (rr b2)) (fun h => by rw [Bd.returns] at h; cases h)
 refine ⟨_, _, c8 _ ?_, hrun, hended, _, _, rfl, ?_, ⟨_, rfl⟩, hW, hsame.mono (by decide) (by decide)⟩
 ·show S_ p e below T8 m 8 #[vi c0_] [(rr b2)] _
  exact retOut X8 hx Bd.returns rfl (Or.inr (Or.inr (Or.inr (Or.inr ⟨rfl, rfl, rfl⟩)))) (hb hby d8_8) hr
 ·show Q_l1tb Z c0_ h0 n0 _ T8.heap _
  rw [e8]
  exact ⟨b2, k2, rfl, N10, kp13, f12, g2, z6⟩
theorem d9_0 : decode jdk_42_method_151_code 0 = .ok (.aload_n 0, 1) := by decide +kernel
theorem d9_1 : decode jdk_42_method_151_code 1 = .ok (.invokespecial 1, 3) := by decide +kernel
theorem d9_4 : decode jdk_42_method_151_code 4 = .ok (.aload_n 0, 1) := by decide +kernel
theorem d9_5 : decode jdk_42_method_151_code 5 = .ok (.aload_n 1, 1) := by decide +kernel
theorem d9_6 : decode jdk_42_method_151_code 6 = .ok (.putfield 9, 3) := by decide +kernel
theorem d9_9 : decode jdk_42_method_151_code 9 = .ok (.aload_n 0, 1) := by decide +kernel
theorem d9_10 : decode jdk_42_method_151_code 10 = .ok (.iload_n 2, 1) := by decide +kernel
theorem d9_11 : decode jdk_42_method_151_code 11 = .ok (.putfield 15, 3) := by decide +kernel
theorem d9_14 : decode jdk_42_method_151_code 14 = .ok (.return_, 1) := by decide +kernel
theorem ef_sbb0 (m : MethodId) (x_ : Addr) (s_ : Addr) : entryFrame m #[(rr x_), (rr s_), (ii 0)] 3 = mkF m 0 #[vr x_, vr s_, vi 0] [] := by first | (simp [entryFrame, mkF, argsToLocals, Value.category]; done) | rfl
def Q_sbb0 (Z : State) (x_ : Addr) (s_ : Addr) (h0 : Heap) (n0 : Nat) (v : Option Value) (h : Heap) (L : List Loc) : Prop := v = none ∧ Fr n0 L ∧ Keep h0 h [x_] ∧ Exa Z h x_ nm0 ∧ Fld Z h x_ nm0 "coder" "B" (ii 0) ∧ Fld Z h x_ nm0 "value" "[B" (rr s_)
set_option maxRecDepth 65536 in
set_option maxHeartbeats 40000000 in
theorem rm_sbb0 (l : Launch) (Z : State) (a0 : Array Value) (hw : HW Z a0) (ws : List Jvm.Cond) (x_ : Addr) (s_ : Addr) (h0 : Heap) (n0 : Nat) (O0 : Old Z n0 h0) (E0_ : Exa Z h0 x_ nm0) (F1_ : Fld Z h0 x_ nm0 "value" "[B" .null) (F2_ : Fld Z h0 x_ nm0 "coder" "B" (ii 0)) (G3_ : n0 ≤ x_) :
  MFP l Z (⟨nm0, "<init>", "([BB)V"⟩ : MethodName) jdk_42_method_151_code 3 none ({ frames := 1, cells := 0, slots := 0, locals := 12 } : Room) ws #[(rr x_), (rr s_), (ii 0)] h0 (Q_sbb0 Z x_ s_ h0 n0) := by
 refine MetFree.of_bodySF (plainFor_of_name pn_java_lang_String) hisR ?_
 intro p e s m args below meth c s₁ Bd hml0 hP hK
 obtain ⟨rfl, hZ, hh⟩ := hP
 have hx := Bd.exec
 have hby := Bd.bytes
 have hml : c.maxLocals = 3 := hml0
 have hown : s.vm.findClass nm0 = some m.cls := findClass_of_methodNamed Bd.named
 have hnm := (name_of_methodNamed Bd.named Bd.method).1
 have X0 : Stand p l e ({ frames := 1, cells := 0, slots := 0, locals := 12 } : Room) s m #[(rr x_), (rr s_), (ii 0)] below meth c s₁ [] 0 0 := Stand.of_body Bd
 have e0 : s₁.heap = h0 := by rw [← hh, Bd.state]; rfl
 have N0 := Fr.nil n0
 have kp0 : Keep h0 h0 [x_] := Keep.refl _ _
 have c0 : ∀ t, S_ p e below s₁ m 0 #[vr x_, vr s_, vi 0] [] t → Steps p.tables e below (s₁.setTop (entryFrame m #[(rr x_), (rr s_), (ii 0)] 3)) t := fun t k => castTop (ef_sbb0 m x_ s_) k
 generalize s₁.setTop (entryFrame m #[(rr x_), (rr s_), (ii 0)] 3) = st0 at c0 ⊢
 replace c0 : Kt p e below s₁ st0 (mkF m 0 #[vr x_, vr s_, vi 0] []) := c0
 have c1 : Kt p e below s₁ st0 (mkF m 1 #[vr x_, vr s_, vi 0] [(rr x_)]) := fun t k => by
  refine c0 t ?_
  show S_ p e below s₁ m 0 #[vr x_, vr s_, vi 0] [] t
  refine XS.aloadN X0.here hx rfl (hb hby d9_0) rfl rfl ?_
  exact k
 obtain ⟨T2, X2, e2, c2⟩ := kinit X0 hx hZ hown (w11 hw) (w12 hw) (w13 hw) e0 c1 rfl hml rfl rfl (hb hby d9_1) 0 (own_w rfl) (by decide) (by decide)
 have c3 : Kt p e below T2 st0 (mkF m 6 #[vr x_, vr s_, vi 0] [(rr s_), (rr x_)]) := fun t k => by
  refine c2 t ?_
  show S_ p e below T2 m 4 #[vr x_, vr s_, vi 0] [] t
  refine XS.aloadN X2.here hx rfl (hb hby d9_4) rfl rfl ?_
  refine XS.aloadN X2.here hx rfl (hb hby d9_5) rfl rfl ?_
  exact k
 obtain ⟨T4, h4, X4, e4, W4, f5, o7, N6, c4⟩ := kput X2 hx hZ (.array .byte) hown (host := "") (Or.inl (w20 hw)) Via.refl e2 F1_ E0_ (Or.inr ⟨(w16 hw), rfl, hnm⟩) (w2 hw) c3 rfl rfl (hb hby d9_6) (by decide) rfl rfl O0 N0 G3_
 have kp8 := kp0.wr W4 (Or.inl (List.mem_of_getElem? (i := 0) rfl))
 have f9 := F2_.other W4 (Or.inr (slot_ne (Or.inr (w17 hw)) (Or.inr (w16 hw)) (by decide) (t := .byte) (t' := (.array .byte)) (by decide) (by decide)))
 have c10 : Kt p e below T4 st0 (mkF m 11 #[vr x_, vr s_, vi 0] [(ii 0), (rr x_)]) := fun t k => by
  refine c4 t ?_
  show S_ p e below T4 m 9 #[vr x_, vr s_, vi 0] [] t
  refine XS.aloadN X4.here hx rfl (hb hby d9_9) rfl rfl ?_
  refine XS.iloadN X4.here hx rfl (hb hby d9_10) rfl ?_
  exact k
 obtain ⟨T11, h11, X11, e11, W11, f12, o14, N13, c11⟩ := kput X4 hx hZ .byte hown (host := "") (Or.inl (w21 hw)) Via.refl e4 f9 (E0_.wr W4) (Or.inr ⟨(w17 hw), rfl, hnm⟩) (w2 hw) c10 rfl rfl (hb hby d9_11) (by decide) rfl rfl o7 N6 G3_
 have kp15 := kp8.wr W11 (Or.inl (List.mem_of_getElem? (i := 0) rfl))
 have f16 := f5.other W11 (Or.inr (slot_ne (Or.inr (w16 hw)) (Or.inr (w17 hw)) (by decide) (t := (.array .byte)) (t' := .byte) (by decide) (by decide)))
 obtain ⟨fs, hr, hrun, hended, hW, hsame⟩ := X11.leave (v := none) (fun _ => rfl)
 refine ⟨_, _, c11 _ ?_, hrun, hended, _, _, rfl, ?_, ⟨_, rfl⟩, hW, hsame.mono (by decide) (by decide)⟩
 ·show S_ p e below T11 m 14 #[vr x_, vr s_, vi 0] [] _
  exact X11.returnOut hx Bd.returns (hb hby d9_14) hr
 ·show Q_sbb0 Z x_ s_ h0 n0 _ T11.heap _
  rw [e11]
  exact ⟨rfl, N13, kp15, ((E0_.wr W4).wr W11), f12, f16⟩
theorem d10_0 : decode jdk_42_method_139_code 0 = .ok (.getstatic 38, 3) := by decide +kernel
theorem d10_3 : decode jdk_42_method_139_code 3 = .ok (.ifCond .eq 23, 3) := by decide +kernel
theorem d10_6 : decode jdk_42_method_139_code 6 = .ok (.iload_n 0, 1) := by decide +kernel
theorem d10_7 : decode jdk_42_method_139_code 7 = .ok (.invokestatic 1015, 3) := by decide +kernel
theorem pd_pCrZ : parseMethodDescriptor "(C)Z" = some ⟨[.char], some .boolean⟩ := by decide +kernel
theorem d10_10 : decode jdk_42_method_139_code 10 = .ok (.ifCond .eq 16, 3) := by decide +kernel
theorem d10_13 : decode jdk_42_method_139_code 13 = .ok (.new 10, 3) := by decide +kernel
theorem d10_16 : decode jdk_42_method_139_code 16 = .ok (.dup, 1) := by decide +kernel
theorem d10_17 : decode jdk_42_method_139_code 17 = .ok (.iload_n 0, 1) := by decide +kernel
theorem d10_18 : decode jdk_42_method_139_code 18 = .ok (.invokestatic 1018, 3) := by decide +kernel
theorem pd_pCrAB : parseMethodDescriptor "(C)[B" = some ⟨[.char], some (.array .byte)⟩ := by decide +kernel
theorem d10_21 : decode jdk_42_method_139_code 21 = .ok (.iconst 0, 1) := by decide +kernel
theorem d10_22 : decode jdk_42_method_139_code 22 = .ok (.invokespecial 209, 3) := by decide +kernel
theorem pd_pABBrV : parseMethodDescriptor "([BB)V" = some ⟨[(.array .byte), .byte], none⟩ := by decide +kernel
theorem d10_25 : decode jdk_42_method_139_code 25 = .ok (.areturn, 1) := by decide +kernel
theorem ef_svo (m : MethodId) (c0_ : Int32) : entryFrame m #[(.int c0_)] 1 = mkF m 0 #[vi c0_] [] := by first | (simp [entryFrame, mkF, argsToLocals, Value.category]; done) | rfl
def Q_svo (Z : State) (c0_ : Int32) (z_ : Int32) (h0 : Heap) (n0 : Nat) (v : Option Value) (h : Heap) (L : List Loc) : Prop := ∃ (x_ : Addr), v = some (rr x_) ∧ Fr n0 L ∧ Keep h0 h [] ∧ Exa Z h x_ nm0 ∧ Fld Z h x_ nm0 "coder" "B" (ii 0) ∧ ∃ (b_ : Addr), ∃ (kb_ : ClassId), Fld Z h x_ nm0 "value" "[B" (rr b_) ∧ Arv Z h b_ kb_ .byte (1 : Int32) [(.int (nar .byte (c0_.toInt8.toInt32)))] (ii 0) ∧ h0.size ≤ x_
set_option maxRecDepth 65536 in
set_option maxHeartbeats 40000000 in
theorem rm_svo (l : Launch) (Z : State) (a0 : Array Value) (hw : HW Z a0) (ws : List Jvm.Cond) (c0_ : Int32) (z_ : Int32) (h0 : Heap) (n0 : Nat) (O0 : Old Z n0 h0) (ZS0_ : Sta Z Z.heap nm0 "COMPACT_STRINGS" "Z" (.int z_)) (hz_ : ¬ (z_ = (0 : Int32))) (hs_ : ¬ ((255 : Int32) < c0_)) :
  MFP l Z (⟨nm0, "valueOf", "(C)Ljava/lang/String;"⟩ : MethodName) jdk_42_method_139_code 1 (some (.object nm0)) ({ frames := 2, cells := 2, slots := 5, locals := 27 } : Room) ws #[(.int c0_)] h0 (Q_svo Z c0_ z_ h0 n0) := by
 refine MetFree.of_bodySF (plainFor_of_name pn_java_lang_String) hisR ?_
 intro p e s m args below meth c s₁ Bd hml0 hP hK
 obtain ⟨rfl, hZ, hh⟩ := hP
 have hx := Bd.exec
 have hby := Bd.bytes
 have hml : c.maxLocals = 1 := hml0
 have hown : s.vm.findClass nm0 = some m.cls := findClass_of_methodNamed Bd.named
 have hnm := (name_of_methodNamed Bd.named Bd.method).1
 have X0 : Stand p l e ({ frames := 2, cells := 2, slots := 5, locals := 27 } : Room) s m #[(.int c0_)] below meth c s₁ [] 0 0 := Stand.of_body Bd
 have e0 : s₁.heap = h0 := by rw [← hh, Bd.state]; rfl
 have N0 := Fr.nil n0
 have kp0 : Keep h0 h0 [] := Keep.refl _ _
 have c0 : ∀ t, S_ p e below s₁ m 0 #[vi c0_] [] t → Steps p.tables e below (s₁.setTop (entryFrame m #[(.int c0_)] 1)) t := fun t k => castTop (ef_svo m c0_) k
 generalize s₁.setTop (entryFrame m #[(.int c0_)] 1) = st0 at c0 ⊢
 replace c0 : Kt p e below s₁ st0 (mkF m 0 #[vi c0_] []) := c0
 obtain ⟨T1, X1, e1, c1⟩ := kgetS X0 hx hZ hown (host := "") (Or.inl (w35 hw)) Via.refl e0 (ZS0_.ext O0.2) c0 rfl (hb hby d10_0)
 have c2 : Kt p e below T1 st0 (mkF m 7 #[vi c0_] [(.int c0_)]) := fun t k => by
  refine c1 t ?_
  show S_ p e below T1 m 3 #[vi c0_] [(.int z_)] t
  refine XS.ifNo X1.here hx rfl (hb hby d10_3) rfl ((if0 _ _).trans (feq hz_).1) ?_
  refine XS.iloadN X1.here hx rfl (hb hby d10_6) rfl ?_
  exact k
 obtain ⟨_, T3, L3, X3, hQ3, c3⟩ := kstat X1 hx hZ hown (w36 hw) (w37 hw) (w38 hw) (w39 hw) (rm_ceC l Z a0 hw [] c0_ h0 n0 O0 hs_) e1 c2 hml pd_pCrZ [(.int c0_)] [] 0 (hb hby d10_7) rfl rfl rfl rfl rfl rfl
 obtain ⟨rfl, N4q, K5⟩ := hQ3
 have N4 := Fr.app N0 N4q
 have c6 : Kt p e below T3 st0 (mkF m 13 #[vi c0_] []) := fun t k => by
  refine c3 t ?_
  show S_ p e below T3 m 10 #[vi c0_] [(ii 1)] t
  refine XS.ifNo X3.here hx rfl (hb hby d10_10) rfl rfl ?_
  exact k
 obtain ⟨b7, T7, h7, z7, g7, X7, e7, E7, o8, A7, D7, U7, c7⟩ := knew X3 hx hZ hown (w40 hw) (w2 hw) (w3 hw) K5 c6 rfl (hb hby d10_13) (by decide) (by decide) O0
 have kp9 := kp0.ext E7
 have z10 := Nat.le_trans kp0.1 z7
 have c11 : Kt p e below T7 st0 (mkF m 18 #[vi c0_] [(.int c0_), (rr b7), (rr b7)]) := fun t k => by
  refine c7 t ?_
  show S_ p e below T7 m 16 #[vi c0_] [(rr b7)] t
  refine XS.dup X7.here hx rfl (hb hby d10_16) rfl rfl ?_
  refine XS.iloadN X7.here hx rfl (hb hby d10_17) rfl ?_
  exact k
 obtain ⟨_, T12, L12, X12, hQ12, c12⟩ := kstat X7 hx hZ hown (w41 hw) (w42 hw) (w38 hw) (w43 hw) (rm_l1tb l Z a0 hw [] c0_ h7 n0 o8 ) e7 c11 hml pd_pCrAB [(.int c0_)] [(rr b7), (rr b7)] 2 (hb hby d10_18) rfl rfl rfl rfl rfl rfl
 obtain ⟨b13, k14, rfl, N15q, K16, p17, p18, p19⟩ := hQ12
 have N15 := Fr.app N4 N15q
 have o20 := o8.keep K16 all0
 have kp21 := kp9.trans K16 all0
 have z22 := Nat.le_trans kp9.1 p19
 have g23 := Nat.le_trans (Nat.le_trans (Nat.le_of_eq o8.1.symm) o8.2.1) p19
 have f24 := (show Fld Z h7 b7 nm0 "value" "[B" .null from D7 (Or.inr (w16 hw)) (ty := (.array .byte)) (by decide)).keep K16 nin0
 have f25 := (show Fld Z h7 b7 nm0 "coder" "B" (ii 0) from D7 (Or.inr (w17 hw)) (ty := .byte) (by decide)).keep K16 nin0
 have c26 : Kt p e below T12 st0 (mkF m 22 #[vi c0_] [(ii 0), (rr b13), (rr b7), (rr b7)]) := fun t k => by
  refine c12 t ?_
  show S_ p e below T12 m 21 #[vi c0_] [(rr b13), (rr b7), (rr b7)] t
  refine XS.iconst X12.here hx rfl (hb hby d10_21) ?_
  exact k
 obtain ⟨_, T27, L27, X27, hQ27, c27⟩ := kspec X12 hx hZ hown (w44 hw) (w45 hw) (w3 hw) (w46 hw) (rm_sbb0 l Z a0 hw [] b7 b13 T12.heap n0 o20 (A7.keep K16) f24 f25 g7) rfl c26 hml pd_pABBrV b7 [(rr b13), (ii 0)] [(rr b7)] 1 (hb hby d10_22) rfl rfl rfl rfl rfl rfl
 obtain ⟨rfl, N28q, K29, p30, p31, p32⟩ := hQ27
 have N28 := Fr.app N15 N28q
 have o33 := o20.keep K29 (allS g7 all0)
 have kp34 := kp21.trans K29 (allS (Or.inr z10) all0)
 have q35 := Ne.symm (Nat.ne_of_lt (Nat.lt_of_lt_of_le A7.lt p19))
 obtain ⟨fs, hr, hrun, hended, hW, hsame⟩ := X27.leave (v := some (rr b7)) (fun h => by rw [Bd.returns] at h; cases h)
 refine ⟨_, _, c27 _ ?_, hrun, hended, _, _, rfl, ?_, ⟨_, rfl⟩, hW, hsame.mono (by decide) (by decide)⟩
 ·show S_ p e below T27 m 25 #[vi c0_] [(rr b7)] _
  exact retOut X27 hx Bd.returns rfl (Or.inr (Or.inr (Or.inr (Or.inr ⟨rfl, rfl, rfl⟩)))) (hb hby d10_25) hr
 ·show Q_svo Z c0_ z_ h0 n0 _ T27.heap _
  exact ⟨b7, rfl, N28, kp34, p30, p31, b13, k14, p32, (p17.keep K29 (ninS q35 nin0)), z10⟩
theorem pn_gleaner_LastMatch : plainName nm1 = true := by first | (simp [plainName, overriddenIn]; done) | decide +kernel
theorem d11_0 : decode prog_15_method_1_code 0 = .ok (.aload_n 0, 1) := by decide +kernel
theorem d11_1 : decode prog_15_method_1_code 1 = .ok (.invokespecial 1, 3) := by decide +kernel
theorem d11_4 : decode prog_15_method_1_code 4 = .ok (.aload_n 0, 1) := by decide +kernel
theorem d11_5 : decode prog_15_method_1_code 5 = .ok (.iconst (-1), 1) := by decide +kernel
theorem d11_6 : decode prog_15_method_1_code 6 = .ok (.putfield 7, 3) := by decide +kernel
theorem d11_9 : decode prog_15_method_1_code 9 = .ok (.return_, 1) := by decide +kernel
theorem ef_lminit (m : MethodId) (x_ : Addr) : entryFrame m #[(rr x_)] 1 = mkF m 0 #[vr x_] [] := by first | (simp [entryFrame, mkF, argsToLocals, Value.category]; done) | rfl
def Q_lminit (Z : State) (x_ : Addr) (h0 : Heap) (n0 : Nat) (v : Option Value) (h : Heap) (L : List Loc) : Prop := v = none ∧ Fr n0 L ∧ Keep h0 h [x_] ∧ Exa Z h x_ nm1 ∧ Fld Z h x_ nm1 "made" nm10 .null ∧ Fld Z h x_ nm1 "read" nm3 .null ∧ Fld Z h x_ nm1 "copiedLength" "I" (ii (-1)) ∧ Fld Z h x_ nm1 "offset" "J" (.long (0 : Int64)) ∧ Fld Z h x_ nm1 "terminatorLength" "I" (ii 0) ∧ Fld Z h x_ nm1 "copied" "[C" .null ∧ Fld Z h x_ nm1 "terminatorStart" "C" (ii 0) ∧ Fld Z h x_ nm1 "terminatorRead" "Z" (ii 0)
set_option maxRecDepth 65536 in
set_option maxHeartbeats 40000000 in
theorem rm_lminit (l : Launch) (Z : State) (a0 : Array Value) (hw : HW Z a0) (ws : List Jvm.Cond) (x_ : Addr) (h0 : Heap) (n0 : Nat) (O0 : Old Z n0 h0) (E0_ : Exa Z h0 x_ nm1) (G1_ : n0 ≤ x_) (F2_ : Fld Z h0 x_ nm1 "made" nm10 .null) (F3_ : Fld Z h0 x_ nm1 "read" nm3 .null) (F4_ : Fld Z h0 x_ nm1 "copiedLength" "I" (ii 0)) (F5_ : Fld Z h0 x_ nm1 "offset" "J" (.long (0 : Int64))) (F6_ : Fld Z h0 x_ nm1 "terminatorLength" "I" (ii 0)) (F7_ : Fld Z h0 x_ nm1 "copied" "[C" .null) (F8_ : Fld Z h0 x_ nm1 "terminatorStart" "C" (ii 0)) (F9_ : Fld Z h0 x_ nm1 "terminatorRead" "Z" (ii 0)) :
  MFP l Z (⟨nm1, "<init>", "()V"⟩ : MethodName) prog_15_method_1_code 1 none ({ frames := 1, cells := 0, slots := 0, locals := 12 } : Room) ws #[(rr x_)] h0 (Q_lminit Z x_ h0 n0) := by
 refine MetFree.of_bodySF (plainFor_of_name pn_gleaner_LastMatch) hisR ?_
 intro p e s m args below meth c s₁ Bd hml0 hP hK
 obtain ⟨rfl, hZ, hh⟩ := hP
 have hx := Bd.exec
 have hby := Bd.bytes
 have hml : c.maxLocals = 1 := hml0
 have hown : s.vm.findClass nm1 = some m.cls := findClass_of_methodNamed Bd.named
 have hnm := (name_of_methodNamed Bd.named Bd.method).1
 have X0 : Stand p l e ({ frames := 1, cells := 0, slots := 0, locals := 12 } : Room) s m #[(rr x_)] below meth c s₁ [] 0 0 := Stand.of_body Bd
 have e0 : s₁.heap = h0 := by rw [← hh, Bd.state]; rfl
 have N0 := Fr.nil n0
 have kp0 : Keep h0 h0 [x_] := Keep.refl _ _
 have c0 : ∀ t, S_ p e below s₁ m 0 #[vr x_] [] t → Steps p.tables e below (s₁.setTop (entryFrame m #[(rr x_)] 1)) t := fun t k => castTop (ef_lminit m x_) k
 generalize s₁.setTop (entryFrame m #[(rr x_)] 1) = st0 at c0 ⊢
 replace c0 : Kt p e below s₁ st0 (mkF m 0 #[vr x_] []) := c0
 have c1 : Kt p e below s₁ st0 (mkF m 1 #[vr x_] [(rr x_)]) := fun t k => by
  refine c0 t ?_
  show S_ p e below s₁ m 0 #[vr x_] [] t
  refine XS.aloadN X0.here hx rfl (hb hby d11_0) rfl rfl ?_
  exact k
 obtain ⟨T2, X2, e2, c2⟩ := kinit X0 hx hZ hown (w29 hw) (w12 hw) (w13 hw) e0 c1 rfl hml rfl rfl (hb hby d11_1) 0 (own_w rfl) (by decide) (by decide)
 have c3 : Kt p e below T2 st0 (mkF m 6 #[vr x_] [(ii (-1)), (rr x_)]) := fun t k => by
  refine c2 t ?_
  show S_ p e below T2 m 4 #[vr x_] [] t
  refine XS.aloadN X2.here hx rfl (hb hby d11_4) rfl rfl ?_
  refine XS.iconst X2.here hx rfl (hb hby d11_5) ?_
  exact k
 obtain ⟨T4, h4, X4, e4, W4, f5, o7, N6, c4⟩ := kput X2 hx hZ .int hown (host := "") (Or.inl (w30 hw)) Via.refl e2 F4_ E0_ (Or.inl (w31 hw)) (w24 hw) c3 rfl rfl (hb hby d11_6) (by decide) rfl rfl O0 N0 G1_
 have kp8 := kp0.wr W4 (Or.inl (List.mem_of_getElem? (i := 0) rfl))
 have f9 := F2_.other W4 (Or.inr (slot_ne (Or.inl (w80 hw)) (Or.inl (w31 hw)) (by decide) (t := (.object nm2)) (t' := .int) (by decide) (by decide)))
 have f10 := F3_.other W4 (Or.inr (slot_ne (Or.inl (w82 hw)) (Or.inl (w31 hw)) (by decide) (t := (.object nm0)) (t' := .int) (by decide) (by decide)))
 have f11 := F5_.other W4 (Or.inr (slot_ne (Or.inl (w90 hw)) (Or.inl (w31 hw)) (by decide) (t := .long) (t' := .int) (by decide) (by decide)))
 have f12 := F6_.other W4 (Or.inr (slot_ne (Or.inl (w92 hw)) (Or.inl (w31 hw)) (by decide) (t := .int) (t' := .int) (by decide) (by decide)))
 have f13 := F7_.other W4 (Or.inr (slot_ne (Or.inl (w197 hw)) (Or.inl (w31 hw)) (by decide) (t := (.array .char)) (t' := .int) (by decide) (by decide)))
 have f14 := F8_.other W4 (Or.inr (slot_ne (Or.inl (w178 hw)) (Or.inl (w31 hw)) (by decide) (t := .char) (t' := .int) (by decide) (by decide)))
 have f15 := F9_.other W4 (Or.inr (slot_ne (Or.inl (w180 hw)) (Or.inl (w31 hw)) (by decide) (t := .boolean) (t' := .int) (by decide) (by decide)))
 obtain ⟨fs, hr, hrun, hended, hW, hsame⟩ := X4.leave (v := none) (fun _ => rfl)
 refine ⟨_, _, c4 _ ?_, hrun, hended, _, _, rfl, ?_, ⟨_, rfl⟩, hW, hsame.mono (by decide) (by decide)⟩
 ·show S_ p e below T4 m 9 #[vr x_] [] _
  exact X4.returnOut hx Bd.returns (hb hby d11_9) hr
 ·show Q_lminit Z x_ h0 n0 _ T4.heap _
  rw [e4]
  exact ⟨rfl, N6, kp8, (E0_.wr W4), f9, f10, f5, f11, f12, f13, f14, f15⟩
theorem d12_0 : decode prog_15_method_3_code 0 = .ok (.aload_n 0, 1) := by decide +kernel
theorem d12_1 : decode prog_15_method_3_code 1 = .ok (.aload_n 1, 1) := by decide +kernel
theorem d12_2 : decode prog_15_method_3_code 2 = .ok (.putfield 17, 3) := by decide +kernel
theorem d12_5 : decode prog_15_method_3_code 5 = .ok (.aload_n 0, 1) := by decide +kernel
theorem d12_6 : decode prog_15_method_3_code 6 = .ok (.aconst_null, 1) := by decide +kernel
theorem d12_7 : decode prog_15_method_3_code 7 = .ok (.putfield 21, 3) := by decide +kernel
theorem d12_10 : decode prog_15_method_3_code 10 = .ok (.aload_n 0, 1) := by decide +kernel
theorem d12_11 : decode prog_15_method_3_code 11 = .ok (.iconst (-1), 1) := by decide +kernel
theorem d12_12 : decode prog_15_method_3_code 12 = .ok (.putfield 7, 3) := by decide +kernel
theorem d12_15 : decode prog_15_method_3_code 15 = .ok (.return_, 1) := by decide +kernel
theorem ef_set8N (m : MethodId) (x_ : Addr) : entryFrame m #[(rr x_), .null] 2 = mkF m 0 #[vr x_, .val .null] [] := by first | (simp [entryFrame, mkF, argsToLocals, Value.category]; done) | rfl
def Q_set8N (Z : State) (x_ : Addr) (o1_ : Value) (o2_ : Value) (i1_ : Int32) (j1_ : Int64) (i2_ : Int32) (o3_ : Value) (i3_ : Int32) (i4_ : Int32) (h0 : Heap) (n0 : Nat) (v : Option Value) (h : Heap) (L : List Loc) : Prop := v = none ∧ Fr n0 L ∧ Keep h0 h [x_] ∧ Exa Z h x_ nm1 ∧ Fld Z h x_ nm1 "made" nm10 .null ∧ Fld Z h x_ nm1 "read" nm3 .null ∧ Fld Z h x_ nm1 "copiedLength" "I" (ii (-1)) ∧ Fld Z h x_ nm1 "offset" "J" (.long j1_) ∧ Fld Z h x_ nm1 "terminatorLength" "I" (.int i2_) ∧ Fld Z h x_ nm1 "copied" "[C" o3_ ∧ Fld Z h x_ nm1 "terminatorStart" "C" (.int i3_) ∧ Fld Z h x_ nm1 "terminatorRead" "Z" (.int i4_)
set_option maxRecDepth 65536 in
set_option maxHeartbeats 40000000 in
theorem rm_set8N (l : Launch) (Z : State) (a0 : Array Value) (hw : HW Z a0) (ws : List Jvm.Cond) (x_ : Addr) (o1_ : Value) (o2_ : Value) (i1_ : Int32) (j1_ : Int64) (i2_ : Int32) (o3_ : Value) (i3_ : Int32) (i4_ : Int32) (h0 : Heap) (n0 : Nat) (O0 : Old Z n0 h0) (E0_ : Exa Z h0 x_ nm1) (G1_ : n0 ≤ x_) (F2_ : Fld Z h0 x_ nm1 "made" nm10 o1_) (F3_ : Fld Z h0 x_ nm1 "read" nm3 o2_) (F4_ : Fld Z h0 x_ nm1 "copiedLength" "I" (.int i1_)) (F5_ : Fld Z h0 x_ nm1 "offset" "J" (.long j1_)) (F6_ : Fld Z h0 x_ nm1 "terminatorLength" "I" (.int i2_)) (F7_ : Fld Z h0 x_ nm1 "copied" "[C" o3_) (F8_ : Fld Z h0 x_ nm1 "terminatorStart" "C" (.int i3_)) (F9_ : Fld Z h0 x_ nm1 "terminatorRead" "Z" (.int i4_)) :
  MFP l Z (⟨nm1, "set", "(Lgleaner/Match;)V"⟩ : MethodName) prog_15_method_3_code 2 none ({ frames := 0, cells := 0, slots := 0, locals := 0 } : Room) ws #[(rr x_), .null] h0 (Q_set8N Z x_ o1_ o2_ i1_ j1_ i2_ o3_ i3_ i4_ h0 n0) := by
 refine MetFree.of_bodySF (plainFor_of_name pn_gleaner_LastMatch) hisR ?_
 intro p e s m args below meth c s₁ Bd hml0 hP hK
 obtain ⟨rfl, hZ, hh⟩ := hP
 have hx := Bd.exec
 have hby := Bd.bytes
 have hml : c.maxLocals = 2 := hml0
 have hown : s.vm.findClass nm1 = some m.cls := findClass_of_methodNamed Bd.named
 have hnm := (name_of_methodNamed Bd.named Bd.method).1
 have X0 : Stand p l e ({ frames := 0, cells := 0, slots := 0, locals := 0 } : Room) s m #[(rr x_), .null] below meth c s₁ [] 0 0 := Stand.of_body Bd
 have e0 : s₁.heap = h0 := by rw [← hh, Bd.state]; rfl
 have N0 := Fr.nil n0
 have kp0 : Keep h0 h0 [x_] := Keep.refl _ _
 have c0 : ∀ t, S_ p e below s₁ m 0 #[vr x_, .val .null] [] t → Steps p.tables e below (s₁.setTop (entryFrame m #[(rr x_), .null] 2)) t := fun t k => castTop (ef_set8N m x_) k
 generalize s₁.setTop (entryFrame m #[(rr x_), .null] 2) = st0 at c0 ⊢
 replace c0 : Kt p e below s₁ st0 (mkF m 0 #[vr x_, .val .null] []) := c0
 have c1 : Kt p e below s₁ st0 (mkF m 2 #[vr x_, .val .null] [.null, (rr x_)]) := fun t k => by
  refine c0 t ?_
  show S_ p e below s₁ m 0 #[vr x_, .val .null] [] t
  refine XS.aloadN X0.here hx rfl (hb hby d12_0) rfl rfl ?_
  refine XS.aloadN X0.here hx rfl (hb hby d12_1) rfl rfl ?_
  exact k
 obtain ⟨T2, h2, X2, e2, W2, f3, o5, N4, c2⟩ := kput X0 hx hZ (.object nm2) hown (host := "") (Or.inl (w79 hw)) Via.refl e0 F2_ E0_ (Or.inl (w80 hw)) (w24 hw) c1 rfl rfl (hb hby d12_2) (by decide) rfl rfl O0 N0 G1_
 have kp6 := kp0.wr W2 (Or.inl (List.mem_of_getElem? (i := 0) rfl))
 have f7 := F3_.other W2 (Or.inr (slot_ne (Or.inl (w82 hw)) (Or.inl (w80 hw)) (by decide) (t := (.object nm0)) (t' := (.object nm2)) (by decide) (by decide)))
 have c8 : Kt p e below T2 st0 (mkF m 7 #[vr x_, .val .null] [.null, (rr x_)]) := fun t k => by
  refine c2 t ?_
  show S_ p e below T2 m 5 #[vr x_, .val .null] [] t
  refine XS.aloadN X2.here hx rfl (hb hby d12_5) rfl rfl ?_
  refine XS.aconstNull X2.here hx rfl (hb hby d12_6) ?_
  exact k
 obtain ⟨T9, h9, X9, e9, W9, f10, o12, N11, c9⟩ := kput X2 hx hZ (.object nm0) hown (host := "") (Or.inl (w81 hw)) Via.refl e2 f7 (E0_.wr W2) (Or.inl (w82 hw)) (w24 hw) c8 rfl rfl (hb hby d12_7) (by decide) rfl rfl o5 N4 G1_
 have kp13 := kp6.wr W9 (Or.inl (List.mem_of_getElem? (i := 0) rfl))
 have f14 := (F4_.other W2 (Or.inr (slot_ne (Or.inl (w31 hw)) (Or.inl (w80 hw)) (by decide) (t := .int) (t' := (.object nm2)) (by decide) (by decide)))).other W9 (Or.inr (slot_ne (Or.inl (w31 hw)) (Or.inl (w82 hw)) (by decide) (t := .int) (t' := (.object nm0)) (by decide) (by decide)))
 have c15 : Kt p e below T9 st0 (mkF m 12 #[vr x_, .val .null] [(ii (-1)), (rr x_)]) := fun t k => by
  refine c9 t ?_
  show S_ p e below T9 m 10 #[vr x_, .val .null] [] t
  refine XS.aloadN X9.here hx rfl (hb hby d12_10) rfl rfl ?_
  refine XS.iconst X9.here hx rfl (hb hby d12_11) ?_
  exact k
 obtain ⟨T16, h16, X16, e16, W16, f17, o19, N18, c16⟩ := kput X9 hx hZ .int hown (host := "") (Or.inl (w30 hw)) Via.refl e9 f14 ((E0_.wr W2).wr W9) (Or.inl (w31 hw)) (w24 hw) c15 rfl rfl (hb hby d12_12) (by decide) rfl rfl o12 N11 G1_
 have kp20 := kp13.wr W16 (Or.inl (List.mem_of_getElem? (i := 0) rfl))
 have f21 := (f3.other W9 (Or.inr (slot_ne (Or.inl (w80 hw)) (Or.inl (w82 hw)) (by decide) (t := (.object nm2)) (t' := (.object nm0)) (by decide) (by decide)))).other W16 (Or.inr (slot_ne (Or.inl (w80 hw)) (Or.inl (w31 hw)) (by decide) (t := (.object nm2)) (t' := .int) (by decide) (by decide)))
 have f22 := f10.other W16 (Or.inr (slot_ne (Or.inl (w82 hw)) (Or.inl (w31 hw)) (by decide) (t := (.object nm0)) (t' := .int) (by decide) (by decide)))
 have f23 := ((F5_.other W2 (Or.inr (slot_ne (Or.inl (w90 hw)) (Or.inl (w80 hw)) (by decide) (t := .long) (t' := (.object nm2)) (by decide) (by decide)))).other W9 (Or.inr (slot_ne (Or.inl (w90 hw)) (Or.inl (w82 hw)) (by decide) (t := .long) (t' := (.object nm0)) (by decide) (by decide)))).other W16 (Or.inr (slot_ne (Or.inl (w90 hw)) (Or.inl (w31 hw)) (by decide) (t := .long) (t' := .int) (by decide) (by decide)))
 have f24 := ((F6_.other W2 (Or.inr (slot_ne (Or.inl (w92 hw)) (Or.inl (w80 hw)) (by decide) (t := .int) (t' := (.object nm2)) (by decide) (by decide)))).other W9 (Or.inr (slot_ne (Or.inl (w92 hw)) (Or.inl (w82 hw)) (by decide) (t := .int) (t' := (.object nm0)) (by decide) (by decide)))).other W16 (Or.inr (slot_ne (Or.inl (w92 hw)) (Or.inl (w31 hw)) (by decide) (t := .int) (t' := .int) (by decide) (by decide)))
 have f25 := ((F7_.other W2 (Or.inr (slot_ne (Or.inl (w197 hw)) (Or.inl (w80 hw)) (by decide) (t := (.array .char)) (t' := (.object nm2)) (by decide) (by decide)))).other W9 (Or.inr (slot_ne (Or.inl (w197 hw)) (Or.inl (w82 hw)) (by decide) (t := (.array .char)) (t' := (.object nm0)) (by decide) (by decide)))).other W16 (Or.inr (slot_ne (Or.inl (w197 hw)) (Or.inl (w31 hw)) (by decide) (t := (.array .char)) (t' := .int) (by decide) (by decide)))
 have f26 := ((F8_.other W2 (Or.inr (slot_ne (Or.inl (w178 hw)) (Or.inl (w80 hw)) (by decide) (t := .char) (t' := (.object nm2)) (by decide) (by decide)))).other W9 (Or.inr (slot_ne (Or.inl (w178 hw)) (Or.inl (w82 hw)) (by decide) (t := .char) (t' := (.object nm0)) (by decide) (by decide)))).other W16 (Or.inr (slot_ne (Or.inl (w178 hw)) (Or.inl (w31 hw)) (by decide) (t := .char) (t' := .int) (by decide) (by decide)))
 have f27 := ((F9_.other W2 (Or.inr (slot_ne (Or.inl (w180 hw)) (Or.inl (w80 hw)) (by decide) (t := .boolean) (t' := (.object nm2)) (by decide) (by decide)))).other W9 (Or.inr (slot_ne (Or.inl (w180 hw)) (Or.inl (w82 hw)) (by decide) (t := .boolean) (t' := (.object nm0)) (by decide) (by decide)))).other W16 (Or.inr (slot_ne (Or.inl (w180 hw)) (Or.inl (w31 hw)) (by decide) (t := .boolean) (t' := .int) (by decide) (by decide)))
 obtain ⟨fs, hr, hrun, hended, hW, hsame⟩ := X16.leave (v := none) (fun _ => rfl)
 refine ⟨_, _, c16 _ ?_, hrun, hended, _, _, rfl, ?_, ⟨_, rfl⟩, hW, hsame.mono (by decide) (by decide)⟩
 ·show S_ p e below T16 m 15 #[vr x_, .val .null] [] _
  exact X16.returnOut hx Bd.returns (hb hby d12_15) hr
 ·show Q_set8N Z x_ o1_ o2_ i1_ j1_ i2_ o3_ i3_ i4_ h0 n0 _ T16.heap _
  rw [e16]
  exact ⟨rfl, N18, kp20, (((E0_.wr W2).wr W9).wr W16), f21, f22, f17, f23, f24, f25, f26, f27⟩
theorem ef_set5N (m : MethodId) (x_ : Addr) : entryFrame m #[(rr x_), .null] 2 = mkF m 0 #[vr x_, .val .null] [] := by first | (simp [entryFrame, mkF, argsToLocals, Value.category]; done) | rfl
def Q_set5N (Z : State) (x_ : Addr) (o1_ : Value) (o2_ : Value) (i1_ : Int32) (j1_ : Int64) (i2_ : Int32) (h0 : Heap) (n0 : Nat) (v : Option Value) (h : Heap) (L : List Loc) : Prop := v = none ∧ Fr n0 L ∧ Keep h0 h [x_] ∧ Exa Z h x_ nm1 ∧ Fld Z h x_ nm1 "made" nm10 .null ∧ Fld Z h x_ nm1 "read" nm3 .null ∧ Fld Z h x_ nm1 "copiedLength" "I" (ii (-1)) ∧ Fld Z h x_ nm1 "offset" "J" (.long j1_) ∧ Fld Z h x_ nm1 "terminatorLength" "I" (.int i2_)
set_option maxRecDepth 65536 in
set_option maxHeartbeats 40000000 in
theorem rm_set5N (l : Launch) (Z : State) (a0 : Array Value) (hw : HW Z a0) (ws : List Jvm.Cond) (x_ : Addr) (o1_ : Value) (o2_ : Value) (i1_ : Int32) (j1_ : Int64) (i2_ : Int32) (h0 : Heap) (n0 : Nat) (O0 : Old Z n0 h0) (E0_ : Exa Z h0 x_ nm1) (G1_ : n0 ≤ x_) (F2_ : Fld Z h0 x_ nm1 "made" nm10 o1_) (F3_ : Fld Z h0 x_ nm1 "read" nm3 o2_) (F4_ : Fld Z h0 x_ nm1 "copiedLength" "I" (.int i1_)) (F5_ : Fld Z h0 x_ nm1 "offset" "J" (.long j1_)) (F6_ : Fld Z h0 x_ nm1 "terminatorLength" "I" (.int i2_)) :
  MFP l Z (⟨nm1, "set", "(Lgleaner/Match;)V"⟩ : MethodName) prog_15_method_3_code 2 none ({ frames := 0, cells := 0, slots := 0, locals := 0 } : Room) ws #[(rr x_), .null] h0 (Q_set5N Z x_ o1_ o2_ i1_ j1_ i2_ h0 n0) := by
 refine MetFree.of_bodySF (plainFor_of_name pn_gleaner_LastMatch) hisR ?_
 intro p e s m args below meth c s₁ Bd hml0 hP hK
 obtain ⟨rfl, hZ, hh⟩ := hP
 have hx := Bd.exec
 have hby := Bd.bytes
 have hml : c.maxLocals = 2 := hml0
 have hown : s.vm.findClass nm1 = some m.cls := findClass_of_methodNamed Bd.named
 have hnm := (name_of_methodNamed Bd.named Bd.method).1
 have X0 : Stand p l e ({ frames := 0, cells := 0, slots := 0, locals := 0 } : Room) s m #[(rr x_), .null] below meth c s₁ [] 0 0 := Stand.of_body Bd
 have e0 : s₁.heap = h0 := by rw [← hh, Bd.state]; rfl
 have N0 := Fr.nil n0
 have kp0 : Keep h0 h0 [x_] := Keep.refl _ _
 have c0 : ∀ t, S_ p e below s₁ m 0 #[vr x_, .val .null] [] t → Steps p.tables e below (s₁.setTop (entryFrame m #[(rr x_), .null] 2)) t := fun t k => castTop (ef_set5N m x_) k
 generalize s₁.setTop (entryFrame m #[(rr x_), .null] 2) = st0 at c0 ⊢
 replace c0 : Kt p e below s₁ st0 (mkF m 0 #[vr x_, .val .null] []) := c0
 have c1 : Kt p e below s₁ st0 (mkF m 2 #[vr x_, .val .null] [.null, (rr x_)]) := fun t k => by
  refine c0 t ?_
  show S_ p e below s₁ m 0 #[vr x_, .val .null] [] t
  refine XS.aloadN X0.here hx rfl (hb hby d12_0) rfl rfl ?_
  refine XS.aloadN X0.here hx rfl (hb hby d12_1) rfl rfl ?_
  exact k
 obtain ⟨T2, h2, X2, e2, W2, f3, o5, N4, c2⟩ := kput X0 hx hZ (.object nm2) hown (host := "") (Or.inl (w79 hw)) Via.refl e0 F2_ E0_ (Or.inl (w80 hw)) (w24 hw) c1 rfl rfl (hb hby d12_2) (by decide) rfl rfl O0 N0 G1_
 have kp6 := kp0.wr W2 (Or.inl (List.mem_of_getElem? (i := 0) rfl))
 have f7 := F3_.other W2 (Or.inr (slot_ne (Or.inl (w82 hw)) (Or.inl (w80 hw)) (by decide) (t := (.object nm0)) (t' := (.object nm2)) (by decide) (by decide)))
 have c8 : Kt p e below T2 st0 (mkF m 7 #[vr x_, .val .null] [.null, (rr x_)]) := fun t k => by
  refine c2 t ?_
  show S_ p e below T2 m 5 #[vr x_, .val .null] [] t
  refine XS.aloadN X2.here hx rfl (hb hby d12_5) rfl rfl ?_
  refine XS.aconstNull X2.here hx rfl (hb hby d12_6) ?_
  exact k
 obtain ⟨T9, h9, X9, e9, W9, f10, o12, N11, c9⟩ := kput X2 hx hZ (.object nm0) hown (host := "") (Or.inl (w81 hw)) Via.refl e2 f7 (E0_.wr W2) (Or.inl (w82 hw)) (w24 hw) c8 rfl rfl (hb hby d12_7) (by decide) rfl rfl o5 N4 G1_
 have kp13 := kp6.wr W9 (Or.inl (List.mem_of_getElem? (i := 0) rfl))
 have f14 := (F4_.other W2 (Or.inr (slot_ne (Or.inl (w31 hw)) (Or.inl (w80 hw)) (by decide) (t := .int) (t' := (.object nm2)) (by decide) (by decide)))).other W9 (Or.inr (slot_ne (Or.inl (w31 hw)) (Or.inl (w82 hw)) (by decide) (t := .int) (t' := (.object nm0)) (by decide) (by decide)))
 have c15 : Kt p e below T9 st0 (mkF m 12 #[vr x_, .val .null] [(ii (-1)), (rr x_)]) := fun t k => by
  refine c9 t ?_
  show S_ p e below T9 m 10 #[vr x_, .val .null] [] t
  refine XS.aloadN X9.here hx rfl (hb hby d12_10) rfl rfl ?_
  refine XS.iconst X9.here hx rfl (hb hby d12_11) ?_
  exact k
 obtain ⟨T16, h16, X16, e16, W16, f17, o19, N18, c16⟩ := kput X9 hx hZ .int hown (host := "") (Or.inl (w30 hw)) Via.refl e9 f14 ((E0_.wr W2).wr W9) (Or.inl (w31 hw)) (w24 hw) c15 rfl rfl (hb hby d12_12) (by decide) rfl rfl o12 N11 G1_
 have kp20 := kp13.wr W16 (Or.inl (List.mem_of_getElem? (i := 0) rfl))
 have f21 := (f3.other W9 (Or.inr (slot_ne (Or.inl (w80 hw)) (Or.inl (w82 hw)) (by decide) (t := (.object nm2)) (t' := (.object nm0)) (by decide) (by decide)))).other W16 (Or.inr (slot_ne (Or.inl (w80 hw)) (Or.inl (w31 hw)) (by decide) (t := (.object nm2)) (t' := .int) (by decide) (by decide)))
 have f22 := f10.other W16 (Or.inr (slot_ne (Or.inl (w82 hw)) (Or.inl (w31 hw)) (by decide) (t := (.object nm0)) (t' := .int) (by decide) (by decide)))
 have f23 := ((F5_.other W2 (Or.inr (slot_ne (Or.inl (w90 hw)) (Or.inl (w80 hw)) (by decide) (t := .long) (t' := (.object nm2)) (by decide) (by decide)))).other W9 (Or.inr (slot_ne (Or.inl (w90 hw)) (Or.inl (w82 hw)) (by decide) (t := .long) (t' := (.object nm0)) (by decide) (by decide)))).other W16 (Or.inr (slot_ne (Or.inl (w90 hw)) (Or.inl (w31 hw)) (by decide) (t := .long) (t' := .int) (by decide) (by decide)))
 have f24 := ((F6_.other W2 (Or.inr (slot_ne (Or.inl (w92 hw)) (Or.inl (w80 hw)) (by decide) (t := .int) (t' := (.object nm2)) (by decide) (by decide)))).other W9 (Or.inr (slot_ne (Or.inl (w92 hw)) (Or.inl (w82 hw)) (by decide) (t := .int) (t' := (.object nm0)) (by decide) (by decide)))).other W16 (Or.inr (slot_ne (Or.inl (w92 hw)) (Or.inl (w31 hw)) (by decide) (t := .int) (t' := .int) (by decide) (by decide)))
 obtain ⟨fs, hr, hrun, hended, hW, hsame⟩ := X16.leave (v := none) (fun _ => rfl)
 refine ⟨_, _, c16 _ ?_, hrun, hended, _, _, rfl, ?_, ⟨_, rfl⟩, hW, hsame.mono (by decide) (by decide)⟩
 ·show S_ p e below T16 m 15 #[vr x_, .val .null] [] _
  exact X16.returnOut hx Bd.returns (hb hby d12_15) hr
 ·show Q_set5N Z x_ o1_ o2_ i1_ j1_ i2_ h0 n0 _ T16.heap _
  rw [e16]
  exact ⟨rfl, N18, kp20, (((E0_.wr W2).wr W9).wr W16), f21, f22, f17, f23, f24⟩
theorem ef_set8R (m : MethodId) (x_ : Addr) (a_ : Addr) : entryFrame m #[(rr x_), (rr a_)] 2 = mkF m 0 #[vr x_, vr a_] [] := by first | (simp [entryFrame, mkF, argsToLocals, Value.category]; done) | rfl
def Q_set8R (Z : State) (x_ : Addr) (a_ : Addr) (o1_ : Value) (o2_ : Value) (i1_ : Int32) (j1_ : Int64) (i2_ : Int32) (o3_ : Value) (i3_ : Int32) (i4_ : Int32) (h0 : Heap) (n0 : Nat) (v : Option Value) (h : Heap) (L : List Loc) : Prop := v = none ∧ Fr n0 L ∧ Keep h0 h [x_] ∧ Exa Z h x_ nm1 ∧ Fld Z h x_ nm1 "made" nm10 (rr a_) ∧ Fld Z h x_ nm1 "read" nm3 .null ∧ Fld Z h x_ nm1 "copiedLength" "I" (ii (-1)) ∧ Fld Z h x_ nm1 "offset" "J" (.long j1_) ∧ Fld Z h x_ nm1 "terminatorLength" "I" (.int i2_) ∧ Fld Z h x_ nm1 "copied" "[C" o3_ ∧ Fld Z h x_ nm1 "terminatorStart" "C" (.int i3_) ∧ Fld Z h x_ nm1 "terminatorRead" "Z" (.int i4_)
set_option maxRecDepth 65536 in
set_option maxHeartbeats 40000000 in
theorem rm_set8R (l : Launch) (Z : State) (a0 : Array Value) (hw : HW Z a0) (ws : List Jvm.Cond) (x_ : Addr) (a_ : Addr) (o1_ : Value) (o2_ : Value) (i1_ : Int32) (j1_ : Int64) (i2_ : Int32) (o3_ : Value) (i3_ : Int32) (i4_ : Int32) (h0 : Heap) (n0 : Nat) (O0 : Old Z n0 h0) (E0_ : Exa Z h0 x_ nm1) (G1_ : n0 ≤ x_) (F2_ : Fld Z h0 x_ nm1 "made" nm10 o1_) (F3_ : Fld Z h0 x_ nm1 "read" nm3 o2_) (F4_ : Fld Z h0 x_ nm1 "copiedLength" "I" (.int i1_)) (F5_ : Fld Z h0 x_ nm1 "offset" "J" (.long j1_)) (F6_ : Fld Z h0 x_ nm1 "terminatorLength" "I" (.int i2_)) (F7_ : Fld Z h0 x_ nm1 "copied" "[C" o3_) (F8_ : Fld Z h0 x_ nm1 "terminatorStart" "C" (.int i3_)) (F9_ : Fld Z h0 x_ nm1 "terminatorRead" "Z" (.int i4_)) :
  MFP l Z (⟨nm1, "set", "(Lgleaner/Match;)V"⟩ : MethodName) prog_15_method_3_code 2 none ({ frames := 0, cells := 0, slots := 0, locals := 0 } : Room) ws #[(rr x_), (rr a_)] h0 (Q_set8R Z x_ a_ o1_ o2_ i1_ j1_ i2_ o3_ i3_ i4_ h0 n0) := by
 refine MetFree.of_bodySF (plainFor_of_name pn_gleaner_LastMatch) hisR ?_
 intro p e s m args below meth c s₁ Bd hml0 hP hK
 obtain ⟨rfl, hZ, hh⟩ := hP
 have hx := Bd.exec
 have hby := Bd.bytes
 have hml : c.maxLocals = 2 := hml0
 have hown : s.vm.findClass nm1 = some m.cls := findClass_of_methodNamed Bd.named
 have hnm := (name_of_methodNamed Bd.named Bd.method).1
 have X0 : Stand p l e ({ frames := 0, cells := 0, slots := 0, locals := 0 } : Room) s m #[(rr x_), (rr a_)] below meth c s₁ [] 0 0 := Stand.of_body Bd
 have e0 : s₁.heap = h0 := by rw [← hh, Bd.state]; rfl
 have N0 := Fr.nil n0
 have kp0 : Keep h0 h0 [x_] := Keep.refl _ _
 have c0 : ∀ t, S_ p e below s₁ m 0 #[vr x_, vr a_] [] t → Steps p.tables e below (s₁.setTop (entryFrame m #[(rr x_), (rr a_)] 2)) t := fun t k => castTop (ef_set8R m x_ a_) k
 generalize s₁.setTop (entryFrame m #[(rr x_), (rr a_)] 2) = st0 at c0 ⊢
 replace c0 : Kt p e below s₁ st0 (mkF m 0 #[vr x_, vr a_] []) := c0
 have c1 : Kt p e below s₁ st0 (mkF m 2 #[vr x_, vr a_] [(rr a_), (rr x_)]) := fun t k => by
  refine c0 t ?_
  show S_ p e below s₁ m 0 #[vr x_, vr a_] [] t
  refine XS.aloadN X0.here hx rfl (hb hby d12_0) rfl rfl ?_
  refine XS.aloadN X0.here hx rfl (hb hby d12_1) rfl rfl ?_
  exact k
 obtain ⟨T2, h2, X2, e2, W2, f3, o5, N4, c2⟩ := kput X0 hx hZ (.object nm2) hown (host := "") (Or.inl (w79 hw)) Via.refl e0 F2_ E0_ (Or.inl (w80 hw)) (w24 hw) c1 rfl rfl (hb hby d12_2) (by decide) rfl rfl O0 N0 G1_
 have kp6 := kp0.wr W2 (Or.inl (List.mem_of_getElem? (i := 0) rfl))
 have f7 := F3_.other W2 (Or.inr (slot_ne (Or.inl (w82 hw)) (Or.inl (w80 hw)) (by decide) (t := (.object nm0)) (t' := (.object nm2)) (by decide) (by decide)))
 have c8 : Kt p e below T2 st0 (mkF m 7 #[vr x_, vr a_] [.null, (rr x_)]) := fun t k => by
  refine c2 t ?_
  show S_ p e below T2 m 5 #[vr x_, vr a_] [] t
  refine XS.aloadN X2.here hx rfl (hb hby d12_5) rfl rfl ?_
  refine XS.aconstNull X2.here hx rfl (hb hby d12_6) ?_
  exact k
 obtain ⟨T9, h9, X9, e9, W9, f10, o12, N11, c9⟩ := kput X2 hx hZ (.object nm0) hown (host := "") (Or.inl (w81 hw)) Via.refl e2 f7 (E0_.wr W2) (Or.inl (w82 hw)) (w24 hw) c8 rfl rfl (hb hby d12_7) (by decide) rfl rfl o5 N4 G1_
 have kp13 := kp6.wr W9 (Or.inl (List.mem_of_getElem? (i := 0) rfl))
 have f14 := (F4_.other W2 (Or.inr (slot_ne (Or.inl (w31 hw)) (Or.inl (w80 hw)) (by decide) (t := .int) (t' := (.object nm2)) (by decide) (by decide)))).other W9 (Or.inr (slot_ne (Or.inl (w31 hw)) (Or.inl (w82 hw)) (by decide) (t := .int) (t' := (.object nm0)) (by decide) (by decide)))
 have c15 : Kt p e below T9 st0 (mkF m 12 #[vr x_, vr a_] [(ii (-1)), (rr x_)]) := fun t k => by
  refine c9 t ?_
  show S_ p e below T9 m 10 #[vr x_, vr a_] [] t
  refine XS.aloadN X9.here hx rfl (hb hby d12_10) rfl rfl ?_
  refine XS.iconst X9.here hx rfl (hb hby d12_11) ?_
  exact k
 obtain ⟨T16, h16, X16, e16, W16, f17, o19, N18, c16⟩ := kput X9 hx hZ .int hown (host := "") (Or.inl (w30 hw)) Via.refl e9 f14 ((E0_.wr W2).wr W9) (Or.inl (w31 hw)) (w24 hw) c15 rfl rfl (hb hby d12_12) (by decide) rfl rfl o12 N11 G1_
 have kp20 := kp13.wr W16 (Or.inl (List.mem_of_getElem? (i := 0) rfl))
 have f21 := (f3.other W9 (Or.inr (slot_ne (Or.inl (w80 hw)) (Or.inl (w82 hw)) (by decide) (t := (.object nm2)) (t' := (.object nm0)) (by decide) (by decide)))).other W16 (Or.inr (slot_ne (Or.inl (w80 hw)) (Or.inl (w31 hw)) (by decide) (t := (.object nm2)) (t' := .int) (by decide) (by decide)))
 have f22 := f10.other W16 (Or.inr (slot_ne (Or.inl (w82 hw)) (Or.inl (w31 hw)) (by decide) (t := (.object nm0)) (t' := .int) (by decide) (by decide)))
 have f23 := ((F5_.other W2 (Or.inr (slot_ne (Or.inl (w90 hw)) (Or.inl (w80 hw)) (by decide) (t := .long) (t' := (.object nm2)) (by decide) (by decide)))).other W9 (Or.inr (slot_ne (Or.inl (w90 hw)) (Or.inl (w82 hw)) (by decide) (t := .long) (t' := (.object nm0)) (by decide) (by decide)))).other W16 (Or.inr (slot_ne (Or.inl (w90 hw)) (Or.inl (w31 hw)) (by decide) (t := .long) (t' := .int) (by decide) (by decide)))
 have f24 := ((F6_.other W2 (Or.inr (slot_ne (Or.inl (w92 hw)) (Or.inl (w80 hw)) (by decide) (t := .int) (t' := (.object nm2)) (by decide) (by decide)))).other W9 (Or.inr (slot_ne (Or.inl (w92 hw)) (Or.inl (w82 hw)) (by decide) (t := .int) (t' := (.object nm0)) (by decide) (by decide)))).other W16 (Or.inr (slot_ne (Or.inl (w92 hw)) (Or.inl (w31 hw)) (by decide) (t := .int) (t' := .int) (by decide) (by decide)))
 have f25 := ((F7_.other W2 (Or.inr (slot_ne (Or.inl (w197 hw)) (Or.inl (w80 hw)) (by decide) (t := (.array .char)) (t' := (.object nm2)) (by decide) (by decide)))).other W9 (Or.inr (slot_ne (Or.inl (w197 hw)) (Or.inl (w82 hw)) (by decide) (t := (.array .char)) (t' := (.object nm0)) (by decide) (by decide)))).other W16 (Or.inr (slot_ne (Or.inl (w197 hw)) (Or.inl (w31 hw)) (by decide) (t := (.array .char)) (t' := .int) (by decide) (by decide)))
 have f26 := ((F8_.other W2 (Or.inr (slot_ne (Or.inl (w178 hw)) (Or.inl (w80 hw)) (by decide) (t := .char) (t' := (.object nm2)) (by decide) (by decide)))).other W9 (Or.inr (slot_ne (Or.inl (w178 hw)) (Or.inl (w82 hw)) (by decide) (t := .char) (t' := (.object nm0)) (by decide) (by decide)))).other W16 (Or.inr (slot_ne (Or.inl (w178 hw)) (Or.inl (w31 hw)) (by decide) (t := .char) (t' := .int) (by decide) (by decide)))
 have f27 := ((F9_.other W2 (Or.inr (slot_ne (Or.inl (w180 hw)) (Or.inl (w80 hw)) (by decide) (t := .boolean) (t' := (.object nm2)) (by decide) (by decide)))).other W9 (Or.inr (slot_ne (Or.inl (w180 hw)) (Or.inl (w82 hw)) (by decide) (t := .boolean) (t' := (.object nm0)) (by decide) (by decide)))).other W16 (Or.inr (slot_ne (Or.inl (w180 hw)) (Or.inl (w31 hw)) (by decide) (t := .boolean) (t' := .int) (by decide) (by decide)))
 obtain ⟨fs, hr, hrun, hended, hW, hsame⟩ := X16.leave (v := none) (fun _ => rfl)
 refine ⟨_, _, c16 _ ?_, hrun, hended, _, _, rfl, ?_, ⟨_, rfl⟩, hW, hsame.mono (by decide) (by decide)⟩
 ·show S_ p e below T16 m 15 #[vr x_, vr a_] [] _
  exact X16.returnOut hx Bd.returns (hb hby d12_15) hr
 ·show Q_set8R Z x_ a_ o1_ o2_ i1_ j1_ i2_ o3_ i3_ i4_ h0 n0 _ T16.heap _
  rw [e16]
  exact ⟨rfl, N18, kp20, (((E0_.wr W2).wr W9).wr W16), f21, f22, f17, f23, f24, f25, f26, f27⟩
theorem ef_set5R (m : MethodId) (x_ : Addr) (a_ : Addr) : entryFrame m #[(rr x_), (rr a_)] 2 = mkF m 0 #[vr x_, vr a_] [] := by first | (simp [entryFrame, mkF, argsToLocals, Value.category]; done) | rfl
def Q_set5R (Z : State) (x_ : Addr) (a_ : Addr) (o1_ : Value) (o2_ : Value) (i1_ : Int32) (j1_ : Int64) (i2_ : Int32) (h0 : Heap) (n0 : Nat) (v : Option Value) (h : Heap) (L : List Loc) : Prop := v = none ∧ Fr n0 L ∧ Keep h0 h [x_] ∧ Exa Z h x_ nm1 ∧ Fld Z h x_ nm1 "made" nm10 (rr a_) ∧ Fld Z h x_ nm1 "read" nm3 .null ∧ Fld Z h x_ nm1 "copiedLength" "I" (ii (-1)) ∧ Fld Z h x_ nm1 "offset" "J" (.long j1_) ∧ Fld Z h x_ nm1 "terminatorLength" "I" (.int i2_)
set_option maxRecDepth 65536 in
set_option maxHeartbeats 40000000 in
theorem rm_set5R (l : Launch) (Z : State) (a0 : Array Value) (hw : HW Z a0) (ws : List Jvm.Cond) (x_ : Addr) (a_ : Addr) (o1_ : Value) (o2_ : Value) (i1_ : Int32) (j1_ : Int64) (i2_ : Int32) (h0 : Heap) (n0 : Nat) (O0 : Old Z n0 h0) (E0_ : Exa Z h0 x_ nm1) (G1_ : n0 ≤ x_) (F2_ : Fld Z h0 x_ nm1 "made" nm10 o1_) (F3_ : Fld Z h0 x_ nm1 "read" nm3 o2_) (F4_ : Fld Z h0 x_ nm1 "copiedLength" "I" (.int i1_)) (F5_ : Fld Z h0 x_ nm1 "offset" "J" (.long j1_)) (F6_ : Fld Z h0 x_ nm1 "terminatorLength" "I" (.int i2_)) :
  MFP l Z (⟨nm1, "set", "(Lgleaner/Match;)V"⟩ : MethodName) prog_15_method_3_code 2 none ({ frames := 0, cells := 0, slots := 0, locals := 0 } : Room) ws #[(rr x_), (rr a_)] h0 (Q_set5R Z x_ a_ o1_ o2_ i1_ j1_ i2_ h0 n0) := by
 refine MetFree.of_bodySF (plainFor_of_name pn_gleaner_LastMatch) hisR ?_
 intro p e s m args below meth c s₁ Bd hml0 hP hK
 obtain ⟨rfl, hZ, hh⟩ := hP
 have hx := Bd.exec
 have hby := Bd.bytes
 have hml : c.maxLocals = 2 := hml0
 have hown : s.vm.findClass nm1 = some m.cls := findClass_of_methodNamed Bd.named
 have hnm := (name_of_methodNamed Bd.named Bd.method).1
 have X0 : Stand p l e ({ frames := 0, cells := 0, slots := 0, locals := 0 } : Room) s m #[(rr x_), (rr a_)] below meth c s₁ [] 0 0 := Stand.of_body Bd
 have e0 : s₁.heap = h0 := by rw [← hh, Bd.state]; rfl
 have N0 := Fr.nil n0
 have kp0 : Keep h0 h0 [x_] := Keep.refl _ _
 have c0 : ∀ t, S_ p e below s₁ m 0 #[vr x_, vr a_] [] t → Steps p.tables e below (s₁.setTop (entryFrame m #[(rr x_), (rr a_)] 2)) t := fun t k => castTop (ef_set5R m x_ a_) k
 generalize s₁.setTop (entryFrame m #[(rr x_), (rr a_)] 2) = st0 at c0 ⊢
 replace c0 : Kt p e below s₁ st0 (mkF m 0 #[vr x_, vr a_] []) := c0
 have c1 : Kt p e below s₁ st0 (mkF m 2 #[vr x_, vr a_] [(rr a_), (rr x_)]) := fun t k => by
  refine c0 t ?_
  show S_ p e below s₁ m 0 #[vr x_, vr a_] [] t
  refine XS.aloadN X0.here hx rfl (hb hby d12_0) rfl rfl ?_
  refine XS.aloadN X0.here hx rfl (hb hby d12_1) rfl rfl ?_
  exact k
 obtain ⟨T2, h2, X2, e2, W2, f3, o5, N4, c2⟩ := kput X0 hx hZ (.object nm2) hown (host := "") (Or.inl (w79 hw)) Via.refl e0 F2_ E0_ (Or.inl (w80 hw)) (w24 hw) c1 rfl rfl (hb hby d12_2) (by decide) rfl rfl O0 N0 G1_
 have kp6 := kp0.wr W2 (Or.inl (List.mem_of_getElem? (i := 0) rfl))
 have f7 := F3_.other W2 (Or.inr (slot_ne (Or.inl (w82 hw)) (Or.inl (w80 hw)) (by decide) (t := (.object nm0)) (t' := (.object nm2)) (by decide) (by decide)))
 have c8 : Kt p e below T2 st0 (mkF m 7 #[vr x_, vr a_] [.null, (rr x_)]) := fun t k => by
  refine c2 t ?_
  show S_ p e below T2 m 5 #[vr x_, vr a_] [] t
  refine XS.aloadN X2.here hx rfl (hb hby d12_5) rfl rfl ?_
  refine XS.aconstNull X2.here hx rfl (hb hby d12_6) ?_
  exact k
 obtain ⟨T9, h9, X9, e9, W9, f10, o12, N11, c9⟩ := kput X2 hx hZ (.object nm0) hown (host := "") (Or.inl (w81 hw)) Via.refl e2 f7 (E0_.wr W2) (Or.inl (w82 hw)) (w24 hw) c8 rfl rfl (hb hby d12_7) (by decide) rfl rfl o5 N4 G1_
 have kp13 := kp6.wr W9 (Or.inl (List.mem_of_getElem? (i := 0) rfl))
 have f14 := (F4_.other W2 (Or.inr (slot_ne (Or.inl (w31 hw)) (Or.inl (w80 hw)) (by decide) (t := .int) (t' := (.object nm2)) (by decide) (by decide)))).other W9 (Or.inr (slot_ne (Or.inl (w31 hw)) (Or.inl (w82 hw)) (by decide) (t := .int) (t' := (.object nm0)) (by decide) (by decide)))
 have c15 : Kt p e below T9 st0 (mkF m 12 #[vr x_, vr a_] [(ii (-1)), (rr x_)]) := fun t k => by
  refine c9 t ?_
  show S_ p e below T9 m 10 #[vr x_, vr a_] [] t
  refine XS.aloadN X9.here hx rfl (hb hby d12_10) rfl rfl ?_
  refine XS.iconst X9.here hx rfl (hb hby d12_11) ?_
  exact k
 obtain ⟨T16, h16, X16, e16, W16, f17, o19, N18, c16⟩ := kput X9 hx hZ .int hown (host := "") (Or.inl (w30 hw)) Via.refl e9 f14 ((E0_.wr W2).wr W9) (Or.inl (w31 hw)) (w24 hw) c15 rfl rfl (hb hby d12_12) (by decide) rfl rfl o12 N11 G1_
 have kp20 := kp13.wr W16 (Or.inl (List.mem_of_getElem? (i := 0) rfl))
 have f21 := (f3.other W9 (Or.inr (slot_ne (Or.inl (w80 hw)) (Or.inl (w82 hw)) (by decide) (t := (.object nm2)) (t' := (.object nm0)) (by decide) (by decide)))).other W16 (Or.inr (slot_ne (Or.inl (w80 hw)) (Or.inl (w31 hw)) (by decide) (t := (.object nm2)) (t' := .int) (by decide) (by decide)))
 have f22 := f10.other W16 (Or.inr (slot_ne (Or.inl (w82 hw)) (Or.inl (w31 hw)) (by decide) (t := (.object nm0)) (t' := .int) (by decide) (by decide)))
 have f23 := ((F5_.other W2 (Or.inr (slot_ne (Or.inl (w90 hw)) (Or.inl (w80 hw)) (by decide) (t := .long) (t' := (.object nm2)) (by decide) (by decide)))).other W9 (Or.inr (slot_ne (Or.inl (w90 hw)) (Or.inl (w82 hw)) (by decide) (t := .long) (t' := (.object nm0)) (by decide) (by decide)))).other W16 (Or.inr (slot_ne (Or.inl (w90 hw)) (Or.inl (w31 hw)) (by decide) (t := .long) (t' := .int) (by decide) (by decide)))
 have f24 := ((F6_.other W2 (Or.inr (slot_ne (Or.inl (w92 hw)) (Or.inl (w80 hw)) (by decide) (t := .int) (t' := (.object nm2)) (by decide) (by decide)))).other W9 (Or.inr (slot_ne (Or.inl (w92 hw)) (Or.inl (w82 hw)) (by decide) (t := .int) (t' := (.object nm0)) (by decide) (by decide)))).other W16 (Or.inr (slot_ne (Or.inl (w92 hw)) (Or.inl (w31 hw)) (by decide) (t := .int) (t' := .int) (by decide) (by decide)))
 obtain ⟨fs, hr, hrun, hended, hW, hsame⟩ := X16.leave (v := none) (fun _ => rfl)
 refine ⟨_, _, c16 _ ?_, hrun, hended, _, _, rfl, ?_, ⟨_, rfl⟩, hW, hsame.mono (by decide) (by decide)⟩
 ·show S_ p e below T16 m 15 #[vr x_, vr a_] [] _
  exact X16.returnOut hx Bd.returns (hb hby d12_15) hr
 ·show Q_set5R Z x_ a_ o1_ o2_ i1_ j1_ i2_ h0 n0 _ T16.heap _
  rw [e16]
  exact ⟨rfl, N18, kp20, (((E0_.wr W2).wr W9).wr W16), f21, f22, f17, f23, f24⟩
theorem d13_0 : decode prog_15_method_4_code 0 = .ok (.aload_n 0, 1) := by decide +kernel
theorem d13_1 : decode prog_15_method_4_code 1 = .ok (.aconst_null, 1) := by decide +kernel
theorem d13_2 : decode prog_15_method_4_code 2 = .ok (.invokevirtual 13, 3) := by decide +kernel
theorem pd_pLgleaner_Match_rV : parseMethodDescriptor "(Lgleaner/Match;)V" = some ⟨[(.object nm2)], none⟩ := by decide +kernel
theorem d13_5 : decode prog_15_method_4_code 5 = .ok (.aload_n 0, 1) := by decide +kernel
theorem d13_6 : decode prog_15_method_4_code 6 = .ok (.aload_n 1, 1) := by decide +kernel
theorem d13_7 : decode prog_15_method_4_code 7 = .ok (.putfield 21, 3) := by decide +kernel
theorem d13_10 : decode prog_15_method_4_code 10 = .ok (.aload_n 0, 1) := by decide +kernel
theorem d13_11 : decode prog_15_method_4_code 11 = .ok (.lload_n 2, 1) := by decide +kernel
theorem d13_12 : decode prog_15_method_4_code 12 = .ok (.putfield 25, 3) := by decide +kernel
theorem d13_15 : decode prog_15_method_4_code 15 = .ok (.aload_n 0, 1) := by decide +kernel
theorem d13_16 : decode prog_15_method_4_code 16 = .ok (.iconst (-1), 1) := by decide +kernel
theorem d13_17 : decode prog_15_method_4_code 17 = .ok (.putfield 29, 3) := by decide +kernel
theorem d13_20 : decode prog_15_method_4_code 20 = .ok (.return_, 1) := by decide +kernel
theorem ef_tokS (m : MethodId) (x_ : Addr) (s_ : Addr) (j_ : Int64) : entryFrame m #[(rr x_), (rr s_), (.long j_)] 4 = mkF m 0 #[vr x_, vr s_, vj j_, .second] [] := by first | (simp [entryFrame, mkF, argsToLocals, Value.category]; done) | rfl
def Q_tokS (Z : State) (x_ : Addr) (s_ : Addr) (j_ : Int64) (o1_ : Value) (o2_ : Value) (i1_ : Int32) (j1_ : Int64) (i2_ : Int32) (h0 : Heap) (n0 : Nat) (v : Option Value) (h : Heap) (L : List Loc) : Prop := v = none ∧ Fr n0 L ∧ Keep h0 h [x_] ∧ Exa Z h x_ nm1 ∧ Fld Z h x_ nm1 "made" nm10 .null ∧ Fld Z h x_ nm1 "read" nm3 (rr s_) ∧ Fld Z h x_ nm1 "copiedLength" "I" (ii (-1)) ∧ Fld Z h x_ nm1 "offset" "J" (.long j_) ∧ Fld Z h x_ nm1 "terminatorLength" "I" (ii (-1))
set_option maxRecDepth 65536 in
set_option maxHeartbeats 40000000 in
theorem rm_tokS (l : Launch) (Z : State) (a0 : Array Value) (hw : HW Z a0) (ws : List Jvm.Cond) (x_ : Addr) (s_ : Addr) (j_ : Int64) (o1_ : Value) (o2_ : Value) (i1_ : Int32) (j1_ : Int64) (i2_ : Int32) (h0 : Heap) (n0 : Nat) (O0 : Old Z n0 h0) (E0_ : Exa Z h0 x_ nm1) (G1_ : n0 ≤ x_) (F2_ : Fld Z h0 x_ nm1 "made" nm10 o1_) (F3_ : Fld Z h0 x_ nm1 "read" nm3 o2_) (F4_ : Fld Z h0 x_ nm1 "copiedLength" "I" (.int i1_)) (F5_ : Fld Z h0 x_ nm1 "offset" "J" (.long j1_)) (F6_ : Fld Z h0 x_ nm1 "terminatorLength" "I" (.int i2_)) :
  MFP l Z (⟨nm1, "token", "(Ljava/lang/String;J)V"⟩ : MethodName) prog_15_method_4_code 4 none ({ frames := 1, cells := 0, slots := 0, locals := 13 } : Room) ws #[(rr x_), (rr s_), (.long j_)] h0 (Q_tokS Z x_ s_ j_ o1_ o2_ i1_ j1_ i2_ h0 n0) := by
 refine MetFree.of_bodySF (plainFor_of_name pn_gleaner_LastMatch) hisR ?_
 intro p e s m args below meth c s₁ Bd hml0 hP hK
 obtain ⟨rfl, hZ, hh⟩ := hP
 have hx := Bd.exec
 have hby := Bd.bytes
 have hml : c.maxLocals = 4 := hml0
 have hown : s.vm.findClass nm1 = some m.cls := findClass_of_methodNamed Bd.named
 have hnm := (name_of_methodNamed Bd.named Bd.method).1
 have X0 : Stand p l e ({ frames := 1, cells := 0, slots := 0, locals := 13 } : Room) s m #[(rr x_), (rr s_), (.long j_)] below meth c s₁ [] 0 0 := Stand.of_body Bd
 have e0 : s₁.heap = h0 := by rw [← hh, Bd.state]; rfl
 have N0 := Fr.nil n0
 have kp0 : Keep h0 h0 [x_] := Keep.refl _ _
 have c0 : ∀ t, S_ p e below s₁ m 0 #[vr x_, vr s_, vj j_, .second] [] t → Steps p.tables e below (s₁.setTop (entryFrame m #[(rr x_), (rr s_), (.long j_)] 4)) t := fun t k => castTop (ef_tokS m x_ s_ j_) k
 generalize s₁.setTop (entryFrame m #[(rr x_), (rr s_), (.long j_)] 4) = st0 at c0 ⊢
 replace c0 : Kt p e below s₁ st0 (mkF m 0 #[vr x_, vr s_, vj j_, .second] []) := c0
 have c1 : Kt p e below s₁ st0 (mkF m 2 #[vr x_, vr s_, vj j_, .second] [.null, (rr x_)]) := fun t k => by
  refine c0 t ?_
  show S_ p e below s₁ m 0 #[vr x_, vr s_, vj j_, .second] [] t
  refine XS.aloadN X0.here hx rfl (hb hby d13_0) rfl rfl ?_
  refine XS.aconstNull X0.here hx rfl (hb hby d13_1) ?_
  exact k
 obtain ⟨_, T2, L2, X2, hQ2, c2⟩ := kvirt X0 hx hZ hown (w88 hw) (w75 hw) (w77 hw) (w76 hw) (w78 hw) (w25 hw) (rm_set5N l Z a0 hw [] x_ o1_ o2_ i1_ j1_ i2_ h0 n0 O0 E0_ G1_ F2_ F3_ F4_ F5_ F6_) e0 E0_ c1 hml pd_pLgleaner_Match_rV [.null] [] 0 (hb hby d13_2) rfl rfl rfl rfl rfl rfl
 obtain ⟨rfl, N3q, K4, p5, p6, p7, p8, p9, p10⟩ := hQ2
 have N3 := Fr.app N0 N3q
 have o11 := O0.keep K4 (allS G1_ all0)
 have kp12 := kp0.trans K4 (allS (Or.inl (List.mem_of_getElem? (i := 0) rfl)) all0)
 have c13 : Kt p e below T2 st0 (mkF m 7 #[vr x_, vr s_, vj j_, .second] [(rr s_), (rr x_)]) := fun t k => by
  refine c2 t ?_
  show S_ p e below T2 m 5 #[vr x_, vr s_, vj j_, .second] [] t
  refine XS.aloadN X2.here hx rfl (hb hby d13_5) rfl rfl ?_
  refine XS.aloadN X2.here hx rfl (hb hby d13_6) rfl rfl ?_
  exact k
 obtain ⟨T14, h14, X14, e14, W14, f15, o17, N16, c14⟩ := kput X2 hx hZ (.object nm0) hown (host := "") (Or.inl (w81 hw)) Via.refl rfl p7 p5 (Or.inl (w82 hw)) (w24 hw) c13 rfl rfl (hb hby d13_7) (by decide) rfl rfl o11 N3 G1_
 have kp18 := kp12.wr W14 (Or.inl (List.mem_of_getElem? (i := 0) rfl))
 have f19 := p9.other W14 (Or.inr (slot_ne (Or.inl (w90 hw)) (Or.inl (w82 hw)) (by decide) (t := .long) (t' := (.object nm0)) (by decide) (by decide)))
 have c20 : Kt p e below T14 st0 (mkF m 12 #[vr x_, vr s_, vj j_, .second] [(.long j_), (rr x_)]) := fun t k => by
  refine c14 t ?_
  show S_ p e below T14 m 10 #[vr x_, vr s_, vj j_, .second] [] t
  refine XS.aloadN X14.here hx rfl (hb hby d13_10) rfl rfl ?_
  refine XS.lloadN X14.here hx rfl (hb hby d13_11) rfl ?_
  exact k
 obtain ⟨T21, h21, X21, e21, W21, f22, o24, N23, c21⟩ := kput X14 hx hZ .long hown (host := "") (Or.inl (w89 hw)) Via.refl e14 f19 (p5.wr W14) (Or.inl (w90 hw)) (w24 hw) c20 rfl rfl (hb hby d13_12) (by decide) rfl rfl o17 N16 G1_
 have kp25 := kp18.wr W21 (Or.inl (List.mem_of_getElem? (i := 0) rfl))
 have f26 := (p10.other W14 (Or.inr (slot_ne (Or.inl (w92 hw)) (Or.inl (w82 hw)) (by decide) (t := .int) (t' := (.object nm0)) (by decide) (by decide)))).other W21 (Or.inr (slot_ne (Or.inl (w92 hw)) (Or.inl (w90 hw)) (by decide) (t := .int) (t' := .long) (by decide) (by decide)))
 have c27 : Kt p e below T21 st0 (mkF m 17 #[vr x_, vr s_, vj j_, .second] [(ii (-1)), (rr x_)]) := fun t k => by
  refine c21 t ?_
  show S_ p e below T21 m 15 #[vr x_, vr s_, vj j_, .second] [] t
  refine XS.aloadN X21.here hx rfl (hb hby d13_15) rfl rfl ?_
  refine XS.iconst X21.here hx rfl (hb hby d13_16) ?_
  exact k
 obtain ⟨T28, h28, X28, e28, W28, f29, o31, N30, c28⟩ := kput X21 hx hZ .int hown (host := "") (Or.inl (w91 hw)) Via.refl e21 f26 ((p5.wr W14).wr W21) (Or.inl (w92 hw)) (w24 hw) c27 rfl rfl (hb hby d13_17) (by decide) rfl rfl o24 N23 G1_
 have kp32 := kp25.wr W28 (Or.inl (List.mem_of_getElem? (i := 0) rfl))
 have f33 := ((p6.other W14 (Or.inr (slot_ne (Or.inl (w80 hw)) (Or.inl (w82 hw)) (by decide) (t := (.object nm2)) (t' := (.object nm0)) (by decide) (by decide)))).other W21 (Or.inr (slot_ne (Or.inl (w80 hw)) (Or.inl (w90 hw)) (by decide) (t := (.object nm2)) (t' := .long) (by decide) (by decide)))).other W28 (Or.inr (slot_ne (Or.inl (w80 hw)) (Or.inl (w92 hw)) (by decide) (t := (.object nm2)) (t' := .int) (by decide) (by decide)))
 have f34 := (f15.other W21 (Or.inr (slot_ne (Or.inl (w82 hw)) (Or.inl (w90 hw)) (by decide) (t := (.object nm0)) (t' := .long) (by decide) (by decide)))).other W28 (Or.inr (slot_ne (Or.inl (w82 hw)) (Or.inl (w92 hw)) (by decide) (t := (.object nm0)) (t' := .int) (by decide) (by decide)))
 have f35 := ((p8.other W14 (Or.inr (slot_ne (Or.inl (w31 hw)) (Or.inl (w82 hw)) (by decide) (t := .int) (t' := (.object nm0)) (by decide) (by decide)))).other W21 (Or.inr (slot_ne (Or.inl (w31 hw)) (Or.inl (w90 hw)) (by decide) (t := .int) (t' := .long) (by decide) (by decide)))).other W28 (Or.inr (slot_ne (Or.inl (w31 hw)) (Or.inl (w92 hw)) (by decide) (t := .int) (t' := .int) (by decide) (by decide)))
 have f36 := f22.other W28 (Or.inr (slot_ne (Or.inl (w90 hw)) (Or.inl (w92 hw)) (by decide) (t := .long) (t' := .int) (by decide) (by decide)))
 obtain ⟨fs, hr, hrun, hended, hW, hsame⟩ := X28.leave (v := none) (fun _ => rfl)
 refine ⟨_, _, c28 _ ?_, hrun, hended, _, _, rfl, ?_, ⟨_, rfl⟩, hW, hsame.mono (by decide) (by decide)⟩
 ·show S_ p e below T28 m 20 #[vr x_, vr s_, vj j_, .second] [] _
  exact X28.returnOut hx Bd.returns (hb hby d13_20) hr
 ·show Q_tokS Z x_ s_ j_ o1_ o2_ i1_ j1_ i2_ h0 n0 _ T28.heap _
  rw [e28]
  exact ⟨rfl, N30, kp32, (((p5.wr W14).wr W21).wr W28), f33, f34, f35, f36, f29⟩
theorem d14_0 : decode prog_15_method_6_code 0 = .ok (.aload_n 0, 1) := by decide +kernel
theorem d14_1 : decode prog_15_method_6_code 1 = .ok (.aconst_null, 1) := by decide +kernel
theorem d14_2 : decode prog_15_method_6_code 2 = .ok (.invokevirtual 13, 3) := by decide +kernel
theorem d14_5 : decode prog_15_method_6_code 5 = .ok (.aload_n 0, 1) := by decide +kernel
theorem d14_6 : decode prog_15_method_6_code 6 = .ok (.aload_n 1, 1) := by decide +kernel
theorem d14_7 : decode prog_15_method_6_code 7 = .ok (.putfield 21, 3) := by decide +kernel
theorem d14_10 : decode prog_15_method_6_code 10 = .ok (.aload_n 0, 1) := by decide +kernel
theorem d14_11 : decode prog_15_method_6_code 11 = .ok (.lload_n 2, 1) := by decide +kernel
theorem d14_12 : decode prog_15_method_6_code 12 = .ok (.putfield 25, 3) := by decide +kernel
theorem d14_15 : decode prog_15_method_6_code 15 = .ok (.aload_n 0, 1) := by decide +kernel
theorem d14_16 : decode prog_15_method_6_code 16 = .ok (.iload 4, 2) := by decide +kernel
theorem d14_18 : decode prog_15_method_6_code 18 = .ok (.putfield 29, 3) := by decide +kernel
theorem d14_21 : decode prog_15_method_6_code 21 = .ok (.aload_n 0, 1) := by decide +kernel
theorem d14_22 : decode prog_15_method_6_code 22 = .ok (.iload 5, 2) := by decide +kernel
theorem d14_24 : decode prog_15_method_6_code 24 = .ok (.putfield 51, 3) := by decide +kernel
theorem d14_27 : decode prog_15_method_6_code 27 = .ok (.aload_n 0, 1) := by decide +kernel
theorem d14_28 : decode prog_15_method_6_code 28 = .ok (.iconst 0, 1) := by decide +kernel
theorem d14_29 : decode prog_15_method_6_code 29 = .ok (.putfield 55, 3) := by decide +kernel
theorem d14_32 : decode prog_15_method_6_code 32 = .ok (.return_, 1) := by decide +kernel
theorem ef_line (m : MethodId) (x_ : Addr) (s_ : Addr) (j_ : Int64) (n_ : Int32) (t_ : Int32) : entryFrame m #[(rr x_), (rr s_), (.long j_), (.int n_), (.int t_)] 6 = mkF m 0 #[vr x_, vr s_, vj j_, .second, vi n_, vi t_] [] := by first | (simp [entryFrame, mkF, argsToLocals, Value.category]; done) | rfl
def Q_line (Z : State) (x_ : Addr) (s_ : Addr) (j_ : Int64) (n_ : Int32) (t_ : Int32) (o1_ : Value) (o2_ : Value) (i1_ : Int32) (j1_ : Int64) (i2_ : Int32) (o3_ : Value) (i3_ : Int32) (i4_ : Int32) (h0 : Heap) (n0 : Nat) (v : Option Value) (h : Heap) (L : List Loc) : Prop := v = none ∧ Fr n0 L ∧ Keep h0 h [x_] ∧ Exa Z h x_ nm1 ∧ Fld Z h x_ nm1 "made" nm10 .null ∧ Fld Z h x_ nm1 "read" nm3 (rr s_) ∧ Fld Z h x_ nm1 "copiedLength" "I" (ii (-1)) ∧ Fld Z h x_ nm1 "offset" "J" (.long j_) ∧ Fld Z h x_ nm1 "terminatorLength" "I" (.int n_)
set_option maxRecDepth 65536 in
set_option maxHeartbeats 40000000 in
theorem rm_line (l : Launch) (Z : State) (a0 : Array Value) (hw : HW Z a0) (ws : List Jvm.Cond) (x_ : Addr) (s_ : Addr) (j_ : Int64) (n_ : Int32) (t_ : Int32) (o1_ : Value) (o2_ : Value) (i1_ : Int32) (j1_ : Int64) (i2_ : Int32) (o3_ : Value) (i3_ : Int32) (i4_ : Int32) (h0 : Heap) (n0 : Nat) (O0 : Old Z n0 h0) (E0_ : Exa Z h0 x_ nm1) (G1_ : n0 ≤ x_) (F2_ : Fld Z h0 x_ nm1 "made" nm10 o1_) (F3_ : Fld Z h0 x_ nm1 "read" nm3 o2_) (F4_ : Fld Z h0 x_ nm1 "copiedLength" "I" (.int i1_)) (F5_ : Fld Z h0 x_ nm1 "offset" "J" (.long j1_)) (F6_ : Fld Z h0 x_ nm1 "terminatorLength" "I" (.int i2_)) (F7_ : Fld Z h0 x_ nm1 "copied" "[C" o3_) (F8_ : Fld Z h0 x_ nm1 "terminatorStart" "C" (.int i3_)) (F9_ : Fld Z h0 x_ nm1 "terminatorRead" "Z" (.int i4_)) :
  MFP l Z (⟨nm1, "line", "(Ljava/lang/String;JIC)V"⟩ : MethodName) prog_15_method_6_code 6 none ({ frames := 1, cells := 0, slots := 0, locals := 13 } : Room) ws #[(rr x_), (rr s_), (.long j_), (.int n_), (.int t_)] h0 (Q_line Z x_ s_ j_ n_ t_ o1_ o2_ i1_ j1_ i2_ o3_ i3_ i4_ h0 n0) := by
 refine MetFree.of_bodySF (plainFor_of_name pn_gleaner_LastMatch) hisR ?_
 intro p e s m args below meth c s₁ Bd hml0 hP hK
 obtain ⟨rfl, hZ, hh⟩ := hP
 have hx := Bd.exec
 have hby := Bd.bytes
 have hml : c.maxLocals = 6 := hml0
 have hown : s.vm.findClass nm1 = some m.cls := findClass_of_methodNamed Bd.named
 have hnm := (name_of_methodNamed Bd.named Bd.method).1
 have X0 : Stand p l e ({ frames := 1, cells := 0, slots := 0, locals := 13 } : Room) s m #[(rr x_), (rr s_), (.long j_), (.int n_), (.int t_)] below meth c s₁ [] 0 0 := Stand.of_body Bd
 have e0 : s₁.heap = h0 := by rw [← hh, Bd.state]; rfl
 have N0 := Fr.nil n0
 have kp0 : Keep h0 h0 [x_] := Keep.refl _ _
 have c0 : ∀ t, S_ p e below s₁ m 0 #[vr x_, vr s_, vj j_, .second, vi n_, vi t_] [] t → Steps p.tables e below (s₁.setTop (entryFrame m #[(rr x_), (rr s_), (.long j_), (.int n_), (.int t_)] 6)) t := fun t k => castTop (ef_line m x_ s_ j_ n_ t_) k
 generalize s₁.setTop (entryFrame m #[(rr x_), (rr s_), (.long j_), (.int n_), (.int t_)] 6) = st0 at c0 ⊢
 replace c0 : Kt p e below s₁ st0 (mkF m 0 #[vr x_, vr s_, vj j_, .second, vi n_, vi t_] []) := c0
 have c1 : Kt p e below s₁ st0 (mkF m 2 #[vr x_, vr s_, vj j_, .second, vi n_, vi t_] [.null, (rr x_)]) := fun t k => by
  refine c0 t ?_
  show S_ p e below s₁ m 0 #[vr x_, vr s_, vj j_, .second, vi n_, vi t_] [] t
  refine XS.aloadN X0.here hx rfl (hb hby d14_0) rfl rfl ?_
  refine XS.aconstNull X0.here hx rfl (hb hby d14_1) ?_
  exact k
 obtain ⟨_, T2, L2, X2, hQ2, c2⟩ := kvirt X0 hx hZ hown (w88 hw) (w75 hw) (w77 hw) (w76 hw) (w78 hw) (w25 hw) (rm_set8N l Z a0 hw [] x_ o1_ o2_ i1_ j1_ i2_ o3_ i3_ i4_ h0 n0 O0 E0_ G1_ F2_ F3_ F4_ F5_ F6_ F7_ F8_ F9_) e0 E0_ c1 hml pd_pLgleaner_Match_rV [.null] [] 0 (hb hby d14_2) rfl rfl rfl rfl rfl rfl
 obtain ⟨rfl, N3q, K4, p5, p6, p7, p8, p9, p10, p11, p12, p13⟩ := hQ2
 have N3 := Fr.app N0 N3q
 have o14 := O0.keep K4 (allS G1_ all0)
 have kp15 := kp0.trans K4 (allS (Or.inl (List.mem_of_getElem? (i := 0) rfl)) all0)
 have c16 : Kt p e below T2 st0 (mkF m 7 #[vr x_, vr s_, vj j_, .second, vi n_, vi t_] [(rr s_), (rr x_)]) := fun t k => by
  refine c2 t ?_
  show S_ p e below T2 m 5 #[vr x_, vr s_, vj j_, .second, vi n_, vi t_] [] t
  refine XS.aloadN X2.here hx rfl (hb hby d14_5) rfl rfl ?_
  refine XS.aloadN X2.here hx rfl (hb hby d14_6) rfl rfl ?_
  exact k
 obtain ⟨T17, h17, X17, e17, W17, f18, o20, N19, c17⟩ := kput X2 hx hZ (.object nm0) hown (host := "") (Or.inl (w81 hw)) Via.refl rfl p7 p5 (Or.inl (w82 hw)) (w24 hw) c16 rfl rfl (hb hby d14_7) (by decide) rfl rfl o14 N3 G1_
 have kp21 := kp15.wr W17 (Or.inl (List.mem_of_getElem? (i := 0) rfl))
 have f22 := p9.other W17 (Or.inr (slot_ne (Or.inl (w90 hw)) (Or.inl (w82 hw)) (by decide) (t := .long) (t' := (.object nm0)) (by decide) (by decide)))
 have c23 : Kt p e below T17 st0 (mkF m 12 #[vr x_, vr s_, vj j_, .second, vi n_, vi t_] [(.long j_), (rr x_)]) := fun t k => by
  refine c17 t ?_
  show S_ p e below T17 m 10 #[vr x_, vr s_, vj j_, .second, vi n_, vi t_] [] t
  refine XS.aloadN X17.here hx rfl (hb hby d14_10) rfl rfl ?_
  refine XS.lloadN X17.here hx rfl (hb hby d14_11) rfl ?_
  exact k
 obtain ⟨T24, h24, X24, e24, W24, f25, o27, N26, c24⟩ := kput X17 hx hZ .long hown (host := "") (Or.inl (w89 hw)) Via.refl e17 f22 (p5.wr W17) (Or.inl (w90 hw)) (w24 hw) c23 rfl rfl (hb hby d14_12) (by decide) rfl rfl o20 N19 G1_
 have kp28 := kp21.wr W24 (Or.inl (List.mem_of_getElem? (i := 0) rfl))
 have f29 := (p10.other W17 (Or.inr (slot_ne (Or.inl (w92 hw)) (Or.inl (w82 hw)) (by decide) (t := .int) (t' := (.object nm0)) (by decide) (by decide)))).other W24 (Or.inr (slot_ne (Or.inl (w92 hw)) (Or.inl (w90 hw)) (by decide) (t := .int) (t' := .long) (by decide) (by decide)))
 have c30 : Kt p e below T24 st0 (mkF m 18 #[vr x_, vr s_, vj j_, .second, vi n_, vi t_] [(.int n_), (rr x_)]) := fun t k => by
  refine c24 t ?_
  show S_ p e below T24 m 15 #[vr x_, vr s_, vj j_, .second, vi n_, vi t_] [] t
  refine XS.aloadN X24.here hx rfl (hb hby d14_15) rfl rfl ?_
  refine XS.iload X24.here hx rfl (hb hby d14_16) rfl ?_
  exact k
 obtain ⟨T31, h31, X31, e31, W31, f32, o34, N33, c31⟩ := kput X24 hx hZ .int hown (host := "") (Or.inl (w91 hw)) Via.refl e24 f29 ((p5.wr W17).wr W24) (Or.inl (w92 hw)) (w24 hw) c30 rfl rfl (hb hby d14_18) (by decide) rfl rfl o27 N26 G1_
 have kp35 := kp28.wr W31 (Or.inl (List.mem_of_getElem? (i := 0) rfl))
 have f36 := ((p12.other W17 (Or.inr (slot_ne (Or.inl (w178 hw)) (Or.inl (w82 hw)) (by decide) (t := .char) (t' := (.object nm0)) (by decide) (by decide)))).other W24 (Or.inr (slot_ne (Or.inl (w178 hw)) (Or.inl (w90 hw)) (by decide) (t := .char) (t' := .long) (by decide) (by decide)))).other W31 (Or.inr (slot_ne (Or.inl (w178 hw)) (Or.inl (w92 hw)) (by decide) (t := .char) (t' := .int) (by decide) (by decide)))
 have c37 : Kt p e below T31 st0 (mkF m 24 #[vr x_, vr s_, vj j_, .second, vi n_, vi t_] [(.int t_), (rr x_)]) := fun t k => by
  refine c31 t ?_
  show S_ p e below T31 m 21 #[vr x_, vr s_, vj j_, .second, vi n_, vi t_] [] t
  refine XS.aloadN X31.here hx rfl (hb hby d14_21) rfl rfl ?_
  refine XS.iload X31.here hx rfl (hb hby d14_22) rfl ?_
  exact k
 obtain ⟨T38, h38, X38, e38, W38, f39, o41, N40, c38⟩ := kputN X31 hx hZ .char hown (w177 hw) Via.refl e31 f36 (((p5.wr W17).wr W24).wr W31) (Or.inl (w178 hw)) (w24 hw) c37 rfl rfl (hb hby d14_24) (by decide) (rfl : (_ : Value) = (.int (nar .char t_))) (fits_nar_char _) o34 N33 G1_
 have kp42 := kp35.wr W38 (Or.inl (List.mem_of_getElem? (i := 0) rfl))
 have f43 := (((p13.other W17 (Or.inr (slot_ne (Or.inl (w180 hw)) (Or.inl (w82 hw)) (by decide) (t := .boolean) (t' := (.object nm0)) (by decide) (by decide)))).other W24 (Or.inr (slot_ne (Or.inl (w180 hw)) (Or.inl (w90 hw)) (by decide) (t := .boolean) (t' := .long) (by decide) (by decide)))).other W31 (Or.inr (slot_ne (Or.inl (w180 hw)) (Or.inl (w92 hw)) (by decide) (t := .boolean) (t' := .int) (by decide) (by decide)))).other W38 (Or.inr (slot_ne (Or.inl (w180 hw)) (Or.inl (w178 hw)) (by decide) (t := .boolean) (t' := .char) (by decide) (by decide)))
 have c44 : Kt p e below T38 st0 (mkF m 29 #[vr x_, vr s_, vj j_, .second, vi n_, vi t_] [(ii 0), (rr x_)]) := fun t k => by
  refine c38 t ?_
  show S_ p e below T38 m 27 #[vr x_, vr s_, vj j_, .second, vi n_, vi t_] [] t
  refine XS.aloadN X38.here hx rfl (hb hby d14_27) rfl rfl ?_
  refine XS.iconst X38.here hx rfl (hb hby d14_28) ?_
  exact k
 obtain ⟨T45, h45, X45, e45, W45, f46, o48, N47, c45⟩ := kput X38 hx hZ .boolean hown (host := "") (Or.inl (w179 hw)) Via.refl e38 f43 ((((p5.wr W17).wr W24).wr W31).wr W38) (Or.inl (w180 hw)) (w24 hw) c44 rfl rfl (hb hby d14_29) (by decide) rfl rfl o41 N40 G1_
 have kp49 := kp42.wr W45 (Or.inl (List.mem_of_getElem? (i := 0) rfl))
 have f50 := ((((p6.other W17 (Or.inr (slot_ne (Or.inl (w80 hw)) (Or.inl (w82 hw)) (by decide) (t := (.object nm2)) (t' := (.object nm0)) (by decide) (by decide)))).other W24 (Or.inr (slot_ne (Or.inl (w80 hw)) (Or.inl (w90 hw)) (by decide) (t := (.object nm2)) (t' := .long) (by decide) (by decide)))).other W31 (Or.inr (slot_ne (Or.inl (w80 hw)) (Or.inl (w92 hw)) (by decide) (t := (.object nm2)) (t' := .int) (by decide) (by decide)))).other W38 (Or.inr (slot_ne (Or.inl (w80 hw)) (Or.inl (w178 hw)) (by decide) (t := (.object nm2)) (t' := .char) (by decide) (by decide)))).other W45 (Or.inr (slot_ne (Or.inl (w80 hw)) (Or.inl (w180 hw)) (by decide) (t := (.object nm2)) (t' := .boolean) (by decide) (by decide)))
 have f51 := (((f18.other W24 (Or.inr (slot_ne (Or.inl (w82 hw)) (Or.inl (w90 hw)) (by decide) (t := (.object nm0)) (t' := .long) (by decide) (by decide)))).other W31 (Or.inr (slot_ne (Or.inl (w82 hw)) (Or.inl (w92 hw)) (by decide) (t := (.object nm0)) (t' := .int) (by decide) (by decide)))).other W38 (Or.inr (slot_ne (Or.inl (w82 hw)) (Or.inl (w178 hw)) (by decide) (t := (.object nm0)) (t' := .char) (by decide) (by decide)))).other W45 (Or.inr (slot_ne (Or.inl (w82 hw)) (Or.inl (w180 hw)) (by decide) (t := (.object nm0)) (t' := .boolean) (by decide) (by decide)))
 have f52 := ((((p8.other W17 (Or.inr (slot_ne (Or.inl (w31 hw)) (Or.inl (w82 hw)) (by decide) (t := .int) (t' := (.object nm0)) (by decide) (by decide)))).other W24 (Or.inr (slot_ne (Or.inl (w31 hw)) (Or.inl (w90 hw)) (by decide) (t := .int) (t' := .long) (by decide) (by decide)))).other W31 (Or.inr (slot_ne (Or.inl (w31 hw)) (Or.inl (w92 hw)) (by decide) (t := .int) (t' := .int) (by decide) (by decide)))).other W38 (Or.inr (slot_ne (Or.inl (w31 hw)) (Or.inl (w178 hw)) (by decide) (t := .int) (t' := .char) (by decide) (by decide)))).other W45 (Or.inr (slot_ne (Or.inl (w31 hw)) (Or.inl (w180 hw)) (by decide) (t := .int) (t' := .boolean) (by decide) (by decide)))
 have f53 := ((f25.other W31 (Or.inr (slot_ne (Or.inl (w90 hw)) (Or.inl (w92 hw)) (by decide) (t := .long) (t' := .int) (by decide) (by decide)))).other W38 (Or.inr (slot_ne (Or.inl (w90 hw)) (Or.inl (w178 hw)) (by decide) (t := .long) (t' := .char) (by decide) (by decide)))).other W45 (Or.inr (slot_ne (Or.inl (w90 hw)) (Or.inl (w180 hw)) (by decide) (t := .long) (t' := .boolean) (by decide) (by decide)))
 have f54 := (f32.other W38 (Or.inr (slot_ne (Or.inl (w92 hw)) (Or.inl (w178 hw)) (by decide) (t := .int) (t' := .char) (by decide) (by decide)))).other W45 (Or.inr (slot_ne (Or.inl (w92 hw)) (Or.inl (w180 hw)) (by decide) (t := .int) (t' := .boolean) (by decide) (by decide)))
 obtain ⟨fs, hr, hrun, hended, hW, hsame⟩ := X45.leave (v := none) (fun _ => rfl)
 refine ⟨_, _, c45 _ ?_, hrun, hended, _, _, rfl, ?_, ⟨_, rfl⟩, hW, hsame.mono (by decide) (by decide)⟩
 ·show S_ p e below T45 m 32 #[vr x_, vr s_, vj j_, .second, vi n_, vi t_] [] _
  exact X45.returnOut hx Bd.returns (hb hby d14_32) hr
 ·show Q_line Z x_ s_ j_ n_ t_ o1_ o2_ i1_ j1_ i2_ o3_ i3_ i4_ h0 n0 _ T45.heap _
  rw [e45]
  exact ⟨rfl, N47, kp49, (((((p5.wr W17).wr W24).wr W31).wr W38).wr W45), f50, f51, f52, f53, f54⟩
theorem d15_0 : decode prog_15_method_7_code 0 = .ok (.aload_n 0, 1) := by decide +kernel
theorem d15_1 : decode prog_15_method_7_code 1 = .ok (.aconst_null, 1) := by decide +kernel
theorem d15_2 : decode prog_15_method_7_code 2 = .ok (.invokevirtual 13, 3) := by decide +kernel
theorem d15_5 : decode prog_15_method_7_code 5 = .ok (.aload_n 0, 1) := by decide +kernel
theorem d15_6 : decode prog_15_method_7_code 6 = .ok (.aload_n 1, 1) := by decide +kernel
theorem d15_7 : decode prog_15_method_7_code 7 = .ok (.putfield 21, 3) := by decide +kernel
theorem d15_10 : decode prog_15_method_7_code 10 = .ok (.aload_n 0, 1) := by decide +kernel
theorem d15_11 : decode prog_15_method_7_code 11 = .ok (.lload_n 2, 1) := by decide +kernel
theorem d15_12 : decode prog_15_method_7_code 12 = .ok (.putfield 25, 3) := by decide +kernel
theorem d15_15 : decode prog_15_method_7_code 15 = .ok (.aload_n 0, 1) := by decide +kernel
theorem d15_16 : decode prog_15_method_7_code 16 = .ok (.iload 4, 2) := by decide +kernel
theorem d15_18 : decode prog_15_method_7_code 18 = .ok (.putfield 29, 3) := by decide +kernel
theorem d15_21 : decode prog_15_method_7_code 21 = .ok (.aload_n 0, 1) := by decide +kernel
theorem d15_22 : decode prog_15_method_7_code 22 = .ok (.iconst 1, 1) := by decide +kernel
theorem d15_23 : decode prog_15_method_7_code 23 = .ok (.putfield 55, 3) := by decide +kernel
theorem d15_26 : decode prog_15_method_7_code 26 = .ok (.return_, 1) := by decide +kernel
theorem ef_lwt (m : MethodId) (x_ : Addr) (s_ : Addr) (j_ : Int64) (n_ : Int32) : entryFrame m #[(rr x_), (rr s_), (.long j_), (.int n_)] 5 = mkF m 0 #[vr x_, vr s_, vj j_, .second, vi n_] [] := by first | (simp [entryFrame, mkF, argsToLocals, Value.category]; done) | rfl
def Q_lwt (Z : State) (x_ : Addr) (s_ : Addr) (j_ : Int64) (n_ : Int32) (o1_ : Value) (o2_ : Value) (i1_ : Int32) (j1_ : Int64) (i2_ : Int32) (o3_ : Value) (i3_ : Int32) (i4_ : Int32) (h0 : Heap) (n0 : Nat) (v : Option Value) (h : Heap) (L : List Loc) : Prop := v = none ∧ Fr n0 L ∧ Keep h0 h [x_] ∧ Exa Z h x_ nm1 ∧ Fld Z h x_ nm1 "made" nm10 .null ∧ Fld Z h x_ nm1 "read" nm3 (rr s_) ∧ Fld Z h x_ nm1 "copiedLength" "I" (ii (-1)) ∧ Fld Z h x_ nm1 "offset" "J" (.long j_) ∧ Fld Z h x_ nm1 "terminatorLength" "I" (.int n_)
set_option maxRecDepth 65536 in
set_option maxHeartbeats 40000000 in
theorem rm_lwt (l : Launch) (Z : State) (a0 : Array Value) (hw : HW Z a0) (ws : List Jvm.Cond) (x_ : Addr) (s_ : Addr) (j_ : Int64) (n_ : Int32) (o1_ : Value) (o2_ : Value) (i1_ : Int32) (j1_ : Int64) (i2_ : Int32) (o3_ : Value) (i3_ : Int32) (i4_ : Int32) (h0 : Heap) (n0 : Nat) (O0 : Old Z n0 h0) (E0_ : Exa Z h0 x_ nm1) (G1_ : n0 ≤ x_) (F2_ : Fld Z h0 x_ nm1 "made" nm10 o1_) (F3_ : Fld Z h0 x_ nm1 "read" nm3 o2_) (F4_ : Fld Z h0 x_ nm1 "copiedLength" "I" (.int i1_)) (F5_ : Fld Z h0 x_ nm1 "offset" "J" (.long j1_)) (F6_ : Fld Z h0 x_ nm1 "terminatorLength" "I" (.int i2_)) (F7_ : Fld Z h0 x_ nm1 "copied" "[C" o3_) (F8_ : Fld Z h0 x_ nm1 "terminatorStart" "C" (.int i3_)) (F9_ : Fld Z h0 x_ nm1 "terminatorRead" "Z" (.int i4_)) :
  MFP l Z (⟨nm1, "lineWithTerminator", "(Ljava/lang/String;JI)V"⟩ : MethodName) prog_15_method_7_code 5 none ({ frames := 1, cells := 0, slots := 0, locals := 13 } : Room) ws #[(rr x_), (rr s_), (.long j_), (.int n_)] h0 (Q_lwt Z x_ s_ j_ n_ o1_ o2_ i1_ j1_ i2_ o3_ i3_ i4_ h0 n0) := by
 refine MetFree.of_bodySF (plainFor_of_name pn_gleaner_LastMatch) hisR ?_
 intro p e s m args below meth c s₁ Bd hml0 hP hK
 obtain ⟨rfl, hZ, hh⟩ := hP
 have hx := Bd.exec
 have hby := Bd.bytes
 have hml : c.maxLocals = 5 := hml0
 have hown : s.vm.findClass nm1 = some m.cls := findClass_of_methodNamed Bd.named
 have hnm := (name_of_methodNamed Bd.named Bd.method).1
 have X0 : Stand p l e ({ frames := 1, cells := 0, slots := 0, locals := 13 } : Room) s m #[(rr x_), (rr s_), (.long j_), (.int n_)] below meth c s₁ [] 0 0 := Stand.of_body Bd
 have e0 : s₁.heap = h0 := by rw [← hh, Bd.state]; rfl
 have N0 := Fr.nil n0
 have kp0 : Keep h0 h0 [x_] := Keep.refl _ _
 have c0 : ∀ t, S_ p e below s₁ m 0 #[vr x_, vr s_, vj j_, .second, vi n_] [] t → Steps p.tables e below (s₁.setTop (entryFrame m #[(rr x_), (rr s_), (.long j_), (.int n_)] 5)) t := fun t k => castTop (ef_lwt m x_ s_ j_ n_) k
 generalize s₁.setTop (entryFrame m #[(rr x_), (rr s_), (.long j_), (.int n_)] 5) = st0 at c0 ⊢
 replace c0 : Kt p e below s₁ st0 (mkF m 0 #[vr x_, vr s_, vj j_, .second, vi n_] []) := c0
 have c1 : Kt p e below s₁ st0 (mkF m 2 #[vr x_, vr s_, vj j_, .second, vi n_] [.null, (rr x_)]) := fun t k => by
  refine c0 t ?_
  show S_ p e below s₁ m 0 #[vr x_, vr s_, vj j_, .second, vi n_] [] t
  refine XS.aloadN X0.here hx rfl (hb hby d15_0) rfl rfl ?_
  refine XS.aconstNull X0.here hx rfl (hb hby d15_1) ?_
  exact k
 obtain ⟨_, T2, L2, X2, hQ2, c2⟩ := kvirt X0 hx hZ hown (w88 hw) (w75 hw) (w77 hw) (w76 hw) (w78 hw) (w25 hw) (rm_set8N l Z a0 hw [] x_ o1_ o2_ i1_ j1_ i2_ o3_ i3_ i4_ h0 n0 O0 E0_ G1_ F2_ F3_ F4_ F5_ F6_ F7_ F8_ F9_) e0 E0_ c1 hml pd_pLgleaner_Match_rV [.null] [] 0 (hb hby d15_2) rfl rfl rfl rfl rfl rfl
 obtain ⟨rfl, N3q, K4, p5, p6, p7, p8, p9, p10, p11, p12, p13⟩ := hQ2
 have N3 := Fr.app N0 N3q
 have o14 := O0.keep K4 (allS G1_ all0)
 have kp15 := kp0.trans K4 (allS (Or.inl (List.mem_of_getElem? (i := 0) rfl)) all0)
 have c16 : Kt p e below T2 st0 (mkF m 7 #[vr x_, vr s_, vj j_, .second, vi n_] [(rr s_), (rr x_)]) := fun t k => by
  refine c2 t ?_
  show S_ p e below T2 m 5 #[vr x_, vr s_, vj j_, .second, vi n_] [] t
  refine XS.aloadN X2.here hx rfl (hb hby d15_5) rfl rfl ?_
  refine XS.aloadN X2.here hx rfl (hb hby d15_6) rfl rfl ?_
  exact k
 obtain ⟨T17, h17, X17, e17, W17, f18, o20, N19, c17⟩ := kput X2 hx hZ (.object nm0) hown (host := "") (Or.inl (w81 hw)) Via.refl rfl p7 p5 (Or.inl (w82 hw)) (w24 hw) c16 rfl rfl (hb hby d15_7) (by decide) rfl rfl o14 N3 G1_
 have kp21 := kp15.wr W17 (Or.inl (List.mem_of_getElem? (i := 0) rfl))
 have f22 := p9.other W17 (Or.inr (slot_ne (Or.inl (w90 hw)) (Or.inl (w82 hw)) (by decide) (t := .long) (t' := (.object nm0)) (by decide) (by decide)))
 have c23 : Kt p e below T17 st0 (mkF m 12 #[vr x_, vr s_, vj j_, .second, vi n_] [(.long j_), (rr x_)]) := fun t k => by
  refine c17 t ?_
  show S_ p e below T17 m 10 #[vr x_, vr s_, vj j_, .second, vi n_] [] t
  refine XS.aloadN X17.here hx rfl (hb hby d15_10) rfl rfl ?_
  refine XS.lloadN X17.here hx rfl (hb hby d15_11) rfl ?_
  exact k
 obtain ⟨T24, h24, X24, e24, W24, f25, o27, N26, c24⟩ := kput X17 hx hZ .long hown (host := "") (Or.inl (w89 hw)) Via.refl e17 f22 (p5.wr W17) (Or.inl (w90 hw)) (w24 hw) c23 rfl rfl (hb hby d15_12) (by decide) rfl rfl o20 N19 G1_
 have kp28 := kp21.wr W24 (Or.inl (List.mem_of_getElem? (i := 0) rfl))
 have f29 := (p10.other W17 (Or.inr (slot_ne (Or.inl (w92 hw)) (Or.inl (w82 hw)) (by decide) (t := .int) (t' := (.object nm0)) (by decide) (by decide)))).other W24 (Or.inr (slot_ne (Or.inl (w92 hw)) (Or.inl (w90 hw)) (by decide) (t := .int) (t' := .long) (by decide) (by decide)))
 have c30 : Kt p e below T24 st0 (mkF m 18 #[vr x_, vr s_, vj j_, .second, vi n_] [(.int n_), (rr x_)]) := fun t k => by
  refine c24 t ?_
  show S_ p e below T24 m 15 #[vr x_, vr s_, vj j_, .second, vi n_] [] t
  refine XS.aloadN X24.here hx rfl (hb hby d15_15) rfl rfl ?_
  refine XS.iload X24.here hx rfl (hb hby d15_16) rfl ?_
  exact k
 obtain ⟨T31, h31, X31, e31, W31, f32, o34, N33, c31⟩ := kput X24 hx hZ .int hown (host := "") (Or.inl (w91 hw)) Via.refl e24 f29 ((p5.wr W17).wr W24) (Or.inl (w92 hw)) (w24 hw) c30 rfl rfl (hb hby d15_18) (by decide) rfl rfl o27 N26 G1_
 have kp35 := kp28.wr W31 (Or.inl (List.mem_of_getElem? (i := 0) rfl))
 have f36 := ((p13.other W17 (Or.inr (slot_ne (Or.inl (w180 hw)) (Or.inl (w82 hw)) (by decide) (t := .boolean) (t' := (.object nm0)) (by decide) (by decide)))).other W24 (Or.inr (slot_ne (Or.inl (w180 hw)) (Or.inl (w90 hw)) (by decide) (t := .boolean) (t' := .long) (by decide) (by decide)))).other W31 (Or.inr (slot_ne (Or.inl (w180 hw)) (Or.inl (w92 hw)) (by decide) (t := .boolean) (t' := .int) (by decide) (by decide)))
 have c37 : Kt p e below T31 st0 (mkF m 23 #[vr x_, vr s_, vj j_, .second, vi n_] [(ii 1), (rr x_)]) := fun t k => by
  refine c31 t ?_
  show S_ p e below T31 m 21 #[vr x_, vr s_, vj j_, .second, vi n_] [] t
  refine XS.aloadN X31.here hx rfl (hb hby d15_21) rfl rfl ?_
  refine XS.iconst X31.here hx rfl (hb hby d15_22) ?_
  exact k
 obtain ⟨T38, h38, X38, e38, W38, f39, o41, N40, c38⟩ := kput X31 hx hZ .boolean hown (host := "") (Or.inl (w179 hw)) Via.refl e31 f36 (((p5.wr W17).wr W24).wr W31) (Or.inl (w180 hw)) (w24 hw) c37 rfl rfl (hb hby d15_23) (by decide) rfl rfl o34 N33 G1_
 have kp42 := kp35.wr W38 (Or.inl (List.mem_of_getElem? (i := 0) rfl))
 have f43 := (((p6.other W17 (Or.inr (slot_ne (Or.inl (w80 hw)) (Or.inl (w82 hw)) (by decide) (t := (.object nm2)) (t' := (.object nm0)) (by decide) (by decide)))).other W24 (Or.inr (slot_ne (Or.inl (w80 hw)) (Or.inl (w90 hw)) (by decide) (t := (.object nm2)) (t' := .long) (by decide) (by decide)))).other W31 (Or.inr (slot_ne (Or.inl (w80 hw)) (Or.inl (w92 hw)) (by decide) (t := (.object nm2)) (t' := .int) (by decide) (by decide)))).other W38 (Or.inr (slot_ne (Or.inl (w80 hw)) (Or.inl (w180 hw)) (by decide) (t := (.object nm2)) (t' := .boolean) (by decide) (by decide)))
 have f44 := ((f18.other W24 (Or.inr (slot_ne (Or.inl (w82 hw)) (Or.inl (w90 hw)) (by decide) (t := (.object nm0)) (t' := .long) (by decide) (by decide)))).other W31 (Or.inr (slot_ne (Or.inl (w82 hw)) (Or.inl (w92 hw)) (by decide) (t := (.object nm0)) (t' := .int) (by decide) (by decide)))).other W38 (Or.inr (slot_ne (Or.inl (w82 hw)) (Or.inl (w180 hw)) (by decide) (t := (.object nm0)) (t' := .boolean) (by decide) (by decide)))
 have f45 := (((p8.other W17 (Or.inr (slot_ne (Or.inl (w31 hw)) (Or.inl (w82 hw)) (by decide) (t := .int) (t' := (.object nm0)) (by decide) (by decide)))).other W24 (Or.inr (slot_ne (Or.inl (w31 hw)) (Or.inl (w90 hw)) (by decide) (t := .int) (t' := .long) (by decide) (by decide)))).other W31 (Or.inr (slot_ne (Or.inl (w31 hw)) (Or.inl (w92 hw)) (by decide) (t := .int) (t' := .int) (by decide) (by decide)))).other W38 (Or.inr (slot_ne (Or.inl (w31 hw)) (Or.inl (w180 hw)) (by decide) (t := .int) (t' := .boolean) (by decide) (by decide)))
 have f46 := (f25.other W31 (Or.inr (slot_ne (Or.inl (w90 hw)) (Or.inl (w92 hw)) (by decide) (t := .long) (t' := .int) (by decide) (by decide)))).other W38 (Or.inr (slot_ne (Or.inl (w90 hw)) (Or.inl (w180 hw)) (by decide) (t := .long) (t' := .boolean) (by decide) (by decide)))
 have f47 := f32.other W38 (Or.inr (slot_ne (Or.inl (w92 hw)) (Or.inl (w180 hw)) (by decide) (t := .int) (t' := .boolean) (by decide) (by decide)))
 obtain ⟨fs, hr, hrun, hended, hW, hsame⟩ := X38.leave (v := none) (fun _ => rfl)
 refine ⟨_, _, c38 _ ?_, hrun, hended, _, _, rfl, ?_, ⟨_, rfl⟩, hW, hsame.mono (by decide) (by decide)⟩
 ·show S_ p e below T38 m 26 #[vr x_, vr s_, vj j_, .second, vi n_] [] _
  exact X38.returnOut hx Bd.returns (hb hby d15_26) hr
 ·show Q_lwt Z x_ s_ j_ n_ o1_ o2_ i1_ j1_ i2_ o3_ i3_ i4_ h0 n0 _ T38.heap _
  rw [e38]
  exact ⟨rfl, N40, kp42, ((((p5.wr W17).wr W24).wr W31).wr W38), f43, f44, f45, f46, f47⟩
theorem d16_0 : decode prog_15_method_2_code 0 = .ok (.aload_n 0, 1) := by decide +kernel
theorem d16_1 : decode prog_15_method_2_code 1 = .ok (.aconst_null, 1) := by decide +kernel
theorem d16_2 : decode prog_15_method_2_code 2 = .ok (.invokevirtual 13, 3) := by decide +kernel
theorem d16_5 : decode prog_15_method_2_code 5 = .ok (.return_, 1) := by decide +kernel
theorem ef_clear (m : MethodId) (x_ : Addr) : entryFrame m #[(rr x_)] 1 = mkF m 0 #[vr x_] [] := by first | (simp [entryFrame, mkF, argsToLocals, Value.category]; done) | rfl
def Q_clear (Z : State) (x_ : Addr) (o1_ : Value) (o2_ : Value) (i1_ : Int32) (j1_ : Int64) (i2_ : Int32) (h0 : Heap) (n0 : Nat) (v : Option Value) (h : Heap) (L : List Loc) : Prop := v = none ∧ Fr n0 L ∧ Keep h0 h [x_] ∧ Exa Z h x_ nm1 ∧ Fld Z h x_ nm1 "made" nm10 .null ∧ Fld Z h x_ nm1 "read" nm3 .null ∧ Fld Z h x_ nm1 "copiedLength" "I" (ii (-1)) ∧ Fld Z h x_ nm1 "offset" "J" (.long j1_) ∧ Fld Z h x_ nm1 "terminatorLength" "I" (.int i2_)
set_option maxRecDepth 65536 in
set_option maxHeartbeats 40000000 in
theorem rm_clear (l : Launch) (Z : State) (a0 : Array Value) (hw : HW Z a0) (ws : List Jvm.Cond) (x_ : Addr) (o1_ : Value) (o2_ : Value) (i1_ : Int32) (j1_ : Int64) (i2_ : Int32) (h0 : Heap) (n0 : Nat) (O0 : Old Z n0 h0) (E0_ : Exa Z h0 x_ nm1) (G1_ : n0 ≤ x_) (F2_ : Fld Z h0 x_ nm1 "made" nm10 o1_) (F3_ : Fld Z h0 x_ nm1 "read" nm3 o2_) (F4_ : Fld Z h0 x_ nm1 "copiedLength" "I" (.int i1_)) (F5_ : Fld Z h0 x_ nm1 "offset" "J" (.long j1_)) (F6_ : Fld Z h0 x_ nm1 "terminatorLength" "I" (.int i2_)) :
  MFP l Z (⟨nm1, "clear", "()V"⟩ : MethodName) prog_15_method_2_code 1 none ({ frames := 1, cells := 0, slots := 0, locals := 13 } : Room) ws #[(rr x_)] h0 (Q_clear Z x_ o1_ o2_ i1_ j1_ i2_ h0 n0) := by
 refine MetFree.of_bodySF (plainFor_of_name pn_gleaner_LastMatch) hisR ?_
 intro p e s m args below meth c s₁ Bd hml0 hP hK
 obtain ⟨rfl, hZ, hh⟩ := hP
 have hx := Bd.exec
 have hby := Bd.bytes
 have hml : c.maxLocals = 1 := hml0
 have hown : s.vm.findClass nm1 = some m.cls := findClass_of_methodNamed Bd.named
 have hnm := (name_of_methodNamed Bd.named Bd.method).1
 have X0 : Stand p l e ({ frames := 1, cells := 0, slots := 0, locals := 13 } : Room) s m #[(rr x_)] below meth c s₁ [] 0 0 := Stand.of_body Bd
 have e0 : s₁.heap = h0 := by rw [← hh, Bd.state]; rfl
 have N0 := Fr.nil n0
 have kp0 : Keep h0 h0 [x_] := Keep.refl _ _
 have c0 : ∀ t, S_ p e below s₁ m 0 #[vr x_] [] t → Steps p.tables e below (s₁.setTop (entryFrame m #[(rr x_)] 1)) t := fun t k => castTop (ef_clear m x_) k
 generalize s₁.setTop (entryFrame m #[(rr x_)] 1) = st0 at c0 ⊢
 replace c0 : Kt p e below s₁ st0 (mkF m 0 #[vr x_] []) := c0
 have c1 : Kt p e below s₁ st0 (mkF m 2 #[vr x_] [.null, (rr x_)]) := fun t k => by
  refine c0 t ?_
  show S_ p e below s₁ m 0 #[vr x_] [] t
  refine XS.aloadN X0.here hx rfl (hb hby d16_0) rfl rfl ?_
  refine XS.aconstNull X0.here hx rfl (hb hby d16_1) ?_
  exact k
 obtain ⟨_, T2, L2, X2, hQ2, c2⟩ := kvirt X0 hx hZ hown (w88 hw) (w75 hw) (w77 hw) (w76 hw) (w78 hw) (w25 hw) (rm_set5N l Z a0 hw [] x_ o1_ o2_ i1_ j1_ i2_ h0 n0 O0 E0_ G1_ F2_ F3_ F4_ F5_ F6_) e0 E0_ c1 hml pd_pLgleaner_Match_rV [.null] [] 0 (hb hby d16_2) rfl rfl rfl rfl rfl rfl
 obtain ⟨rfl, N3q, K4, p5, p6, p7, p8, p9, p10⟩ := hQ2
 have N3 := Fr.app N0 N3q
 have o11 := O0.keep K4 (allS G1_ all0)
 have kp12 := kp0.trans K4 (allS (Or.inl (List.mem_of_getElem? (i := 0) rfl)) all0)
 obtain ⟨fs, hr, hrun, hended, hW, hsame⟩ := X2.leave (v := none) (fun _ => rfl)
 refine ⟨_, _, c2 _ ?_, hrun, hended, _, _, rfl, ?_, ⟨_, rfl⟩, hW, hsame.mono (by decide) (by decide)⟩
 ·show S_ p e below T2 m 5 #[vr x_] [] _
  exact X2.returnOut hx Bd.returns (hb hby d16_5) hr
 ·show Q_clear Z x_ o1_ o2_ i1_ j1_ i2_ h0 n0 _ T2.heap _
  exact ⟨rfl, N3, kp12, p5, p6, p7, p8, p9, p10⟩
theorem d17_0 : decode prog_15_method_5_code 0 = .ok (.iload_n 3, 1) := by decide +kernel
theorem d17_1 : decode prog_15_method_5_code 1 = .ok (.bipush 64, 2) := by decide +kernel
theorem d17_3 : decode prog_15_method_5_code 3 = .ok (.if_icmp .le 22, 3) := by decide +kernel
theorem d17_25 : decode prog_15_method_5_code 25 = .ok (.aload_n 0, 1) := by decide +kernel
theorem d17_26 : decode prog_15_method_5_code 26 = .ok (.aconst_null, 1) := by decide +kernel
theorem d17_27 : decode prog_15_method_5_code 27 = .ok (.invokevirtual 13, 3) := by decide +kernel
theorem d17_30 : decode prog_15_method_5_code 30 = .ok (.aload_n 0, 1) := by decide +kernel
theorem d17_31 : decode prog_15_method_5_code 31 = .ok (.getfield 41, 3) := by decide +kernel
theorem d17_34 : decode prog_15_method_5_code 34 = .ok (.ifnonnull 11, 3) := by decide +kernel
theorem d17_37 : decode prog_15_method_5_code 37 = .ok (.aload_n 0, 1) := by decide +kernel
theorem d17_38 : decode prog_15_method_5_code 38 = .ok (.bipush 64, 2) := by decide +kernel
theorem d17_40 : decode prog_15_method_5_code 40 = .ok (.newarray .char, 2) := by decide +kernel
theorem d17_42 : decode prog_15_method_5_code 42 = .ok (.putfield 41, 3) := by decide +kernel
theorem d17_45 : decode prog_15_method_5_code 45 = .ok (.aload_n 1, 1) := by decide +kernel
theorem d17_46 : decode prog_15_method_5_code 46 = .ok (.iload_n 2, 1) := by decide +kernel
theorem d17_47 : decode prog_15_method_5_code 47 = .ok (.aload_n 0, 1) := by decide +kernel
theorem d17_48 : decode prog_15_method_5_code 48 = .ok (.getfield 41, 3) := by decide +kernel
theorem d17_51 : decode prog_15_method_5_code 51 = .ok (.iconst 0, 1) := by decide +kernel
theorem d17_52 : decode prog_15_method_5_code 52 = .ok (.iload_n 3, 1) := by decide +kernel
theorem d17_53 : decode prog_15_method_5_code 53 = .ok (.invokestatic 45, 3) := by decide +kernel
theorem d17_56 : decode prog_15_method_5_code 56 = .ok (.aload_n 0, 1) := by decide +kernel
theorem d17_57 : decode prog_15_method_5_code 57 = .ok (.iload_n 3, 1) := by decide +kernel
theorem d17_58 : decode prog_15_method_5_code 58 = .ok (.putfield 7, 3) := by decide +kernel
theorem d17_61 : decode prog_15_method_5_code 61 = .ok (.aload_n 0, 1) := by decide +kernel
theorem d17_62 : decode prog_15_method_5_code 62 = .ok (.lload 4, 2) := by decide +kernel
theorem d17_64 : decode prog_15_method_5_code 64 = .ok (.putfield 25, 3) := by decide +kernel
theorem d17_67 : decode prog_15_method_5_code 67 = .ok (.aload_n 0, 1) := by decide +kernel
theorem d17_68 : decode prog_15_method_5_code 68 = .ok (.iconst (-1), 1) := by decide +kernel
theorem d17_69 : decode prog_15_method_5_code 69 = .ok (.putfield 29, 3) := by decide +kernel
theorem d17_72 : decode prog_15_method_5_code 72 = .ok (.return_, 1) := by decide +kernel
theorem ef_tokC (m : MethodId) (x_ : Addr) (a_ : Addr) (j_ : Int64) : entryFrame m #[(rr x_), (rr a_), (ii 0), (ii 1), (.long j_)] 6 = mkF m 0 #[vr x_, vr a_, vi 0, vi 1, vj j_, .second] [] := by first | (simp [entryFrame, mkF, argsToLocals, Value.category]; done) | rfl
def Q_tokC (Z : State) (x_ : Addr) (a_ : Addr) (ka_ : ClassId) (va_ : List Value) (j_ : Int64) (o1_ : Value) (o2_ : Value) (i1_ : Int32) (j1_ : Int64) (i2_ : Int32) (i3_ : Int32) (i4_ : Int32) (h0 : Heap) (n0 : Nat) (v : Option Value) (h : Heap) (L : List Loc) : Prop := v = none ∧ Fr n0 L ∧ Keep h0 h [x_] ∧ Exa Z h x_ nm1 ∧ Fld Z h x_ nm1 "made" nm10 .null ∧ Fld Z h x_ nm1 "read" nm3 .null ∧ Fld Z h x_ nm1 "copiedLength" "I" (ii 1) ∧ Fld Z h x_ nm1 "offset" "J" (.long j_) ∧ Fld Z h x_ nm1 "terminatorLength" "I" (ii (-1))
set_option maxRecDepth 65536 in
set_option maxHeartbeats 40000000 in
theorem rm_tokC (l : Launch) (Z : State) (a0 : Array Value) (hw : HW Z a0) (ws : List Jvm.Cond) (x_ : Addr) (a_ : Addr) (ka_ : ClassId) (va_ : List Value) (j_ : Int64) (o1_ : Value) (o2_ : Value) (i1_ : Int32) (j1_ : Int64) (i2_ : Int32) (i3_ : Int32) (i4_ : Int32) (h0 : Heap) (n0 : Nat) (O0 : Old Z n0 h0) (E0_ : Exa Z h0 x_ nm1) (G1_ : n0 ≤ x_) (F2_ : Fld Z h0 x_ nm1 "made" nm10 o1_) (F3_ : Fld Z h0 x_ nm1 "read" nm3 o2_) (F4_ : Fld Z h0 x_ nm1 "copiedLength" "I" (.int i1_)) (F5_ : Fld Z h0 x_ nm1 "offset" "J" (.long j1_)) (F6_ : Fld Z h0 x_ nm1 "terminatorLength" "I" (.int i2_)) (F7_ : Fld Z h0 x_ nm1 "copied" "[C" .null) (F8_ : Fld Z h0 x_ nm1 "terminatorStart" "C" (.int i3_)) (F9_ : Fld Z h0 x_ nm1 "terminatorRead" "Z" (.int i4_)) (A10_ : Arv Z h0 a_ ka_ .char (1 : Int32) va_ (ii 0)) :
  MFP l Z (⟨nm1, "token", "([CIIJ)V"⟩ : MethodName) prog_15_method_5_code 6 none ({ frames := 1, cells := 1, slots := 64, locals := 40 } : Room) ws #[(rr x_), (rr a_), (ii 0), (ii 1), (.long j_)] h0 (Q_tokC Z x_ a_ ka_ va_ j_ o1_ o2_ i1_ j1_ i2_ i3_ i4_ h0 n0) := by
 refine MetFree.of_bodySF (plainFor_of_name pn_gleaner_LastMatch) hisR ?_
 intro p e s m args below meth c s₁ Bd hml0 hP hK
 obtain ⟨rfl, hZ, hh⟩ := hP
 have hx := Bd.exec
 have hby := Bd.bytes
 have hml : c.maxLocals = 6 := hml0
 have hown : s.vm.findClass nm1 = some m.cls := findClass_of_methodNamed Bd.named
 have hnm := (name_of_methodNamed Bd.named Bd.method).1
 have X0 : Stand p l e ({ frames := 1, cells := 1, slots := 64, locals := 40 } : Room) s m #[(rr x_), (rr a_), (ii 0), (ii 1), (.long j_)] below meth c s₁ [] 0 0 := Stand.of_body Bd
 have e0 : s₁.heap = h0 := by rw [← hh, Bd.state]; rfl
 have N0 := Fr.nil n0
 have kp0 : Keep h0 h0 [x_] := Keep.refl _ _
 have c0 : ∀ t, S_ p e below s₁ m 0 #[vr x_, vr a_, vi 0, vi 1, vj j_, .second] [] t → Steps p.tables e below (s₁.setTop (entryFrame m #[(rr x_), (rr a_), (ii 0), (ii 1), (.long j_)] 6)) t := fun t k => castTop (ef_tokC m x_ a_ j_) k
 generalize s₁.setTop (entryFrame m #[(rr x_), (rr a_), (ii 0), (ii 1), (.long j_)] 6) = st0 at c0 ⊢
 replace c0 : Kt p e below s₁ st0 (mkF m 0 #[vr x_, vr a_, vi 0, vi 1, vj j_, .second] []) := c0
 have c1 : Kt p e below s₁ st0 (mkF m 27 #[vr x_, vr a_, vi 0, vi 1, vj j_, .second] [.null, (rr x_)]) := fun t k => by
  refine c0 t ?_
  show S_ p e below s₁ m 0 #[vr x_, vr a_, vi 0, vi 1, vj j_, .second] [] t
  refine XS.iloadN X0.here hx rfl (hb hby d17_0) rfl ?_
  refine XS.bipush X0.here hx rfl (hb hby d17_1) ?_
  refine yC X0.here hx rfl 3 25 rfl (hb hby d17_3) rfl rfl ?_
  refine XS.aloadN X0.here hx rfl (hb hby d17_25) rfl rfl ?_
  show S_ p e below s₁ m 26 #[vr x_, vr a_, vi 0, vi 1, vj j_, .second] [(rr x_)] t
  refine XS.aconstNull X0.here hx rfl (hb hby d17_26) ?_
  exact k
 obtain ⟨_, T2, L2, X2, hQ2, c2⟩ := kvirt X0 hx hZ hown (w88 hw) (w75 hw) (w77 hw) (w76 hw) (w78 hw) (w25 hw) (rm_set8N l Z a0 hw [] x_ o1_ o2_ i1_ j1_ i2_ (.null) i3_ i4_ h0 n0 O0 E0_ G1_ F2_ F3_ F4_ F5_ F6_ F7_ F8_ F9_) e0 E0_ c1 hml pd_pLgleaner_Match_rV [.null] [] 0 (hb hby d17_27) rfl rfl rfl rfl rfl rfl
 obtain ⟨rfl, N3q, K4, p5, p6, p7, p8, p9, p10, p11, p12, p13⟩ := hQ2
 have N3 := Fr.app N0 N3q
 have o14 := O0.keep K4 (allS G1_ all0)
 have kp15 := kp0.trans K4 (allS (Or.inl (List.mem_of_getElem? (i := 0) rfl)) all0)
 have c16 : Kt p e below T2 st0 (mkF m 31 #[vr x_, vr a_, vi 0, vi 1, vj j_, .second] [(rr x_)]) := fun t k => by
  refine c2 t ?_
  show S_ p e below T2 m 30 #[vr x_, vr a_, vi 0, vi 1, vj j_, .second] [] t
  refine XS.aloadN X2.here hx rfl (hb hby d17_30) rfl rfl ?_
  exact k
 obtain ⟨T17, X17, e17, c17⟩ := kget X2 hx hZ hown (host := "") (Or.inl (w196 hw)) Via.refl rfl p11 c16 rfl rfl (hb hby d17_31)
 have c18 : Kt p e below T17 st0 (mkF m 40 #[vr x_, vr a_, vi 0, vi 1, vj j_, .second] [(ii 64), (rr x_)]) := fun t k => by
  refine c17 t ?_
  show S_ p e below T17 m 34 #[vr x_, vr a_, vi 0, vi 1, vj j_, .second] [.null] t
  refine XS.ifnonnullNo X17.here hx rfl (hb hby d17_34) rfl ?_
  refine XS.aloadN X17.here hx rfl (hb hby d17_37) rfl rfl ?_
  refine XS.bipush X17.here hx rfl (hb hby d17_38) ?_
  exact k
 obtain ⟨b19, T19, h19, k19, z19, g19, X19, e19, E19, o20, A19, c19⟩ := knewP (aty := .char) X17 hx hZ (w0 hw) e17 c18 rfl (hb hby d17_40) rfl (by decide) 64 (by decide) (by decide) (by decide) (by decide) o14
 have kp22 := kp15.ext E19
 have z23 := Nat.le_trans kp15.1 z19
 have f21 : Arv Z h19 b19 k19 .char (64 : Int32) [(ii 0), (ii 0), (ii 0), (ii 0), (ii 0), (ii 0), (ii 0), (ii 0), (ii 0), (ii 0), (ii 0), (ii 0), (ii 0), (ii 0), (ii 0), (ii 0), (ii 0), (ii 0), (ii 0), (ii 0), (ii 0), (ii 0), (ii 0), (ii 0), (ii 0), (ii 0), (ii 0), (ii 0), (ii 0), (ii 0), (ii 0), (ii 0), (ii 0), (ii 0), (ii 0), (ii 0), (ii 0), (ii 0), (ii 0), (ii 0), (ii 0), (ii 0), (ii 0), (ii 0), (ii 0), (ii 0), (ii 0), (ii 0), (ii 0), (ii 0), (ii 0), (ii 0), (ii 0), (ii 0), (ii 0), (ii 0), (ii 0), (ii 0), (ii 0), (ii 0), (ii 0), (ii 0), (ii 0), (ii 0)] (ii 0) := A19.pad (pad_rep [] (ii 0) 64)
 obtain ⟨T24, h24, X24, e24, W24, f25, o27, N26, c24⟩ := kput X19 hx hZ (.array .char) hown (host := "") (Or.inl (w196 hw)) Via.refl e19 (p11.ext E19) (p5.ext E19) (Or.inl (w197 hw)) (w24 hw) c19 rfl rfl (hb hby d17_42) (by decide) rfl rfl o20 N3 G1_
 have kp28 := kp22.wr W24 (Or.inl (List.mem_of_getElem? (i := 0) rfl))
 have c29 : Kt p e below T24 st0 (mkF m 48 #[vr x_, vr a_, vi 0, vi 1, vj j_, .second] [(rr x_), (ii 0), (rr a_)]) := fun t k => by
  refine c24 t ?_
  show S_ p e below T24 m 45 #[vr x_, vr a_, vi 0, vi 1, vj j_, .second] [] t
  refine XS.aloadN X24.here hx rfl (hb hby d17_45) rfl rfl ?_
  refine XS.iloadN X24.here hx rfl (hb hby d17_46) rfl ?_
  refine XS.aloadN X24.here hx rfl (hb hby d17_47) rfl rfl ?_
  exact k
 obtain ⟨T30, X30, e30, c30⟩ := kget X24 hx hZ hown (host := "") (Or.inl (w196 hw)) Via.refl e24 f25 c29 rfl rfl (hb hby d17_48)
 have q31 := Ne.symm (Exa.neArv E0_ A10_ (w24 hw))
 have q32 := Ne.symm (Nat.ne_of_lt (Nat.lt_of_lt_of_le p5.lt z19))
 have c33 : Kt p e below T30 st0 (mkF m 53 #[vr x_, vr a_, vi 0, vi 1, vj j_, .second] [(ii 1), (ii 0), (rr b19), (ii 0), (rr a_)]) := fun t k => by
  refine c30 t ?_
  show S_ p e below T30 m 51 #[vr x_, vr a_, vi 0, vi 1, vj j_, .second] [(rr b19), (ii 0), (rr a_)] t
  refine XS.iconst X30.here hx rfl (hb hby d17_51) ?_
  refine XS.iloadN X30.here hx rfl (hb hby d17_52) rfl ?_
  exact k
 obtain ⟨T34, h34, L34, X34, e34, K34, o35, N36, c34⟩ := kcopy X30 hx hZ hown (w198 hw) (w201 hw) (w199 hw) (w200 hw) e30 (((A10_.keep K4 (ninS q31 nin0)).ext E19).other W24 q31) (f21.other W24 q32) rfl (sp := (0 : Int32)) (dp := (0 : Int32)) (nn := (1 : Int32)) (by decide) (by decide) (by decide) (by decide) (by decide) (Nat.le_of_ble_eq_true rfl) c33 rfl hml rfl rfl (hb hby d17_53) 0 rfl (by decide) (by decide) o27 N26 g19
 have kp37 := kp28.trans K34 (allS (Or.inr z23) all0)
 have f38 := ((p8.ext E19).other W24 (Or.inr (slot_ne (Or.inl (w31 hw)) (Or.inl (w197 hw)) (by decide) (t := .int) (t' := (.array .char)) (by decide) (by decide)))).keep K34 (ninS q32.symm nin0)
 have c39 : Kt p e below T34 st0 (mkF m 58 #[vr x_, vr a_, vi 0, vi 1, vj j_, .second] [(ii 1), (rr x_)]) := fun t k => by
  refine c34 t ?_
  show S_ p e below T34 m 56 #[vr x_, vr a_, vi 0, vi 1, vj j_, .second] [] t
  refine XS.aloadN X34.here hx rfl (hb hby d17_56) rfl rfl ?_
  refine XS.iloadN X34.here hx rfl (hb hby d17_57) rfl ?_
  exact k
 obtain ⟨T40, h40, X40, e40, W40, f41, o43, N42, c40⟩ := kput X34 hx hZ .int hown (host := "") (Or.inl (w30 hw)) Via.refl e34 f38 (((p5.ext E19).wr W24).keep K34) (Or.inl (w31 hw)) (w24 hw) c39 rfl rfl (hb hby d17_58) (by decide) rfl rfl o35 N36 G1_
 have kp44 := kp37.wr W40 (Or.inl (List.mem_of_getElem? (i := 0) rfl))
 have f45 := (((p9.ext E19).other W24 (Or.inr (slot_ne (Or.inl (w90 hw)) (Or.inl (w197 hw)) (by decide) (t := .long) (t' := (.array .char)) (by decide) (by decide)))).keep K34 (ninS q32.symm nin0)).other W40 (Or.inr (slot_ne (Or.inl (w90 hw)) (Or.inl (w31 hw)) (by decide) (t := .long) (t' := .int) (by decide) (by decide)))
 have c46 : Kt p e below T40 st0 (mkF m 64 #[vr x_, vr a_, vi 0, vi 1, vj j_, .second] [(.long j_), (rr x_)]) := fun t k => by
  refine c40 t ?_
  show S_ p e below T40 m 61 #[vr x_, vr a_, vi 0, vi 1, vj j_, .second] [] t
  refine XS.aloadN X40.here hx rfl (hb hby d17_61) rfl rfl ?_
  refine XS.lload X40.here hx rfl (hb hby d17_62) rfl ?_
  exact k
 obtain ⟨T47, h47, X47, e47, W47, f48, o50, N49, c47⟩ := kput X40 hx hZ .long hown (host := "") (Or.inl (w89 hw)) Via.refl e40 f45 ((((p5.ext E19).wr W24).keep K34).wr W40) (Or.inl (w90 hw)) (w24 hw) c46 rfl rfl (hb hby d17_64) (by decide) rfl rfl o43 N42 G1_
 have kp51 := kp44.wr W47 (Or.inl (List.mem_of_getElem? (i := 0) rfl))
 have f52 := ((((p10.ext E19).other W24 (Or.inr (slot_ne (Or.inl (w92 hw)) (Or.inl (w197 hw)) (by decide) (t := .int) (t' := (.array .char)) (by decide) (by decide)))).keep K34 (ninS q32.symm nin0)).other W40 (Or.inr (slot_ne (Or.inl (w92 hw)) (Or.inl (w31 hw)) (by decide) (t := .int) (t' := .int) (by decide) (by decide)))).other W47 (Or.inr (slot_ne (Or.inl (w92 hw)) (Or.inl (w90 hw)) (by decide) (t := .int) (t' := .long) (by decide) (by decide)))
 have c53 : Kt p e below T47 st0 (mkF m 69 #[vr x_, vr a_, vi 0, vi 1, vj j_, .second] [(ii (-1)), (rr x_)]) := fun t k => by
  refine c47 t ?_
  show S_ p e below T47 m 67 #[vr x_, vr a_, vi 0, vi 1, vj j_, .second] [] t
  refine XS.aloadN X47.here hx rfl (hb hby d17_67) rfl rfl ?_
  refine XS.iconst X47.here hx rfl (hb hby d17_68) ?_
  exact k
 obtain ⟨T54, h54, X54, e54, W54, f55, o57, N56, c54⟩ := kput X47 hx hZ .int hown (host := "") (Or.inl (w91 hw)) Via.refl e47 f52 (((((p5.ext E19).wr W24).keep K34).wr W40).wr W47) (Or.inl (w92 hw)) (w24 hw) c53 rfl rfl (hb hby d17_69) (by decide) rfl rfl o50 N49 G1_
 have kp58 := kp51.wr W54 (Or.inl (List.mem_of_getElem? (i := 0) rfl))
 have f59 := (((((p6.ext E19).other W24 (Or.inr (slot_ne (Or.inl (w80 hw)) (Or.inl (w197 hw)) (by decide) (t := (.object nm2)) (t' := (.array .char)) (by decide) (by decide)))).keep K34 (ninS q32.symm nin0)).other W40 (Or.inr (slot_ne (Or.inl (w80 hw)) (Or.inl (w31 hw)) (by decide) (t := (.object nm2)) (t' := .int) (by decide) (by decide)))).other W47 (Or.inr (slot_ne (Or.inl (w80 hw)) (Or.inl (w90 hw)) (by decide) (t := (.object nm2)) (t' := .long) (by decide) (by decide)))).other W54 (Or.inr (slot_ne (Or.inl (w80 hw)) (Or.inl (w92 hw)) (by decide) (t := (.object nm2)) (t' := .int) (by decide) (by decide)))
 have f60 := (((((p7.ext E19).other W24 (Or.inr (slot_ne (Or.inl (w82 hw)) (Or.inl (w197 hw)) (by decide) (t := (.object nm0)) (t' := (.array .char)) (by decide) (by decide)))).keep K34 (ninS q32.symm nin0)).other W40 (Or.inr (slot_ne (Or.inl (w82 hw)) (Or.inl (w31 hw)) (by decide) (t := (.object nm0)) (t' := .int) (by decide) (by decide)))).other W47 (Or.inr (slot_ne (Or.inl (w82 hw)) (Or.inl (w90 hw)) (by decide) (t := (.object nm0)) (t' := .long) (by decide) (by decide)))).other W54 (Or.inr (slot_ne (Or.inl (w82 hw)) (Or.inl (w92 hw)) (by decide) (t := (.object nm0)) (t' := .int) (by decide) (by decide)))
 have f61 := (f41.other W47 (Or.inr (slot_ne (Or.inl (w31 hw)) (Or.inl (w90 hw)) (by decide) (t := .int) (t' := .long) (by decide) (by decide)))).other W54 (Or.inr (slot_ne (Or.inl (w31 hw)) (Or.inl (w92 hw)) (by decide) (t := .int) (t' := .int) (by decide) (by decide)))
 have f62 := f48.other W54 (Or.inr (slot_ne (Or.inl (w90 hw)) (Or.inl (w92 hw)) (by decide) (t := .long) (t' := .int) (by decide) (by decide)))
 obtain ⟨fs, hr, hrun, hended, hW, hsame⟩ := X54.leave (v := none) (fun _ => rfl)
 refine ⟨_, _, c54 _ ?_, hrun, hended, _, _, rfl, ?_, ⟨_, rfl⟩, hW, hsame.mono (by decide) (by decide)⟩
 ·show S_ p e below T54 m 72 #[vr x_, vr a_, vi 0, vi 1, vj j_, .second] [] _
  exact X54.returnOut hx Bd.returns (hb hby d17_72) hr
 ·show Q_tokC Z x_ a_ ka_ va_ j_ o1_ o2_ i1_ j1_ i2_ i3_ i4_ h0 n0 _ T54.heap _
  rw [e54]
  exact ⟨rfl, N56, kp58, ((((((p5.ext E19).wr W24).keep K34).wr W40).wr W47).wr W54), f59, f60, f61, f62, f55⟩
theorem pn_jdk_internal_util_Preconditions : plainName nm4 = true := by first | (simp [plainName, overriddenIn]; done) | decide +kernel
theorem d18_0 : decode jdk_41_method_12_code 0 = .ok (.iload_n 0, 1) := by decide +kernel
theorem d18_1 : decode jdk_41_method_12_code 1 = .ok (.ifCond .lt 13, 3) := by decide +kernel
theorem d18_4 : decode jdk_41_method_12_code 4 = .ok (.iload_n 0, 1) := by decide +kernel
theorem d18_5 : decode jdk_41_method_12_code 5 = .ok (.iload_n 1, 1) := by decide +kernel
theorem d18_6 : decode jdk_41_method_12_code 6 = .ok (.if_icmp .gt 8, 3) := by decide +kernel
theorem d18_9 : decode jdk_41_method_12_code 9 = .ok (.iload_n 1, 1) := by decide +kernel
theorem d18_10 : decode jdk_41_method_12_code 10 = .ok (.iload_n 2, 1) := by decide +kernel
theorem d18_11 : decode jdk_41_method_12_code 11 = .ok (.if_icmp .le 11, 3) := by decide +kernel
theorem d18_22 : decode jdk_41_method_12_code 22 = .ok (.iload_n 0, 1) := by decide +kernel
theorem d18_23 : decode jdk_41_method_12_code 23 = .ok (.ireturn, 1) := by decide +kernel
theorem ef_cft (m : MethodId) (n_ : Int32) (n_ : Int32) (fm_ : Value) (hfm_ : fm_.isRef = true) : entryFrame m #[(ii 0), (.int n_), (.int n_), fm_] 4 = mkF m 0 #[vi 0, vi n_, vi n_, .val fm_] [] := by (rcases ref_cases hfm_ with rfl | ⟨_, rfl⟩) <;> first | (simp [entryFrame, mkF, argsToLocals, Value.category]; done) | rfl
def Q_cft (Z : State) (n_ : Int32) (fm_ : Value) (h0 : Heap) (n0 : Nat) (v : Option Value) (h : Heap) (L : List Loc) : Prop := v = some (ii 0) ∧ Fr n0 L ∧ h = h0
set_option maxRecDepth 65536 in
set_option maxHeartbeats 40000000 in
theorem rm_cft (l : Launch) (Z : State) (a0 : Array Value) (hw : HW Z a0) (ws : List Jvm.Cond) (n_ : Int32) (fm_ : Value) (h0 : Heap) (n0 : Nat) (O0 : Old Z n0 h0) (hfm_ : fm_.isRef = true) (h1_ : ¬ (n_ < (0 : Int32))) (h2_ : ¬ (n_ < n_)) :
  MFP l Z (⟨nm4, "checkFromToIndex", "(IIILjava/util/function/BiFunction;)I"⟩ : MethodName) jdk_41_method_12_code 4 (some .int) ({ frames := 0, cells := 0, slots := 0, locals := 0 } : Room) ws #[(ii 0), (.int n_), (.int n_), fm_] h0 (Q_cft Z n_ fm_ h0 n0) := by
 refine MetFree.of_bodySF (plainFor_of_name pn_jdk_internal_util_Preconditions) hisR ?_
 intro p e s m args below meth c s₁ Bd hml0 hP hK
 obtain ⟨rfl, hZ, hh⟩ := hP
 have hx := Bd.exec
 have hby := Bd.bytes
 have hml : c.maxLocals = 4 := hml0
 have hown : s.vm.findClass nm4 = some m.cls := findClass_of_methodNamed Bd.named
 have hnm := (name_of_methodNamed Bd.named Bd.method).1
 have X0 : Stand p l e ({ frames := 0, cells := 0, slots := 0, locals := 0 } : Room) s m #[(ii 0), (.int n_), (.int n_), fm_] below meth c s₁ [] 0 0 := Stand.of_body Bd
 have e0 : s₁.heap = h0 := by rw [← hh, Bd.state]; rfl
 have N0 := Fr.nil n0
 have kp0 : Keep h0 h0 [] := Keep.refl _ _
 have c0 : ∀ t, S_ p e below s₁ m 0 #[vi 0, vi n_, vi n_, .val fm_] [] t → Steps p.tables e below (s₁.setTop (entryFrame m #[(ii 0), (.int n_), (.int n_), fm_] 4)) t := fun t k => castTop (ef_cft m n_ n_ fm_ hfm_) k
 generalize s₁.setTop (entryFrame m #[(ii 0), (.int n_), (.int n_), fm_] 4) = st0 at c0 ⊢
 replace c0 : Kt p e below s₁ st0 (mkF m 0 #[vi 0, vi n_, vi n_, .val fm_] []) := c0
 obtain ⟨fs, hr, hrun, hended, hW, hsame⟩ := X0.leave (v := some (ii 0)) (fun h => by rw [Bd.returns] at h; cases h)
 refine ⟨_, _, c0 _ ?_, hrun, hended, _, _, rfl, ?_, ⟨_, rfl⟩, hW, hsame.mono (by decide) (by decide)⟩
 ·show S_ p e below s₁ m 0 #[vi 0, vi n_, vi n_, .val fm_] [] _
  refine XS.iloadN X0.here hx rfl (hb hby d18_0) rfl ?_
  refine XS.ifNo X0.here hx rfl (hb hby d18_1) rfl rfl ?_
  refine XS.iloadN X0.here hx rfl (hb hby d18_4) rfl ?_
  refine XS.iloadN X0.here hx rfl (hb hby d18_5) rfl ?_
  show S_ p e below s₁ m 6 #[vi 0, vi n_, vi n_, .val fm_] [(.int n_), (ii 0)] _
  refine XS.icmpNo X0.here hx rfl (hb hby d18_6) rfl (flt h1_).2.2.1 ?_
  refine XS.iloadN X0.here hx rfl (hb hby d18_9) rfl ?_
  refine XS.iloadN X0.here hx rfl (hb hby d18_10) rfl ?_
  refine yC X0.here hx rfl 11 22 rfl (hb hby d18_11) rfl (flt h2_).2.2.2 ?_
  show S_ p e below s₁ m 22 #[vi 0, vi n_, vi n_, .val fm_] [] _
  refine XS.iloadN X0.here hx rfl (hb hby d18_22) rfl ?_
  show S_ p e below s₁ m 23 #[vi 0, vi n_, vi n_, .val fm_] [(ii 0)] _
  exact retOut X0 hx Bd.returns rfl (Or.inl ⟨rfl, Or.inl rfl, _, rfl⟩) (hb hby d18_23) hr
 ·show Q_cft Z n_ fm_ h0 n0 _ s₁.heap _
  rw [e0]
  exact ⟨rfl, N0, rfl⟩
theorem d19_0 : decode jdk_42_method_158_code 0 = .ok (.iload_n 0, 1) := by decide +kernel
theorem d19_1 : decode jdk_42_method_158_code 1 = .ok (.iload_n 1, 1) := by decide +kernel
theorem d19_2 : decode jdk_42_method_158_code 2 = .ok (.iload_n 2, 1) := by decide +kernel
theorem d19_3 : decode jdk_42_method_158_code 3 = .ok (.getstatic 1053, 3) := by decide +kernel
theorem d19_6 : decode jdk_42_method_158_code 6 = .ok (.invokestatic 1062, 3) := by decide +kernel
theorem pd_pIIILjava_util_function_BiFunction_rI : parseMethodDescriptor "(IIILjava/util/function/BiFunction;)I" = some ⟨[.int, .int, .int, (.object "java/util/function/BiFunction")], some .int⟩ := by decide +kernel
theorem d19_9 : decode jdk_42_method_158_code 9 = .ok (.pop, 1) := by decide +kernel
theorem d19_10 : decode jdk_42_method_158_code 10 = .ok (.return_, 1) := by decide +kernel
theorem ef_cbe (m : MethodId) (n_ : Int32) (n_ : Int32) : entryFrame m #[(ii 0), (.int n_), (.int n_)] 3 = mkF m 0 #[vi 0, vi n_, vi n_] [] := by first | (simp [entryFrame, mkF, argsToLocals, Value.category]; done) | rfl
def Q_cbe (Z : State) (n_ : Int32) (fm_ : Value) (h0 : Heap) (n0 : Nat) (v : Option Value) (h : Heap) (L : List Loc) : Prop := v = none ∧ Fr n0 L ∧ h = h0
set_option maxRecDepth 65536 in
set_option maxHeartbeats 40000000 in
theorem rm_cbe (l : Launch) (Z : State) (a0 : Array Value) (hw : HW Z a0) (ws : List Jvm.Cond) (n_ : Int32) (fm_ : Value) (h0 : Heap) (n0 : Nat) (O0 : Old Z n0 h0) (ZS0_ : Sta Z Z.heap nm4 "SIOOBE_FORMATTER" nm11 fm_) (hfm_ : fm_.isRef = true) (h1_ : ¬ (n_ < (0 : Int32))) (h2_ : ¬ (n_ < n_)) :
  MFP l Z (⟨nm0, "checkBoundsBeginEnd", "(III)V"⟩ : MethodName) jdk_42_method_158_code 3 none ({ frames := 1, cells := 0, slots := 0, locals := 15 } : Room) ws #[(ii 0), (.int n_), (.int n_)] h0 (Q_cbe Z n_ fm_ h0 n0) := by
 refine MetFree.of_bodySF (plainFor_of_name pn_java_lang_String) hisR ?_
 intro p e s m args below meth c s₁ Bd hml0 hP hK
 obtain ⟨rfl, hZ, hh⟩ := hP
 have hx := Bd.exec
 have hby := Bd.bytes
 have hml : c.maxLocals = 3 := hml0
 have hown : s.vm.findClass nm0 = some m.cls := findClass_of_methodNamed Bd.named
 have hnm := (name_of_methodNamed Bd.named Bd.method).1
 have X0 : Stand p l e ({ frames := 1, cells := 0, slots := 0, locals := 15 } : Room) s m #[(ii 0), (.int n_), (.int n_)] below meth c s₁ [] 0 0 := Stand.of_body Bd
 have e0 : s₁.heap = h0 := by rw [← hh, Bd.state]; rfl
 have N0 := Fr.nil n0
 have kp0 : Keep h0 h0 [] := Keep.refl _ _
 have c0 : ∀ t, S_ p e below s₁ m 0 #[vi 0, vi n_, vi n_] [] t → Steps p.tables e below (s₁.setTop (entryFrame m #[(ii 0), (.int n_), (.int n_)] 3)) t := fun t k => castTop (ef_cbe m n_ n_) k
 generalize s₁.setTop (entryFrame m #[(ii 0), (.int n_), (.int n_)] 3) = st0 at c0 ⊢
 replace c0 : Kt p e below s₁ st0 (mkF m 0 #[vi 0, vi n_, vi n_] []) := c0
 have c1 : Kt p e below s₁ st0 (mkF m 3 #[vi 0, vi n_, vi n_] [(.int n_), (.int n_), (ii 0)]) := fun t k => by
  refine c0 t ?_
  show S_ p e below s₁ m 0 #[vi 0, vi n_, vi n_] [] t
  refine XS.iloadN X0.here hx rfl (hb hby d19_0) rfl ?_
  refine XS.iloadN X0.here hx rfl (hb hby d19_1) rfl ?_
  refine XS.iloadN X0.here hx rfl (hb hby d19_2) rfl ?_
  exact k
 obtain ⟨T2, X2, e2, c2⟩ := kgetS X0 hx hZ hown (host := "") (Or.inl (w133 hw)) Via.refl e0 (ZS0_.ext O0.2) c1 rfl (hb hby d19_3)
 obtain ⟨_, T3, L3, X3, hQ3, c3⟩ := kstat X2 hx hZ hown (w135 hw) (w136 hw) (w134 hw) (w137 hw) (rm_cft l Z a0 hw [] n_ fm_ h0 n0 O0 hfm_ h1_ h2_) e2 c2 hml pd_pIIILjava_util_function_BiFunction_rI [(ii 0), (.int n_), (.int n_), fm_] [] 0 (hb hby d19_6) rfl rfl rfl rfl rfl rfl
 obtain ⟨rfl, N4q, K5⟩ := hQ3
 have N4 := Fr.app N0 N4q
 obtain ⟨fs, hr, hrun, hended, hW, hsame⟩ := X3.leave (v := none) (fun _ => rfl)
 refine ⟨_, _, c3 _ ?_, hrun, hended, _, _, rfl, ?_, ⟨_, rfl⟩, hW, hsame.mono (by decide) (by decide)⟩
 ·show S_ p e below T3 m 9 #[vi 0, vi n_, vi n_] [(ii 0)] _
  refine XS.pop X3.here hx rfl (hb hby d19_9) rfl rfl ?_
  show S_ p e below T3 m 10 #[vi 0, vi n_, vi n_] [] _
  exact X3.returnOut hx Bd.returns (hb hby d19_10) hr
 ·show Q_cbe Z n_ fm_ h0 n0 _ T3.heap _
  rw [K5]
  exact ⟨rfl, N4, rfl⟩
theorem d20_0 : decode prog_18_method_12_code 0 = .ok (.aload_n 0, 1) := by decide +kernel
theorem d20_1 : decode prog_18_method_12_code 1 = .ok (.getfield 17, 3) := by decide +kernel
theorem d20_4 : decode prog_18_method_12_code 4 = .ok (.arraylength, 1) := by decide +kernel
theorem d20_5 : decode prog_18_method_12_code 5 = .ok (.iconst 2, 1) := by decide +kernel
theorem d20_6 : decode prog_18_method_12_code 6 = .ok (.idiv, 1) := by decide +kernel
theorem d20_7 : decode prog_18_method_12_code 7 = .ok (.iconst 1, 1) := by decide +kernel
theorem d20_8 : decode prog_18_method_12_code 8 = .ok (.isub, 1) := by decide +kernel
theorem d20_9 : decode prog_18_method_12_code 9 = .ok (.ireturn, 1) := by decide +kernel
theorem ef_gc (m : MethodId) (m_ : Addr) : entryFrame m #[(rr m_)] 1 = mkF m 0 #[vr m_] [] := by first | (simp [entryFrame, mkF, argsToLocals, Value.category]; done) | rfl
def Q_gc (Z : State) (m_ : Addr) (b_ : Addr) (kb_ : ClassId) (vb_ : List Value) (h0 : Heap) (n0 : Nat) (v : Option Value) (h : Heap) (L : List Loc) : Prop := v = some (ii 0) ∧ Fr n0 L ∧ h = h0
set_option maxRecDepth 65536 in
set_option maxHeartbeats 40000000 in
theorem rm_gc (l : Launch) (Z : State) (a0 : Array Value) (hw : HW Z a0) (ws : List Jvm.Cond) (m_ : Addr) (b_ : Addr) (kb_ : ClassId) (vb_ : List Value) (h0 : Heap) (n0 : Nat) (O0 : Old Z n0 h0) (F0_ : Fld Z h0 m_ nm2 "bounds" "[I" (rr b_)) (A1_ : Arv Z h0 b_ kb_ .int (2 : Int32) vb_ (ii 0)) :
  MFP l Z (⟨nm2, "groupCount", "()I"⟩ : MethodName) prog_18_method_12_code 1 (some .int) ({ frames := 0, cells := 0, slots := 0, locals := 0 } : Room) ws #[(rr m_)] h0 (Q_gc Z m_ b_ kb_ vb_ h0 n0) := by
 refine MetFree.of_bodySF (plainFor_of_name pn_gleaner_Match) hisR ?_
 intro p e s m args below meth c s₁ Bd hml0 hP hK
 obtain ⟨rfl, hZ, hh⟩ := hP
 have hx := Bd.exec
 have hby := Bd.bytes
 have hml : c.maxLocals = 1 := hml0
 have hown : s.vm.findClass nm2 = some m.cls := findClass_of_methodNamed Bd.named
 have hnm := (name_of_methodNamed Bd.named Bd.method).1
 have X0 : Stand p l e ({ frames := 0, cells := 0, slots := 0, locals := 0 } : Room) s m #[(rr m_)] below meth c s₁ [] 0 0 := Stand.of_body Bd
 have e0 : s₁.heap = h0 := by rw [← hh, Bd.state]; rfl
 have N0 := Fr.nil n0
 have kp0 : Keep h0 h0 [] := Keep.refl _ _
 have c0 : ∀ t, S_ p e below s₁ m 0 #[vr m_] [] t → Steps p.tables e below (s₁.setTop (entryFrame m #[(rr m_)] 1)) t := fun t k => castTop (ef_gc m m_) k
 generalize s₁.setTop (entryFrame m #[(rr m_)] 1) = st0 at c0 ⊢
 replace c0 : Kt p e below s₁ st0 (mkF m 0 #[vr m_] []) := c0
 have c1 : Kt p e below s₁ st0 (mkF m 1 #[vr m_] [(rr m_)]) := fun t k => by
  refine c0 t ?_
  show S_ p e below s₁ m 0 #[vr m_] [] t
  refine XS.aloadN X0.here hx rfl (hb hby d20_0) rfl rfl ?_
  exact k
 obtain ⟨T2, X2, e2, c2⟩ := kget X0 hx hZ hown (host := "") (Or.inl (w72 hw)) Via.refl e0 F0_ c1 rfl rfl (hb hby d20_1)
 obtain ⟨fs, hr, hrun, hended, hW, hsame⟩ := X2.leave (v := some (ii 0)) (fun h => by rw [Bd.returns] at h; cases h)
 refine ⟨_, _, c2 _ ?_, hrun, hended, _, _, rfl, ?_, ⟨_, rfl⟩, hW, hsame.mono (by decide) (by decide)⟩
 ·show S_ p e below T2 m 4 #[vr m_] [(rr b_)] _
  refine ldLen X2 hx hZ e2 A1_ rfl rfl (hb hby d20_4) ?_
  refine XS.iconst X2.here hx rfl (hb hby d20_5) ?_
  refine XS.idiv X2.here hx rfl (hb hby d20_6) rfl (by decide) ?_
  refine XS.iconst X2.here hx rfl (hb hby d20_7) ?_
  show S_ p e below T2 m 8 #[vr m_] [(ii 1), (ii 1)] _
  refine XS.isub X2.here hx rfl (hb hby d20_8) rfl ?_
  show S_ p e below T2 m 9 #[vr m_] [(ii 0)] _
  exact retOut X2 hx Bd.returns rfl (Or.inl ⟨rfl, Or.inl rfl, _, rfl⟩) (hb hby d20_9) hr
 ·show Q_gc Z m_ b_ kb_ vb_ h0 n0 _ T2.heap _
  rw [e2]
  exact ⟨rfl, N0, rfl⟩
theorem d21_0 : decode prog_18_method_13_code 0 = .ok (.iload_n 1, 1) := by decide +kernel
theorem d21_1 : decode prog_18_method_13_code 1 = .ok (.ifCond .lt 11, 3) := by decide +kernel
theorem d21_4 : decode prog_18_method_13_code 4 = .ok (.iload_n 1, 1) := by decide +kernel
theorem d21_5 : decode prog_18_method_13_code 5 = .ok (.aload_n 0, 1) := by decide +kernel
theorem d21_6 : decode prog_18_method_13_code 6 = .ok (.invokevirtual 81, 3) := by decide +kernel
theorem pd_prI : parseMethodDescriptor "()I" = some ⟨[], some .int⟩ := by decide +kernel
theorem d21_9 : decode prog_18_method_13_code 9 = .ok (.if_icmp .le 17, 3) := by decide +kernel
theorem d21_26 : decode prog_18_method_13_code 26 = .ok (.iconst 2, 1) := by decide +kernel
theorem d21_27 : decode prog_18_method_13_code 27 = .ok (.iload_n 1, 1) := by decide +kernel
theorem d21_28 : decode prog_18_method_13_code 28 = .ok (.imul, 1) := by decide +kernel
theorem d21_29 : decode prog_18_method_13_code 29 = .ok (.ireturn, 1) := by decide +kernel
theorem ef_chk (m : MethodId) (m_ : Addr) : entryFrame m #[(rr m_), (ii 0)] 2 = mkF m 0 #[vr m_, vi 0] [] := by first | (simp [entryFrame, mkF, argsToLocals, Value.category]; done) | rfl
def Q_chk (Z : State) (m_ : Addr) (b_ : Addr) (kb_ : ClassId) (vb_ : List Value) (h0 : Heap) (n0 : Nat) (v : Option Value) (h : Heap) (L : List Loc) : Prop := v = some (ii 0) ∧ Fr n0 L ∧ h = h0
set_option maxRecDepth 65536 in
set_option maxHeartbeats 40000000 in
theorem rm_chk (l : Launch) (Z : State) (a0 : Array Value) (hw : HW Z a0) (ws : List Jvm.Cond) (m_ : Addr) (b_ : Addr) (kb_ : ClassId) (vb_ : List Value) (h0 : Heap) (n0 : Nat) (O0 : Old Z n0 h0) (E0_ : Exa Z h0 m_ nm2) (F1_ : Fld Z h0 m_ nm2 "bounds" "[I" (rr b_)) (A2_ : Arv Z h0 b_ kb_ .int (2 : Int32) vb_ (ii 0)) :
  MFP l Z (⟨nm2, "checked", "(I)I"⟩ : MethodName) prog_18_method_13_code 2 (some .int) ({ frames := 1, cells := 0, slots := 0, locals := 13 } : Room) ws #[(rr m_), (ii 0)] h0 (Q_chk Z m_ b_ kb_ vb_ h0 n0) := by
 refine MetFree.of_bodySF (plainFor_of_name pn_gleaner_Match) hisR ?_
 intro p e s m args below meth c s₁ Bd hml0 hP hK
 obtain ⟨rfl, hZ, hh⟩ := hP
 have hx := Bd.exec
 have hby := Bd.bytes
 have hml : c.maxLocals = 2 := hml0
 have hown : s.vm.findClass nm2 = some m.cls := findClass_of_methodNamed Bd.named
 have hnm := (name_of_methodNamed Bd.named Bd.method).1
 have X0 : Stand p l e ({ frames := 1, cells := 0, slots := 0, locals := 13 } : Room) s m #[(rr m_), (ii 0)] below meth c s₁ [] 0 0 := Stand.of_body Bd
 have e0 : s₁.heap = h0 := by rw [← hh, Bd.state]; rfl
 have N0 := Fr.nil n0
 have kp0 : Keep h0 h0 [] := Keep.refl _ _
 have c0 : ∀ t, S_ p e below s₁ m 0 #[vr m_, vi 0] [] t → Steps p.tables e below (s₁.setTop (entryFrame m #[(rr m_), (ii 0)] 2)) t := fun t k => castTop (ef_chk m m_) k
 generalize s₁.setTop (entryFrame m #[(rr m_), (ii 0)] 2) = st0 at c0 ⊢
 replace c0 : Kt p e below s₁ st0 (mkF m 0 #[vr m_, vi 0] []) := c0
 have c1 : Kt p e below s₁ st0 (mkF m 6 #[vr m_, vi 0] [(rr m_), (ii 0)]) := fun t k => by
  refine c0 t ?_
  show S_ p e below s₁ m 0 #[vr m_, vi 0] [] t
  refine XS.iloadN X0.here hx rfl (hb hby d21_0) rfl ?_
  refine XS.ifNo X0.here hx rfl (hb hby d21_1) rfl rfl ?_
  refine XS.iloadN X0.here hx rfl (hb hby d21_4) rfl ?_
  refine XS.aloadN X0.here hx rfl (hb hby d21_5) rfl rfl ?_
  exact k
 obtain ⟨_, T2, L2, X2, hQ2, c2⟩ := kvirt X0 hx hZ hown (w119 hw) (w120 hw) (w122 hw) (w121 hw) (w123 hw) (w49 hw) (rm_gc l Z a0 hw [] m_ b_ kb_ vb_ h0 n0 O0 F1_ A2_) e0 E0_ c1 hml pd_prI [] [(ii 0)] 1 (hb hby d21_6) rfl rfl rfl rfl rfl rfl
 obtain ⟨rfl, N3q, K4⟩ := hQ2
 have N3 := Fr.app N0 N3q
 obtain ⟨fs, hr, hrun, hended, hW, hsame⟩ := X2.leave (v := some (ii 0)) (fun h => by rw [Bd.returns] at h; cases h)
 refine ⟨_, _, c2 _ ?_, hrun, hended, _, _, rfl, ?_, ⟨_, rfl⟩, hW, hsame.mono (by decide) (by decide)⟩
 ·show S_ p e below T2 m 9 #[vr m_, vi 0] [(ii 0), (ii 0)] _
  refine yC X2.here hx rfl 9 26 rfl (hb hby d21_9) rfl rfl ?_
  refine XS.iconst X2.here hx rfl (hb hby d21_26) ?_
  refine XS.iloadN X2.here hx rfl (hb hby d21_27) rfl ?_
  refine XS.imul X2.here hx rfl (hb hby d21_28) rfl ?_
  show S_ p e below T2 m 29 #[vr m_, vi 0] [(ii 0)] _
  exact retOut X2 hx Bd.returns rfl (Or.inl ⟨rfl, Or.inl rfl, _, rfl⟩) (hb hby d21_29) hr
 ·show Q_chk Z m_ b_ kb_ vb_ h0 n0 _ T2.heap _
  rw [K4]
  exact ⟨rfl, N3, rfl⟩
theorem d22_0 : decode jdk_42_method_66_code 0 = .ok (.aload_n 0, 1) := by decide +kernel
theorem d22_1 : decode jdk_42_method_66_code 1 = .ok (.aload_n 1, 1) := by decide +kernel
theorem d22_2 : decode jdk_42_method_66_code 2 = .ok (.if_acmp .ne 5, 3) := by decide +kernel
theorem d22_5 : decode jdk_42_method_66_code 5 = .ok (.iconst 1, 1) := by decide +kernel
theorem d22_6 : decode jdk_42_method_66_code 6 = .ok (.ireturn, 1) := by decide +kernel
theorem ef_eqs (m : MethodId) (x_ : Addr) (x_ : Addr) : entryFrame m #[(rr x_), (rr x_)] 3 = mkF m 0 #[vr x_, vr x_, u_] [] := by first | (simp [entryFrame, mkF, argsToLocals, Value.category]; done) | rfl
def Q_eqs (Z : State) (x_ : Addr) (h0 : Heap) (n0 : Nat) (v : Option Value) (h : Heap) (L : List Loc) : Prop := v = some (ii 1) ∧ Fr n0 L ∧ h = h0
set_option maxRecDepth 65536 in
set_option maxHeartbeats 40000000 in
theorem rm_eqs (l : Launch) (Z : State) (a0 : Array Value) (hw : HW Z a0) (ws : List Jvm.Cond) (x_ : Addr) (h0 : Heap) (n0 : Nat) (O0 : Old Z n0 h0) :
  MFP l Z (⟨nm0, "equals", "(Ljava/lang/Object;)Z"⟩ : MethodName) jdk_42_method_66_code 3 (some .boolean) ({ frames := 0, cells := 0, slots := 0, locals := 0 } : Room) ws #[(rr x_), (rr x_)] h0 (Q_eqs Z x_ h0 n0) := by
 refine MetFree.of_bodySF (plainFor_of_name pn_java_lang_String) hisR ?_
 intro p e s m args below meth c s₁ Bd hml0 hP hK
 obtain ⟨rfl, hZ, hh⟩ := hP
 have hx := Bd.exec
 have hby := Bd.bytes
 have hml : c.maxLocals = 3 := hml0
 have hown : s.vm.findClass nm0 = some m.cls := findClass_of_methodNamed Bd.named
 have hnm := (name_of_methodNamed Bd.named Bd.method).1
 have X0 : Stand p l e ({ frames := 0, cells := 0, slots := 0, locals := 0 } : Room) s m #[(rr x_), (rr x_)] below meth c s₁ [] 0 0 := Stand.of_body Bd
 have e0 : s₁.heap = h0 := by rw [← hh, Bd.state]; rfl
 have N0 := Fr.nil n0
 have kp0 : Keep h0 h0 [] := Keep.refl _ _
 have c0 : ∀ t, S_ p e below s₁ m 0 #[vr x_, vr x_, u_] [] t → Steps p.tables e below (s₁.setTop (entryFrame m #[(rr x_), (rr x_)] 3)) t := fun t k => castTop (ef_eqs m x_ x_) k
 generalize s₁.setTop (entryFrame m #[(rr x_), (rr x_)] 3) = st0 at c0 ⊢
 replace c0 : Kt p e below s₁ st0 (mkF m 0 #[vr x_, vr x_, u_] []) := c0
 obtain ⟨fs, hr, hrun, hended, hW, hsame⟩ := X0.leave (v := some (ii 1)) (fun h => by rw [Bd.returns] at h; cases h)
 refine ⟨_, _, c0 _ ?_, hrun, hended, _, _, rfl, ?_, ⟨_, rfl⟩, hW, hsame.mono (by decide) (by decide)⟩
 ·show S_ p e below s₁ m 0 #[vr x_, vr x_, u_] [] _
  refine XS.aloadN X0.here hx rfl (hb hby d22_0) rfl rfl ?_
  refine XS.aloadN X0.here hx rfl (hb hby d22_1) rfl rfl ?_
  show S_ p e below s₁ m 2 #[vr x_, vr x_, u_] [(rr x_), (rr x_)] _
  refine Jvm.RoadKit.acmp (g := (mkF m 2 #[vr x_, vr x_, u_] [(rr x_), (rr x_)])) X0 hx rfl rfl rfl (pc0 := 2) (pc' := 5) (same := true) rfl (hb hby d22_2) rfl (decide_eq_true rfl) (by decide) (by decide) ?_
  refine XS.iconst X0.here hx rfl (hb hby d22_5) ?_
  show S_ p e below s₁ m 6 #[vr x_, vr x_, u_] [(ii 1)] _
  exact retN X0 hx (t := .boolean) Bd.returns (by simp) (hb hby d22_6) hr
 ·show Q_eqs Z x_ h0 n0 _ s₁.heap _
  rw [e0]
  exact ⟨rfl, N0, rfl⟩
theorem d23_0 : decode jdk_42_method_54_code 0 = .ok (.aload_n 0, 1) := by decide +kernel
theorem d23_1 : decode jdk_42_method_54_code 1 = .ok (.getfield 9, 3) := by decide +kernel
theorem d23_4 : decode jdk_42_method_54_code 4 = .ok (.arraylength, 1) := by decide +kernel
theorem d23_5 : decode jdk_42_method_54_code 5 = .ok (.aload_n 0, 1) := by decide +kernel
theorem d23_6 : decode jdk_42_method_54_code 6 = .ok (.invokevirtual 335, 3) := by decide +kernel
theorem pd_prB : parseMethodDescriptor "()B" = some ⟨[], some .byte⟩ := by decide +kernel
theorem d23_9 : decode jdk_42_method_54_code 9 = .ok (.ishr, 1) := by decide +kernel
theorem d23_10 : decode jdk_42_method_54_code 10 = .ok (.ireturn, 1) := by decide +kernel
theorem ef_len_0 (m : MethodId) (s_ : Addr) : entryFrame m #[(rr s_)] 1 = mkF m 0 #[vr s_] [] := by first | (simp [entryFrame, mkF, argsToLocals, Value.category]; done) | rfl
def Q_len_0 (Z : State) (s_ : Addr) (bs_ : Addr) (ks_ : ClassId) (vs_ : List Value) (z_ : Int32) (h0 : Heap) (n0 : Nat) (v : Option Value) (h : Heap) (L : List Loc) : Prop := v = some (ii 0) ∧ Fr n0 L ∧ h = h0
set_option maxRecDepth 65536 in
set_option maxHeartbeats 40000000 in
theorem rm_len_0 (l : Launch) (Z : State) (a0 : Array Value) (hw : HW Z a0) (ws : List Jvm.Cond) (s_ : Addr) (bs_ : Addr) (ks_ : ClassId) (vs_ : List Value) (z_ : Int32) (h0 : Heap) (n0 : Nat) (O0 : Old Z n0 h0) (E0_ : Exa Z h0 s_ nm0) (F1_ : Fld Z h0 s_ nm0 "coder" "B" (ii 0)) (F2_ : Fld Z h0 s_ nm0 "value" "[B" (rr bs_)) (A3_ : Arv Z h0 bs_ ks_ .byte (0 : Int32) vs_ (ii 0)) (ZS4_ : Sta Z Z.heap nm0 "COMPACT_STRINGS" "Z" (.int z_)) (hz_ : ¬ (z_ = (0 : Int32))) :
  MFP l Z (⟨nm0, "length", "()I"⟩ : MethodName) jdk_42_method_54_code 1 (some .int) ({ frames := 1, cells := 0, slots := 0, locals := 13 } : Room) ws #[(rr s_)] h0 (Q_len_0 Z s_ bs_ ks_ vs_ z_ h0 n0) := by
 refine MetFree.of_bodySF (plainFor_of_name pn_java_lang_String) hisR ?_
 intro p e s m args below meth c s₁ Bd hml0 hP hK
 obtain ⟨rfl, hZ, hh⟩ := hP
 have hx := Bd.exec
 have hby := Bd.bytes
 have hml : c.maxLocals = 1 := hml0
 have hown : s.vm.findClass nm0 = some m.cls := findClass_of_methodNamed Bd.named
 have hnm := (name_of_methodNamed Bd.named Bd.method).1
 have X0 : Stand p l e ({ frames := 1, cells := 0, slots := 0, locals := 13 } : Room) s m #[(rr s_)] below meth c s₁ [] 0 0 := Stand.of_body Bd
 have e0 : s₁.heap = h0 := by rw [← hh, Bd.state]; rfl
 have N0 := Fr.nil n0
 have kp0 : Keep h0 h0 [] := Keep.refl _ _
 have c0 : ∀ t, S_ p e below s₁ m 0 #[vr s_] [] t → Steps p.tables e below (s₁.setTop (entryFrame m #[(rr s_)] 1)) t := fun t k => castTop (ef_len_0 m s_) k
 generalize s₁.setTop (entryFrame m #[(rr s_)] 1) = st0 at c0 ⊢
 replace c0 : Kt p e below s₁ st0 (mkF m 0 #[vr s_] []) := c0
 have c1 : Kt p e below s₁ st0 (mkF m 1 #[vr s_] [(rr s_)]) := fun t k => by
  refine c0 t ?_
  show S_ p e below s₁ m 0 #[vr s_] [] t
  refine XS.aloadN X0.here hx rfl (hb hby d23_0) rfl rfl ?_
  exact k
 obtain ⟨T2, X2, e2, c2⟩ := kget X0 hx hZ hown (host := "") (Or.inl (w20 hw)) Via.refl e0 F2_ c1 rfl rfl (hb hby d23_1)
 have c3 : Kt p e below T2 st0 (mkF m 6 #[vr s_] [(rr s_), (ii 0)]) := fun t k => by
  refine c2 t ?_
  show S_ p e below T2 m 4 #[vr s_] [(rr bs_)] t
  refine ldLen X2 hx hZ e2 A3_ rfl rfl (hb hby d23_4) ?_
  refine XS.aloadN X2.here hx rfl (hb hby d23_5) rfl rfl ?_
  exact k
 obtain ⟨_, T4, L4, X4, hQ4, c4⟩ := kvirt X2 hx hZ hown (w59 hw) (w60 hw) (w62 hw) (w61 hw) (w63 hw) (w3 hw) (rm_codL l Z a0 hw [] s_ z_ h0 n0 O0 F1_ ZS4_ hz_) e2 E0_ c3 hml pd_prB [] [(ii 0)] 1 (hb hby d23_6) rfl rfl rfl rfl rfl rfl
 obtain ⟨rfl, N5q, K6⟩ := hQ4
 have N5 := Fr.app N0 N5q
 obtain ⟨fs, hr, hrun, hended, hW, hsame⟩ := X4.leave (v := some (ii 0)) (fun h => by rw [Bd.returns] at h; cases h)
 refine ⟨_, _, c4 _ ?_, hrun, hended, _, _, rfl, ?_, ⟨_, rfl⟩, hW, hsame.mono (by decide) (by decide)⟩
 ·show S_ p e below T4 m 9 #[vr s_] [(ii 0), (ii 0)] _
  refine XS.ishr X4.here hx rfl (hb hby d23_9) rfl ?_
  show S_ p e below T4 m 10 #[vr s_] [(ii 0)] _
  exact retOut X4 hx Bd.returns rfl (Or.inl ⟨rfl, Or.inl rfl, _, rfl⟩) (hb hby d23_10) hr
 ·show Q_len_0 Z s_ bs_ ks_ vs_ z_ h0 n0 _ T4.heap _
  rw [K6]
  exact ⟨rfl, N5, rfl⟩
theorem d24_0 : decode prog_18_method_2_code 0 = .ok (.new 8, 3) := by decide +kernel
theorem d24_3 : decode prog_18_method_2_code 3 = .ok (.dup, 1) := by decide +kernel
theorem d24_4 : decode prog_18_method_2_code 4 = .ok (.aload_n 0, 1) := by decide +kernel
theorem d24_5 : decode prog_18_method_2_code 5 = .ok (.lload_n 1, 1) := by decide +kernel
theorem d24_6 : decode prog_18_method_2_code 6 = .ok (.iconst 2, 1) := by decide +kernel
theorem d24_7 : decode prog_18_method_2_code 7 = .ok (.newarray .int, 2) := by decide +kernel
theorem d24_9 : decode prog_18_method_2_code 9 = .ok (.dup, 1) := by decide +kernel
theorem d24_10 : decode prog_18_method_2_code 10 = .ok (.iconst 0, 1) := by decide +kernel
theorem d24_11 : decode prog_18_method_2_code 11 = .ok (.iconst 0, 1) := by decide +kernel
theorem d24_12 : decode prog_18_method_2_code 12 = .ok (.iastore, 1) := by decide +kernel
theorem d24_13 : decode prog_18_method_2_code 13 = .ok (.dup, 1) := by decide +kernel
theorem d24_14 : decode prog_18_method_2_code 14 = .ok (.iconst 1, 1) := by decide +kernel
theorem d24_15 : decode prog_18_method_2_code 15 = .ok (.aload_n 0, 1) := by decide +kernel
theorem d24_16 : decode prog_18_method_2_code 16 = .ok (.invokevirtual 21, 3) := by decide +kernel
theorem d24_19 : decode prog_18_method_2_code 19 = .ok (.iastore, 1) := by decide +kernel
theorem d24_20 : decode prog_18_method_2_code 20 = .ok (.invokespecial 27, 3) := by decide +kernel
theorem pd_pLjava_lang_String_JAIrV : parseMethodDescriptor "(Ljava/lang/String;J[I)V" = some ⟨[(.object nm0), .long, (.array .int)], none⟩ := by decide +kernel
theorem d24_23 : decode prog_18_method_2_code 23 = .ok (.areturn, 1) := by decide +kernel
theorem ef_mof_0 (m : MethodId) (s_ : Addr) (j_ : Int64) : entryFrame m #[(rr s_), (.long j_)] 3 = mkF m 0 #[vr s_, vj j_, .second] [] := by first | (simp [entryFrame, mkF, argsToLocals, Value.category]; done) | rfl
def Q_mof_0 (Z : State) (s_ : Addr) (bs_ : Addr) (ks_ : ClassId) (vs_ : List Value) (z_ : Int32) (j_ : Int64) (h0 : Heap) (n0 : Nat) (v : Option Value) (h : Heap) (L : List Loc) : Prop := ∃ (m_ : Addr), ∃ (b_ : Addr), ∃ (kb_ : ClassId), v = some (rr m_) ∧ Fr n0 L ∧ Keep h0 h [] ∧ Exa Z h m_ nm2 ∧ Fld Z h m_ nm2 "text" nm3 (rr s_) ∧ Fld Z h m_ nm2 "offset" "J" (.long j_) ∧ Fld Z h m_ nm2 "bounds" "[I" (rr b_) ∧ Arv Z h b_ kb_ .int (2 : Int32) [(ii 0), (ii 0)] (ii 0) ∧ n0 ≤ m_ ∧ h0.size ≤ m_ ∧ h0.size ≤ b_
set_option maxRecDepth 65536 in
set_option maxHeartbeats 40000000 in
theorem rm_mof_0 (l : Launch) (Z : State) (a0 : Array Value) (hw : HW Z a0) (ws : List Jvm.Cond) (s_ : Addr) (bs_ : Addr) (ks_ : ClassId) (vs_ : List Value) (z_ : Int32) (j_ : Int64) (h0 : Heap) (n0 : Nat) (O0 : Old Z n0 h0) (E0_ : Exa Z h0 s_ nm0) (F1_ : Fld Z h0 s_ nm0 "coder" "B" (ii 0)) (F2_ : Fld Z h0 s_ nm0 "value" "[B" (rr bs_)) (A3_ : Arv Z h0 bs_ ks_ .byte (0 : Int32) vs_ (ii 0)) (ZS4_ : Sta Z Z.heap nm0 "COMPACT_STRINGS" "Z" (.int z_)) (hz_ : ¬ (z_ = (0 : Int32))) :
  MFP l Z (⟨nm2, "of", nm13⟩ : MethodName) prog_18_method_2_code 3 (some (.object nm2)) ({ frames := 2, cells := 2, slots := 5, locals := 33 } : Room) ws #[(rr s_), (.long j_)] h0 (Q_mof_0 Z s_ bs_ ks_ vs_ z_ j_ h0 n0) := by
 refine MetFree.of_bodySF (plainFor_of_name pn_gleaner_Match) hisR ?_
 intro p e s m args below meth c s₁ Bd hml0 hP hK
 obtain ⟨rfl, hZ, hh⟩ := hP
 have hx := Bd.exec
 have hby := Bd.bytes
 have hml : c.maxLocals = 3 := hml0
 have hown : s.vm.findClass nm2 = some m.cls := findClass_of_methodNamed Bd.named
 have hnm := (name_of_methodNamed Bd.named Bd.method).1
 have X0 : Stand p l e ({ frames := 2, cells := 2, slots := 5, locals := 33 } : Room) s m #[(rr s_), (.long j_)] below meth c s₁ [] 0 0 := Stand.of_body Bd
 have e0 : s₁.heap = h0 := by rw [← hh, Bd.state]; rfl
 have N0 := Fr.nil n0
 have kp0 : Keep h0 h0 [] := Keep.refl _ _
 have c0 : ∀ t, S_ p e below s₁ m 0 #[vr s_, vj j_, .second] [] t → Steps p.tables e below (s₁.setTop (entryFrame m #[(rr s_), (.long j_)] 3)) t := fun t k => castTop (ef_mof_0 m s_ j_) k
 generalize s₁.setTop (entryFrame m #[(rr s_), (.long j_)] 3) = st0 at c0 ⊢
 replace c0 : Kt p e below s₁ st0 (mkF m 0 #[vr s_, vj j_, .second] []) := c0
 obtain ⟨b1, T1, h1, z1, g1, X1, e1, E1, o2, A1, D1, U1, c1⟩ := knew X0 hx hZ hown (w51 hw) (w52 hw) (w49 hw) e0 c0 rfl (hb hby d24_0) (by decide) (by decide) O0
 have kp3 := kp0.ext E1
 have z4 := Nat.le_trans kp0.1 z1
 have c5 : Kt p e below T1 st0 (mkF m 7 #[vr s_, vj j_, .second] [(ii 2), (.long j_), (rr s_), (rr b1), (rr b1)]) := fun t k => by
  refine c1 t ?_
  show S_ p e below T1 m 3 #[vr s_, vj j_, .second] [(rr b1)] t
  refine XS.dup X1.here hx rfl (hb hby d24_3) rfl rfl ?_
  refine XS.aloadN X1.here hx rfl (hb hby d24_4) rfl rfl ?_
  refine XS.lloadN X1.here hx rfl (hb hby d24_5) rfl ?_
  refine XS.iconst X1.here hx rfl (hb hby d24_6) ?_
  exact k
 obtain ⟨b6, T6, h6, k6, z6, g6, X6, e6, E6, o7, A6, c6⟩ := knewP (aty := .int) X1 hx hZ (w53 hw) e1 c5 rfl (hb hby d24_7) rfl (by decide) 2 (by decide) (by decide) (by decide) (by decide) o2
 have kp9 := kp3.ext E6
 have z10 := Nat.le_trans kp3.1 z6
 have f8 : Arv Z h6 b6 k6 .int (2 : Int32) [(ii 0), (ii 0)] (ii 0) := A6.pad (pad_rep [] (ii 0) 2)
 have c11 : Kt p e below T6 st0 (mkF m 12 #[vr s_, vj j_, .second] [(ii 0), (ii 0), (rr b6), (rr b6), (.long j_), (rr s_), (rr b1), (rr b1)]) := fun t k => by
  refine c6 t ?_
  show S_ p e below T6 m 9 #[vr s_, vj j_, .second] [(rr b6), (.long j_), (rr s_), (rr b1), (rr b1)] t
  refine XS.dup X6.here hx rfl (hb hby d24_9) rfl rfl ?_
  refine XS.iconst X6.here hx rfl (hb hby d24_10) ?_
  refine XS.iconst X6.here hx rfl (hb hby d24_11) ?_
  exact k
 obtain ⟨T12, h12, X12, e12, W12, f15, o13, N14, c12⟩ := kstI X6 hx hZ e6 f8 (j := (0 : Int32)) (by decide) (by decide) 0 rfl (Nat.le_of_ble_eq_true rfl) c11 rfl rfl (hb hby d24_12) o7 N0 g6
 have f16 : Arv Z h12 b6 k6 .int (2 : Int32) [(ii 0), (ii 0)] (ii 0) := f15
 have kp17 := kp9.wr W12 (Or.inr z10)
 have q18 := Nat.ne_of_lt (Nat.lt_of_lt_of_le (E0_.ext E1).lt z6)
 have q19 := Nat.ne_of_lt (Nat.lt_of_lt_of_le (A3_.ext E1).lt z6)
 have c20 : Kt p e below T12 st0 (mkF m 16 #[vr s_, vj j_, .second] [(rr s_), (ii 1), (rr b6), (rr b6), (.long j_), (rr s_), (rr b1), (rr b1)]) := fun t k => by
  refine c12 t ?_
  show S_ p e below T12 m 13 #[vr s_, vj j_, .second] [(rr b6), (.long j_), (rr s_), (rr b1), (rr b1)] t
  refine XS.dup X12.here hx rfl (hb hby d24_13) rfl rfl ?_
  refine XS.iconst X12.here hx rfl (hb hby d24_14) ?_
  refine XS.aloadN X12.here hx rfl (hb hby d24_15) rfl rfl ?_
  exact k
 obtain ⟨_, T21, L21, X21, hQ21, c21⟩ := kvirt X12 hx hZ hown (w54 hw) (w55 hw) (w57 hw) (w56 hw) (w58 hw) (w3 hw) (rm_len_0 l Z a0 hw [] s_ bs_ ks_ vs_ z_ h12 n0 o13 (((E0_.ext E1).ext E6).wr W12) (((F1_.ext E1).ext E6).other W12 (Or.inl q18)) (((F2_.ext E1).ext E6).other W12 (Or.inl q18)) (((A3_.ext E1).ext E6).other W12 q19) ZS4_ hz_) e12 (((E0_.ext E1).ext E6).wr W12) c20 hml pd_prI [] [(ii 1), (rr b6), (rr b6), (.long j_), (rr s_), (rr b1), (rr b1)] 8 (hb hby d24_16) rfl rfl rfl rfl rfl rfl
 obtain ⟨rfl, N22q, K23⟩ := hQ21
 have N22 := Fr.app N14 N22q
 obtain ⟨T24, h24, X24, e24, W24, f27, o25, N26, c24⟩ := kstI X21 hx hZ K23 f16 (j := (1 : Int32)) (by decide) (by decide) 1 rfl (Nat.le_of_ble_eq_true rfl) c21 rfl rfl (hb hby d24_19) o13 N22 g6
 have f28 : Arv Z h24 b6 k6 .int (2 : Int32) [(ii 0), (ii 0)] (ii 0) := f27
 have kp29 := kp17.wr W24 (Or.inr z10)
 have q30 := Nat.ne_of_lt (Nat.lt_of_lt_of_le A1.lt z6)
 have f31 := (((show Fld Z h1 b1 nm2 "text" nm3 .null from D1 (Or.inr (w69 hw)) (ty := (.object nm0)) (by decide)).ext E6).other W12 (Or.inl q30)).other W24 (Or.inl q30)
 have f32 := (((show Fld Z h1 b1 nm2 "offset" "J" (.long (0 : Int64)) from D1 (Or.inr (w71 hw)) (ty := .long) (by decide)).ext E6).other W12 (Or.inl q30)).other W24 (Or.inl q30)
 have f33 := (((show Fld Z h1 b1 nm2 "bounds" "[I" .null from D1 (Or.inr (w73 hw)) (ty := (.array .int)) (by decide)).ext E6).other W12 (Or.inl q30)).other W24 (Or.inl q30)
 obtain ⟨_, T34, L34, X34, hQ34, c34⟩ := kspec X24 hx hZ hown (w64 hw) (w65 hw) (w49 hw) (w66 hw) (rm_minit l Z a0 hw [] b1 s_ j_ b6 h24 n0 o25 (((A1.ext E6).wr W12).wr W24) f31 f32 f33 g1) e24 c24 hml pd_pLjava_lang_String_JAIrV b1 [(rr s_), (.long j_), (rr b6)] [(rr b1)] 1 (hb hby d24_20) rfl rfl rfl rfl rfl rfl
 obtain ⟨rfl, N35q, K36, p37, p38, p39, p40⟩ := hQ34
 have N35 := Fr.app N26 N35q
 have o41 := o25.keep K36 (allS g1 all0)
 have kp42 := kp29.trans K36 (allS (Or.inr z4) all0)
 obtain ⟨fs, hr, hrun, hended, hW, hsame⟩ := X34.leave (v := some (rr b1)) (fun h => by rw [Bd.returns] at h; cases h)
 refine ⟨_, _, c34 _ ?_, hrun, hended, _, _, rfl, ?_, ⟨_, rfl⟩, hW, hsame.mono (by decide) (by decide)⟩
 ·show S_ p e below T34 m 23 #[vr s_, vj j_, .second] [(rr b1)] _
  exact retOut X34 hx Bd.returns rfl (Or.inr (Or.inr (Or.inr (Or.inr ⟨rfl, rfl, rfl⟩)))) (hb hby d24_23) hr
 ·show Q_mof_0 Z s_ bs_ ks_ vs_ z_ j_ h0 n0 _ T34.heap _
  exact ⟨b1, b6, k6, rfl, N35, kp42, p37, p38, p39, p40, (f28.keep K36 (ninS q30.symm nin0)), g1, z4, z10⟩
theorem d25_0 : decode prog_15_method_8_code 0 = .ok (.aload_n 0, 1) := by decide +kernel
theorem d25_1 : decode prog_15_method_8_code 1 = .ok (.getfield 7, 3) := by decide +kernel
theorem d25_4 : decode prog_15_method_8_code 4 = .ok (.ifCond .lt 28, 3) := by decide +kernel
theorem d25_32 : decode prog_15_method_8_code 32 = .ok (.aload_n 0, 1) := by decide +kernel
theorem d25_33 : decode prog_15_method_8_code 33 = .ok (.getfield 17, 3) := by decide +kernel
theorem d25_36 : decode prog_15_method_8_code 36 = .ok (.ifnonnull 82, 3) := by decide +kernel
theorem d25_39 : decode prog_15_method_8_code 39 = .ok (.aload_n 0, 1) := by decide +kernel
theorem d25_40 : decode prog_15_method_8_code 40 = .ok (.getfield 21, 3) := by decide +kernel
theorem d25_43 : decode prog_15_method_8_code 43 = .ok (.ifnull 75, 3) := by decide +kernel
theorem d25_46 : decode prog_15_method_8_code 46 = .ok (.aload_n 0, 1) := by decide +kernel
theorem d25_47 : decode prog_15_method_8_code 47 = .ok (.getfield 29, 3) := by decide +kernel
theorem d25_50 : decode prog_15_method_8_code 50 = .ok (.ifCond .ge 21, 3) := by decide +kernel
theorem d25_53 : decode prog_15_method_8_code 53 = .ok (.aload_n 0, 1) := by decide +kernel
theorem d25_54 : decode prog_15_method_8_code 54 = .ok (.aload_n 0, 1) := by decide +kernel
theorem d25_55 : decode prog_15_method_8_code 55 = .ok (.getfield 21, 3) := by decide +kernel
theorem d25_58 : decode prog_15_method_8_code 58 = .ok (.aload_n 0, 1) := by decide +kernel
theorem d25_59 : decode prog_15_method_8_code 59 = .ok (.getfield 25, 3) := by decide +kernel
theorem d25_62 : decode prog_15_method_8_code 62 = .ok (.invokestatic 59, 3) := by decide +kernel
theorem pd_pLjava_lang_String_JrLgleaner_Match_ : parseMethodDescriptor nm13 = some ⟨[(.object nm0), .long], some (.object nm2)⟩ := by decide +kernel
theorem d25_65 : decode prog_15_method_8_code 65 = .ok (.putfield 17, 3) := by decide +kernel
theorem d25_68 : decode prog_15_method_8_code 68 = .ok (.goto 45, 3) := by decide +kernel
theorem d25_113 : decode prog_15_method_8_code 113 = .ok (.aload_n 0, 1) := by decide +kernel
theorem d25_114 : decode prog_15_method_8_code 114 = .ok (.aconst_null, 1) := by decide +kernel
theorem d25_115 : decode prog_15_method_8_code 115 = .ok (.putfield 21, 3) := by decide +kernel
theorem d25_118 : decode prog_15_method_8_code 118 = .ok (.aload_n 0, 1) := by decide +kernel
theorem d25_119 : decode prog_15_method_8_code 119 = .ok (.getfield 17, 3) := by decide +kernel
theorem d25_122 : decode prog_15_method_8_code 122 = .ok (.areturn, 1) := by decide +kernel
theorem ef_get_0 (m : MethodId) (x_ : Addr) : entryFrame m #[(rr x_)] 1 = mkF m 0 #[vr x_] [] := by first | (simp [entryFrame, mkF, argsToLocals, Value.category]; done) | rfl
def Q_get_0 (Z : State) (x_ : Addr) (j_ : Int64) (s_ : Addr) (bs_ : Addr) (ks_ : ClassId) (vs_ : List Value) (z_ : Int32) (h0 : Heap) (n0 : Nat) (v : Option Value) (h : Heap) (L : List Loc) : Prop := ∃ (m_ : Addr), ∃ (b_ : Addr), ∃ (kb_ : ClassId), v = some (rr m_) ∧ Fr n0 L ∧ Keep h0 h [x_] ∧ Exa Z h m_ nm2 ∧ Fld Z h m_ nm2 "text" nm3 (rr s_) ∧ Fld Z h m_ nm2 "offset" "J" (.long j_) ∧ Fld Z h m_ nm2 "bounds" "[I" (rr b_) ∧ Arv Z h b_ kb_ .int (2 : Int32) [(ii 0), (ii 0)] (ii 0) ∧ h0.size ≤ m_ ∧ h0.size ≤ b_
set_option maxRecDepth 65536 in
set_option maxHeartbeats 40000000 in
theorem rm_get_0 (l : Launch) (Z : State) (a0 : Array Value) (hw : HW Z a0) (ws : List Jvm.Cond) (x_ : Addr) (j_ : Int64) (s_ : Addr) (bs_ : Addr) (ks_ : ClassId) (vs_ : List Value) (z_ : Int32) (h0 : Heap) (n0 : Nat) (O0 : Old Z n0 h0) (E0_ : Exa Z h0 x_ nm1) (G1_ : n0 ≤ x_) (F2_ : Fld Z h0 x_ nm1 "made" nm10 .null) (F3_ : Fld Z h0 x_ nm1 "read" nm3 (rr s_)) (F4_ : Fld Z h0 x_ nm1 "copiedLength" "I" (ii (-1))) (F5_ : Fld Z h0 x_ nm1 "offset" "J" (.long j_)) (F6_ : Fld Z h0 x_ nm1 "terminatorLength" "I" (ii (-1))) (E7_ : Exa Z h0 s_ nm0) (F8_ : Fld Z h0 s_ nm0 "coder" "B" (ii 0)) (F9_ : Fld Z h0 s_ nm0 "value" "[B" (rr bs_)) (A10_ : Arv Z h0 bs_ ks_ .byte (0 : Int32) vs_ (ii 0)) (ZS11_ : Sta Z Z.heap nm0 "COMPACT_STRINGS" "Z" (.int z_)) (hz_ : ¬ (z_ = (0 : Int32))) :
  MFP l Z (⟨nm1, "get", "()Lgleaner/Match;"⟩ : MethodName) prog_15_method_8_code 1 (some (.object nm2)) ({ frames := 3, cells := 2, slots := 5, locals := 48 } : Room) ws #[(rr x_)] h0 (Q_get_0 Z x_ j_ s_ bs_ ks_ vs_ z_ h0 n0) := by
 refine MetFree.of_bodySF (plainFor_of_name pn_gleaner_LastMatch) hisR ?_
 intro p e s m args below meth c s₁ Bd hml0 hP hK
 obtain ⟨rfl, hZ, hh⟩ := hP
 have hx := Bd.exec
 have hby := Bd.bytes
 have hml : c.maxLocals = 1 := hml0
 have hown : s.vm.findClass nm1 = some m.cls := findClass_of_methodNamed Bd.named
 have hnm := (name_of_methodNamed Bd.named Bd.method).1
 have X0 : Stand p l e ({ frames := 3, cells := 2, slots := 5, locals := 48 } : Room) s m #[(rr x_)] below meth c s₁ [] 0 0 := Stand.of_body Bd
 have e0 : s₁.heap = h0 := by rw [← hh, Bd.state]; rfl
 have N0 := Fr.nil n0
 have kp0 : Keep h0 h0 [x_] := Keep.refl _ _
 have c0 : ∀ t, S_ p e below s₁ m 0 #[vr x_] [] t → Steps p.tables e below (s₁.setTop (entryFrame m #[(rr x_)] 1)) t := fun t k => castTop (ef_get_0 m x_) k
 generalize s₁.setTop (entryFrame m #[(rr x_)] 1) = st0 at c0 ⊢
 replace c0 : Kt p e below s₁ st0 (mkF m 0 #[vr x_] []) := c0
 have c1 : Kt p e below s₁ st0 (mkF m 1 #[vr x_] [(rr x_)]) := fun t k => by
  refine c0 t ?_
  show S_ p e below s₁ m 0 #[vr x_] [] t
  refine XS.aloadN X0.here hx rfl (hb hby d25_0) rfl rfl ?_
  exact k
 obtain ⟨T2, X2, e2, c2⟩ := kget X0 hx hZ hown (host := "") (Or.inl (w30 hw)) Via.refl e0 F4_ c1 rfl rfl (hb hby d25_1)
 have c3 : Kt p e below T2 st0 (mkF m 33 #[vr x_] [(rr x_)]) := fun t k => by
  refine c2 t ?_
  show S_ p e below T2 m 4 #[vr x_] [(ii (-1))] t
  refine yI X2.here hx rfl 4 32 rfl (hb hby d25_4) rfl rfl ?_
  refine XS.aloadN X2.here hx rfl (hb hby d25_32) rfl rfl ?_
  exact k
 obtain ⟨T4, X4, e4, c4⟩ := kget X2 hx hZ hown (host := "") (Or.inl (w79 hw)) Via.refl e2 F2_ c3 rfl rfl (hb hby d25_33)
 have c5 : Kt p e below T4 st0 (mkF m 40 #[vr x_] [(rr x_)]) := fun t k => by
  refine c4 t ?_
  show S_ p e below T4 m 36 #[vr x_] [.null] t
  refine XS.ifnonnullNo X4.here hx rfl (hb hby d25_36) rfl ?_
  refine XS.aloadN X4.here hx rfl (hb hby d25_39) rfl rfl ?_
  exact k
 obtain ⟨T6, X6, e6, c6⟩ := kget X4 hx hZ hown (host := "") (Or.inl (w81 hw)) Via.refl e4 F3_ c5 rfl rfl (hb hby d25_40)
 have c7 : Kt p e below T6 st0 (mkF m 47 #[vr x_] [(rr x_)]) := fun t k => by
  refine c6 t ?_
  show S_ p e below T6 m 43 #[vr x_] [(rr s_)] t
  refine XS.ifnullNo X6.here hx rfl (hb hby d25_43) rfl ?_
  refine XS.aloadN X6.here hx rfl (hb hby d25_46) rfl rfl ?_
  exact k
 obtain ⟨T8, X8, e8, c8⟩ := kget X6 hx hZ hown (host := "") (Or.inl (w91 hw)) Via.refl e6 F6_ c7 rfl rfl (hb hby d25_47)
 have c9 : Kt p e below T8 st0 (mkF m 55 #[vr x_] [(rr x_), (rr x_)]) := fun t k => by
  refine c8 t ?_
  show S_ p e below T8 m 50 #[vr x_] [(ii (-1))] t
  refine XS.ifNo X8.here hx rfl (hb hby d25_50) rfl rfl ?_
  refine XS.aloadN X8.here hx rfl (hb hby d25_53) rfl rfl ?_
  refine XS.aloadN X8.here hx rfl (hb hby d25_54) rfl rfl ?_
  exact k
 obtain ⟨T10, X10, e10, c10⟩ := kget X8 hx hZ hown (host := "") (Or.inl (w81 hw)) Via.refl e8 F3_ c9 rfl rfl (hb hby d25_55)
 have c11 : Kt p e below T10 st0 (mkF m 59 #[vr x_] [(rr x_), (rr s_), (rr x_)]) := fun t k => by
  refine c10 t ?_
  show S_ p e below T10 m 58 #[vr x_] [(rr s_), (rr x_)] t
  refine XS.aloadN X10.here hx rfl (hb hby d25_58) rfl rfl ?_
  exact k
 obtain ⟨T12, X12, e12, c12⟩ := kget X10 hx hZ hown (host := "") (Or.inl (w89 hw)) Via.refl e10 F5_ c11 rfl rfl (hb hby d25_59)
 obtain ⟨_, T13, L13, X13, hQ13, c13⟩ := kstat X12 hx hZ hown (w98 hw) (w48 hw) (w49 hw) (w50 hw) (rm_mof_0 l Z a0 hw [] s_ bs_ ks_ vs_ z_ j_ h0 n0 O0 E7_ F8_ F9_ A10_ ZS11_ hz_) e12 c12 hml pd_pLjava_lang_String_JrLgleaner_Match_ [(rr s_), (.long j_)] [(rr x_)] 1 (hb hby d25_62) rfl rfl rfl rfl rfl rfl
 obtain ⟨b14, b15, k16, rfl, N17q, K18, p19, p20, p21, p22, p23, p24, p25, p26⟩ := hQ13
 have N17 := Fr.app N0 N17q
 have o27 := O0.keep K18 all0
 have kp28 := kp0.trans K18 all0
 have z29 := Nat.le_trans kp0.1 p25
 have g30 := Nat.le_trans (Nat.le_trans (Nat.le_of_eq O0.1.symm) O0.2.1) p25
 have z31 := Nat.le_trans kp0.1 p26
 have g32 := Nat.le_trans (Nat.le_trans (Nat.le_of_eq O0.1.symm) O0.2.1) p26
 obtain ⟨T33, h33, X33, e33, W33, f34, o36, N35, c33⟩ := kput X13 hx hZ (.object nm2) hown (host := "") (Or.inl (w79 hw)) Via.refl rfl (F2_.keep K18 nin0) (E0_.keep K18) (Or.inl (w80 hw)) (w24 hw) c13 rfl rfl (hb hby d25_65) (by decide) rfl rfl o27 N17 G1_
 have kp37 := kp28.wr W33 (Or.inl (List.mem_of_getElem? (i := 0) rfl))
 have f38 := (F3_.keep K18 nin0).other W33 (Or.inr (slot_ne (Or.inl (w82 hw)) (Or.inl (w80 hw)) (by decide) (t := (.object nm0)) (t' := (.object nm2)) (by decide) (by decide)))
 have c39 : Kt p e below T33 st0 (mkF m 115 #[vr x_] [.null, (rr x_)]) := fun t k => by
  refine c33 t ?_
  show S_ p e below T33 m 68 #[vr x_] [] t
  refine yG X33.here hx rfl 68 113 rfl (hb hby d25_68) ?_
  refine XS.aloadN X33.here hx rfl (hb hby d25_113) rfl rfl ?_
  refine XS.aconstNull X33.here hx rfl (hb hby d25_114) ?_
  exact k
 obtain ⟨T40, h40, X40, e40, W40, f41, o43, N42, c40⟩ := kput X33 hx hZ (.object nm0) hown (host := "") (Or.inl (w81 hw)) Via.refl e33 f38 ((E0_.keep K18).wr W33) (Or.inl (w82 hw)) (w24 hw) c39 rfl rfl (hb hby d25_115) (by decide) rfl rfl o36 N35 G1_
 have kp44 := kp37.wr W40 (Or.inl (List.mem_of_getElem? (i := 0) rfl))
 have f45 := f34.other W40 (Or.inr (slot_ne (Or.inl (w80 hw)) (Or.inl (w82 hw)) (by decide) (t := (.object nm2)) (t' := (.object nm0)) (by decide) (by decide)))
 have c46 : Kt p e below T40 st0 (mkF m 119 #[vr x_] [(rr x_)]) := fun t k => by
  refine c40 t ?_
  show S_ p e below T40 m 118 #[vr x_] [] t
  refine XS.aloadN X40.here hx rfl (hb hby d25_118) rfl rfl ?_
  exact k
 obtain ⟨T47, X47, e47, c47⟩ := kget X40 hx hZ hown (host := "") (Or.inl (w79 hw)) Via.refl e40 f45 c46 rfl rfl (hb hby d25_119)
 have q48 := Ne.symm (Nat.ne_of_lt (Nat.lt_of_lt_of_le E0_.lt p25))
 have q49 := Ne.symm (Nat.ne_of_lt (Nat.lt_of_lt_of_le E0_.lt p26))
 obtain ⟨fs, hr, hrun, hended, hW, hsame⟩ := X47.leave (v := some (rr b14)) (fun h => by rw [Bd.returns] at h; cases h)
 refine ⟨_, _, c47 _ ?_, hrun, hended, _, _, rfl, ?_, ⟨_, rfl⟩, hW, hsame.mono (by decide) (by decide)⟩
 ·show S_ p e below T47 m 122 #[vr x_] [(rr b14)] _
  exact retOut X47 hx Bd.returns rfl (Or.inr (Or.inr (Or.inr (Or.inr ⟨rfl, rfl, rfl⟩)))) (hb hby d25_122) hr
 ·show Q_get_0 Z x_ j_ s_ bs_ ks_ vs_ z_ h0 n0 _ T47.heap _
  rw [e47]
  exact ⟨b14, b15, k16, rfl, N42, kp44, ((p19.wr W33).wr W40), ((p20.other W33 (Or.inl q48)).other W40 (Or.inl q48)), ((p21.other W33 (Or.inl q48)).other W40 (Or.inl q48)), ((p22.other W33 (Or.inl q48)).other W40 (Or.inl q48)), ((p23.other W33 q49).other W40 q49), z29, z31⟩
theorem d26_0 : decode jdk_42_method_92_code 0 = .ok (.aload_n 0, 1) := by decide +kernel
theorem d26_1 : decode jdk_42_method_92_code 1 = .ok (.invokevirtual 505, 3) := by decide +kernel
theorem d26_4 : decode jdk_42_method_92_code 4 = .ok (.istore_n 3, 1) := by decide +kernel
theorem d26_5 : decode jdk_42_method_92_code 5 = .ok (.iload_n 1, 1) := by decide +kernel
theorem d26_6 : decode jdk_42_method_92_code 6 = .ok (.iload_n 2, 1) := by decide +kernel
theorem d26_7 : decode jdk_42_method_92_code 7 = .ok (.iload_n 3, 1) := by decide +kernel
theorem d26_8 : decode jdk_42_method_92_code 8 = .ok (.invokestatic 521, 3) := by decide +kernel
theorem pd_pIIIrV : parseMethodDescriptor "(III)V" = some ⟨[.int, .int, .int], none⟩ := by decide +kernel
theorem d26_11 : decode jdk_42_method_92_code 11 = .ok (.iload_n 1, 1) := by decide +kernel
theorem d26_12 : decode jdk_42_method_92_code 12 = .ok (.ifCond .ne 10, 3) := by decide +kernel
theorem d26_15 : decode jdk_42_method_92_code 15 = .ok (.iload_n 2, 1) := by decide +kernel
theorem d26_16 : decode jdk_42_method_92_code 16 = .ok (.iload_n 3, 1) := by decide +kernel
theorem d26_17 : decode jdk_42_method_92_code 17 = .ok (.if_icmp .ne 5, 3) := by decide +kernel
theorem d26_20 : decode jdk_42_method_92_code 20 = .ok (.aload_n 0, 1) := by decide +kernel
theorem d26_21 : decode jdk_42_method_92_code 21 = .ok (.areturn, 1) := by decide +kernel
theorem ef_sub_0 (m : MethodId) (s_ : Addr) : entryFrame m #[(rr s_), (ii 0), (ii 0)] 5 = mkF m 0 #[vr s_, vi 0, vi 0, u_, u_] [] := by first | (simp [entryFrame, mkF, argsToLocals, Value.category]; done) | rfl
def Q_sub_0 (Z : State) (s_ : Addr) (bs_ : Addr) (ks_ : ClassId) (vs_ : List Value) (z_ : Int32) (fm_ : Value) (h0 : Heap) (n0 : Nat) (v : Option Value) (h : Heap) (L : List Loc) : Prop := v = some (rr s_) ∧ Fr n0 L ∧ h = h0
set_option maxRecDepth 65536 in
set_option maxHeartbeats 40000000 in
theorem rm_sub_0 (l : Launch) (Z : State) (a0 : Array Value) (hw : HW Z a0) (ws : List Jvm.Cond) (s_ : Addr) (bs_ : Addr) (ks_ : ClassId) (vs_ : List Value) (z_ : Int32) (fm_ : Value) (h0 : Heap) (n0 : Nat) (O0 : Old Z n0 h0) (E0_ : Exa Z h0 s_ nm0) (F1_ : Fld Z h0 s_ nm0 "coder" "B" (ii 0)) (F2_ : Fld Z h0 s_ nm0 "value" "[B" (rr bs_)) (A3_ : Arv Z h0 bs_ ks_ .byte (0 : Int32) vs_ (ii 0)) (ZS4_ : Sta Z Z.heap nm0 "COMPACT_STRINGS" "Z" (.int z_)) (hz_ : ¬ (z_ = (0 : Int32))) (ZS6_ : Sta Z Z.heap nm4 "SIOOBE_FORMATTER" nm11 fm_) (hfm_ : fm_.isRef = true) :
  MFP l Z (⟨nm0, "substring", "(II)Ljava/lang/String;"⟩ : MethodName) jdk_42_method_92_code 5 (some (.object nm0)) ({ frames := 2, cells := 0, slots := 0, locals := 29 } : Room) ws #[(rr s_), (ii 0), (ii 0)] h0 (Q_sub_0 Z s_ bs_ ks_ vs_ z_ fm_ h0 n0) := by
 refine MetFree.of_bodySF (plainFor_of_name pn_java_lang_String) hisR ?_
 intro p e s m args below meth c s₁ Bd hml0 hP hK
 obtain ⟨rfl, hZ, hh⟩ := hP
 have hx := Bd.exec
 have hby := Bd.bytes
 have hml : c.maxLocals = 5 := hml0
 have hown : s.vm.findClass nm0 = some m.cls := findClass_of_methodNamed Bd.named
 have hnm := (name_of_methodNamed Bd.named Bd.method).1
 have X0 : Stand p l e ({ frames := 2, cells := 0, slots := 0, locals := 29 } : Room) s m #[(rr s_), (ii 0), (ii 0)] below meth c s₁ [] 0 0 := Stand.of_body Bd
 have e0 : s₁.heap = h0 := by rw [← hh, Bd.state]; rfl
 have N0 := Fr.nil n0
 have kp0 : Keep h0 h0 [] := Keep.refl _ _
 have c0 : ∀ t, S_ p e below s₁ m 0 #[vr s_, vi 0, vi 0, u_, u_] [] t → Steps p.tables e below (s₁.setTop (entryFrame m #[(rr s_), (ii 0), (ii 0)] 5)) t := fun t k => castTop (ef_sub_0 m s_) k
 generalize s₁.setTop (entryFrame m #[(rr s_), (ii 0), (ii 0)] 5) = st0 at c0 ⊢
 replace c0 : Kt p e below s₁ st0 (mkF m 0 #[vr s_, vi 0, vi 0, u_, u_] []) := c0
 have c1 : Kt p e below s₁ st0 (mkF m 1 #[vr s_, vi 0, vi 0, u_, u_] [(rr s_)]) := fun t k => by
  refine c0 t ?_
  show S_ p e below s₁ m 0 #[vr s_, vi 0, vi 0, u_, u_] [] t
  refine XS.aloadN X0.here hx rfl (hb hby d26_0) rfl rfl ?_
  exact k
 obtain ⟨_, T2, L2, X2, hQ2, c2⟩ := kvirt X0 hx hZ hown (w129 hw) (w55 hw) (w57 hw) (w56 hw) (w58 hw) (w3 hw) (rm_len_0 l Z a0 hw [] s_ bs_ ks_ vs_ z_ h0 n0 O0 E0_ F1_ F2_ A3_ ZS4_ hz_) e0 E0_ c1 hml pd_prI [] [] 0 (hb hby d26_1) rfl rfl rfl rfl rfl rfl
 obtain ⟨rfl, N3q, K4⟩ := hQ2
 have N3 := Fr.app N0 N3q
 have c5 : Kt p e below T2 st0 (mkF m 8 #[vr s_, vi 0, vi 0, vi 0, u_] [(ii 0), (ii 0), (ii 0)]) := fun t k => by
  refine c2 t ?_
  show S_ p e below T2 m 4 #[vr s_, vi 0, vi 0, u_, u_] [(ii 0)] t
  refine XS.istoreN X2.here hx rfl (hb hby d26_4) rfl (l' := #[vr s_, vi 0, vi 0, vi 0, u_]) rfl ?_
  refine XS.iloadN X2.here hx rfl (hb hby d26_5) rfl ?_
  refine XS.iloadN X2.here hx rfl (hb hby d26_6) rfl ?_
  refine XS.iloadN X2.here hx rfl (hb hby d26_7) rfl ?_
  exact k
 obtain ⟨_, T6, L6, X6, hQ6, c6⟩ := kstat X2 hx hZ hown (w130 hw) (w131 hw) (w3 hw) (w132 hw) (rm_cbe l Z a0 hw [] (0 : Int32) fm_ h0 n0 O0 ZS6_ hfm_ (by decide) (by decide)) K4 c5 hml pd_pIIIrV [(ii 0), (ii 0), (ii 0)] [] 0 (hb hby d26_8) rfl rfl rfl rfl rfl rfl
 obtain ⟨rfl, N7q, K8⟩ := hQ6
 have N7 := Fr.app N3 N7q
 obtain ⟨fs, hr, hrun, hended, hW, hsame⟩ := X6.leave (v := some (rr s_)) (fun h => by rw [Bd.returns] at h; cases h)
 refine ⟨_, _, c6 _ ?_, hrun, hended, _, _, rfl, ?_, ⟨_, rfl⟩, hW, hsame.mono (by decide) (by decide)⟩
 ·show S_ p e below T6 m 11 #[vr s_, vi 0, vi 0, vi 0, u_] [] _
  refine XS.iloadN X6.here hx rfl (hb hby d26_11) rfl ?_
  refine XS.ifNo X6.here hx rfl (hb hby d26_12) rfl rfl ?_
  refine XS.iloadN X6.here hx rfl (hb hby d26_15) rfl ?_
  refine XS.iloadN X6.here hx rfl (hb hby d26_16) rfl ?_
  show S_ p e below T6 m 17 #[vr s_, vi 0, vi 0, vi 0, u_] [(ii 0), (ii 0)] _
  refine XS.icmpNo X6.here hx rfl (hb hby d26_17) rfl rfl ?_
  refine XS.aloadN X6.here hx rfl (hb hby d26_20) rfl rfl ?_
  show S_ p e below T6 m 21 #[vr s_, vi 0, vi 0, vi 0, u_] [(rr s_)] _
  exact retOut X6 hx Bd.returns rfl (Or.inr (Or.inr (Or.inr (Or.inr ⟨rfl, rfl, rfl⟩)))) (hb hby d26_21) hr
 ·show Q_sub_0 Z s_ bs_ ks_ vs_ z_ fm_ h0 n0 _ T6.heap _
  rw [K8]
  exact ⟨rfl, N7, rfl⟩
theorem d27_0 : decode prog_18_method_11_code 0 = .ok (.aload_n 0, 1) := by decide +kernel
theorem d27_1 : decode prog_18_method_11_code 1 = .ok (.getfield 17, 3) := by decide +kernel
theorem d27_4 : decode prog_18_method_11_code 4 = .ok (.aload_n 0, 1) := by decide +kernel
theorem d27_5 : decode prog_18_method_11_code 5 = .ok (.iload_n 1, 1) := by decide +kernel
theorem d27_6 : decode prog_18_method_11_code 6 = .ok (.invokevirtual 66, 3) := by decide +kernel
theorem pd_pIrI : parseMethodDescriptor "(I)I" = some ⟨[.int], some .int⟩ := by decide +kernel
theorem d27_9 : decode prog_18_method_11_code 9 = .ok (.iaload, 1) := by decide +kernel
theorem d27_10 : decode prog_18_method_11_code 10 = .ok (.istore_n 2, 1) := by decide +kernel
theorem d27_11 : decode prog_18_method_11_code 11 = .ok (.iload_n 2, 1) := by decide +kernel
theorem d27_12 : decode prog_18_method_11_code 12 = .ok (.ifCond .ge 7, 3) := by decide +kernel
theorem d27_19 : decode prog_18_method_11_code 19 = .ok (.aload_n 0, 1) := by decide +kernel
theorem d27_20 : decode prog_18_method_11_code 20 = .ok (.getfield 7, 3) := by decide +kernel
theorem d27_23 : decode prog_18_method_11_code 23 = .ok (.iload_n 2, 1) := by decide +kernel
theorem d27_24 : decode prog_18_method_11_code 24 = .ok (.aload_n 0, 1) := by decide +kernel
theorem d27_25 : decode prog_18_method_11_code 25 = .ok (.getfield 17, 3) := by decide +kernel
theorem d27_28 : decode prog_18_method_11_code 28 = .ok (.iconst 2, 1) := by decide +kernel
theorem d27_29 : decode prog_18_method_11_code 29 = .ok (.iload_n 1, 1) := by decide +kernel
theorem d27_30 : decode prog_18_method_11_code 30 = .ok (.imul, 1) := by decide +kernel
theorem d27_31 : decode prog_18_method_11_code 31 = .ok (.iconst 1, 1) := by decide +kernel
theorem d27_32 : decode prog_18_method_11_code 32 = .ok (.iadd, 1) := by decide +kernel
theorem d27_33 : decode prog_18_method_11_code 33 = .ok (.iaload, 1) := by decide +kernel
theorem d27_34 : decode prog_18_method_11_code 34 = .ok (.invokevirtual 77, 3) := by decide +kernel
theorem pd_pIIrLjava_lang_String_ : parseMethodDescriptor "(II)Ljava/lang/String;" = some ⟨[.int, .int], some (.object nm0)⟩ := by decide +kernel
theorem d27_37 : decode prog_18_method_11_code 37 = .ok (.areturn, 1) := by decide +kernel
theorem ef_grI_0 (m : MethodId) (m_ : Addr) : entryFrame m #[(rr m_), (ii 0)] 3 = mkF m 0 #[vr m_, vi 0, u_] [] := by first | (simp [entryFrame, mkF, argsToLocals, Value.category]; done) | rfl
def Q_grI_0 (Z : State) (m_ : Addr) (b_ : Addr) (kb_ : ClassId) (j_ : Int64) (s_ : Addr) (bs_ : Addr) (ks_ : ClassId) (vs_ : List Value) (z_ : Int32) (fm_ : Value) (h0 : Heap) (n0 : Nat) (v : Option Value) (h : Heap) (L : List Loc) : Prop := v = some (rr s_) ∧ Fr n0 L ∧ h = h0
set_option maxRecDepth 65536 in
set_option maxHeartbeats 40000000 in
theorem rm_grI_0 (l : Launch) (Z : State) (a0 : Array Value) (hw : HW Z a0) (ws : List Jvm.Cond) (m_ : Addr) (b_ : Addr) (kb_ : ClassId) (j_ : Int64) (s_ : Addr) (bs_ : Addr) (ks_ : ClassId) (vs_ : List Value) (z_ : Int32) (fm_ : Value) (h0 : Heap) (n0 : Nat) (O0 : Old Z n0 h0) (E0_ : Exa Z h0 m_ nm2) (F1_ : Fld Z h0 m_ nm2 "text" nm3 (rr s_)) (F2_ : Fld Z h0 m_ nm2 "offset" "J" (.long j_)) (F3_ : Fld Z h0 m_ nm2 "bounds" "[I" (rr b_)) (A4_ : Arv Z h0 b_ kb_ .int (2 : Int32) [(ii 0), (ii 0)] (ii 0)) (E5_ : Exa Z h0 s_ nm0) (F6_ : Fld Z h0 s_ nm0 "coder" "B" (ii 0)) (F7_ : Fld Z h0 s_ nm0 "value" "[B" (rr bs_)) (A8_ : Arv Z h0 bs_ ks_ .byte (0 : Int32) vs_ (ii 0)) (ZS9_ : Sta Z Z.heap nm0 "COMPACT_STRINGS" "Z" (.int z_)) (hz_ : ¬ (z_ = (0 : Int32))) (ZS11_ : Sta Z Z.heap nm4 "SIOOBE_FORMATTER" nm11 fm_) (hfm_ : fm_.isRef = true) :
  MFP l Z (⟨nm2, "group", "(I)Ljava/lang/String;"⟩ : MethodName) prog_18_method_11_code 3 (some (.object nm0)) ({ frames := 3, cells := 0, slots := 0, locals := 45 } : Room) ws #[(rr m_), (ii 0)] h0 (Q_grI_0 Z m_ b_ kb_ j_ s_ bs_ ks_ vs_ z_ fm_ h0 n0) := by
 refine MetFree.of_bodySF (plainFor_of_name pn_gleaner_Match) hisR ?_
 intro p e s m args below meth c s₁ Bd hml0 hP hK
 obtain ⟨rfl, hZ, hh⟩ := hP
 have hx := Bd.exec
 have hby := Bd.bytes
 have hml : c.maxLocals = 3 := hml0
 have hown : s.vm.findClass nm2 = some m.cls := findClass_of_methodNamed Bd.named
 have hnm := (name_of_methodNamed Bd.named Bd.method).1
 have X0 : Stand p l e ({ frames := 3, cells := 0, slots := 0, locals := 45 } : Room) s m #[(rr m_), (ii 0)] below meth c s₁ [] 0 0 := Stand.of_body Bd
 have e0 : s₁.heap = h0 := by rw [← hh, Bd.state]; rfl
 have N0 := Fr.nil n0
 have kp0 : Keep h0 h0 [] := Keep.refl _ _
 have c0 : ∀ t, S_ p e below s₁ m 0 #[vr m_, vi 0, u_] [] t → Steps p.tables e below (s₁.setTop (entryFrame m #[(rr m_), (ii 0)] 3)) t := fun t k => castTop (ef_grI_0 m m_) k
 generalize s₁.setTop (entryFrame m #[(rr m_), (ii 0)] 3) = st0 at c0 ⊢
 replace c0 : Kt p e below s₁ st0 (mkF m 0 #[vr m_, vi 0, u_] []) := c0
 have c1 : Kt p e below s₁ st0 (mkF m 1 #[vr m_, vi 0, u_] [(rr m_)]) := fun t k => by
  refine c0 t ?_
  show S_ p e below s₁ m 0 #[vr m_, vi 0, u_] [] t
  refine XS.aloadN X0.here hx rfl (hb hby d27_0) rfl rfl ?_
  exact k
 obtain ⟨T2, X2, e2, c2⟩ := kget X0 hx hZ hown (host := "") (Or.inl (w72 hw)) Via.refl e0 F3_ c1 rfl rfl (hb hby d27_1)
 have c3 : Kt p e below T2 st0 (mkF m 6 #[vr m_, vi 0, u_] [(ii 0), (rr m_), (rr b_)]) := fun t k => by
  refine c2 t ?_
  show S_ p e below T2 m 4 #[vr m_, vi 0, u_] [(rr b_)] t
  refine XS.aloadN X2.here hx rfl (hb hby d27_4) rfl rfl ?_
  refine XS.iloadN X2.here hx rfl (hb hby d27_5) rfl ?_
  exact k
 obtain ⟨_, T4, L4, X4, hQ4, c4⟩ := kpriv X2 hx hZ hown (w115 hw) (w52 hw) (w117 hw) (w116 hw) (w118 hw) (w49 hw) (rm_chk l Z a0 hw [] m_ b_ kb_ [(ii 0), (ii 0)] h0 n0 O0 E0_ F3_ A4_) e2 E0_ c3 hml pd_pIrI [(ii 0)] [(rr b_)] 1 (hb hby d27_6) rfl rfl rfl rfl rfl rfl
 obtain ⟨rfl, N5q, K6⟩ := hQ4
 have N5 := Fr.app N0 N5q
 have c7 : Kt p e below T4 st0 (mkF m 20 #[vr m_, vi 0, vi 0] [(rr m_)]) := fun t k => by
  refine c4 t ?_
  show S_ p e below T4 m 9 #[vr m_, vi 0, u_] [(ii 0), (rr b_)] t
  refine ldI X4 hx hZ K6 A4_ (v := (ii 0)) (by decide) (by decide) rfl rfl rfl (hb hby d27_9) ?_
  refine XS.istoreN X4.here hx rfl (hb hby d27_10) rfl (l' := #[vr m_, vi 0, vi 0]) rfl ?_
  refine XS.iloadN X4.here hx rfl (hb hby d27_11) rfl ?_
  refine yI X4.here hx rfl 12 19 rfl (hb hby d27_12) rfl rfl ?_
  show S_ p e below T4 m 19 #[vr m_, vi 0, vi 0] [] t
  refine XS.aloadN X4.here hx rfl (hb hby d27_19) rfl rfl ?_
  exact k
 obtain ⟨T8, X8, e8, c8⟩ := kget X4 hx hZ hown (host := "") (Or.inl (w68 hw)) Via.refl K6 F1_ c7 rfl rfl (hb hby d27_20)
 have c9 : Kt p e below T8 st0 (mkF m 25 #[vr m_, vi 0, vi 0] [(rr m_), (ii 0), (rr s_)]) := fun t k => by
  refine c8 t ?_
  show S_ p e below T8 m 23 #[vr m_, vi 0, vi 0] [(rr s_)] t
  refine XS.iloadN X8.here hx rfl (hb hby d27_23) rfl ?_
  refine XS.aloadN X8.here hx rfl (hb hby d27_24) rfl rfl ?_
  exact k
 obtain ⟨T10, X10, e10, c10⟩ := kget X8 hx hZ hown (host := "") (Or.inl (w72 hw)) Via.refl e8 F3_ c9 rfl rfl (hb hby d27_25)
 have c11 : Kt p e below T10 st0 (mkF m 34 #[vr m_, vi 0, vi 0] [(ii 0), (ii 0), (rr s_)]) := fun t k => by
  refine c10 t ?_
  show S_ p e below T10 m 28 #[vr m_, vi 0, vi 0] [(rr b_), (ii 0), (rr s_)] t
  refine XS.iconst X10.here hx rfl (hb hby d27_28) ?_
  refine XS.iloadN X10.here hx rfl (hb hby d27_29) rfl ?_
  refine XS.imul X10.here hx rfl (hb hby d27_30) rfl ?_
  refine XS.iconst X10.here hx rfl (hb hby d27_31) ?_
  show S_ p e below T10 m 32 #[vr m_, vi 0, vi 0] [(ii 1), (ii 0), (rr b_), (ii 0), (rr s_)] t
  refine XS.iadd X10.here hx rfl (hb hby d27_32) rfl ?_
  refine ldI X10 hx hZ e10 A4_ (v := (ii 0)) (by decide) (by decide) rfl rfl rfl (hb hby d27_33) ?_
  exact k
 obtain ⟨_, T12, L12, X12, hQ12, c12⟩ := kvirt X10 hx hZ hown (w124 hw) (w125 hw) (w127 hw) (w126 hw) (w128 hw) (w3 hw) (rm_sub_0 l Z a0 hw [] s_ bs_ ks_ vs_ z_ fm_ h0 n0 O0 E5_ F6_ F7_ A8_ ZS9_ hz_ ZS11_ hfm_) e10 E5_ c11 hml pd_pIIrLjava_lang_String_ [(ii 0), (ii 0)] [] 0 (hb hby d27_34) rfl rfl rfl rfl rfl rfl
 obtain ⟨rfl, N13q, K14⟩ := hQ12
 have N13 := Fr.app N5 N13q
 obtain ⟨fs, hr, hrun, hended, hW, hsame⟩ := X12.leave (v := some (rr s_)) (fun h => by rw [Bd.returns] at h; cases h)
 refine ⟨_, _, c12 _ ?_, hrun, hended, _, _, rfl, ?_, ⟨_, rfl⟩, hW, hsame.mono (by decide) (by decide)⟩
 ·show S_ p e below T12 m 37 #[vr m_, vi 0, vi 0] [(rr s_)] _
  exact retOut X12 hx Bd.returns rfl (Or.inr (Or.inr (Or.inr (Or.inr ⟨rfl, rfl, rfl⟩)))) (hb hby d27_37) hr
 ·show Q_grI_0 Z m_ b_ kb_ j_ s_ bs_ ks_ vs_ z_ fm_ h0 n0 _ T12.heap _
  rw [K14]
  exact ⟨rfl, N13, rfl⟩
theorem d28_0 : decode prog_18_method_10_code 0 = .ok (.aload_n 0, 1) := by decide +kernel
theorem d28_1 : decode prog_18_method_10_code 1 = .ok (.iconst 0, 1) := by decide +kernel
theorem d28_2 : decode prog_18_method_10_code 2 = .ok (.invokevirtual 73, 3) := by decide +kernel
theorem pd_pIrLjava_lang_String_ : parseMethodDescriptor "(I)Ljava/lang/String;" = some ⟨[.int], some (.object nm0)⟩ := by decide +kernel
theorem d28_5 : decode prog_18_method_10_code 5 = .ok (.areturn, 1) := by decide +kernel
theorem ef_gr_0 (m : MethodId) (m_ : Addr) : entryFrame m #[(rr m_)] 1 = mkF m 0 #[vr m_] [] := by first | (simp [entryFrame, mkF, argsToLocals, Value.category]; done) | rfl
def Q_gr_0 (Z : State) (m_ : Addr) (b_ : Addr) (kb_ : ClassId) (j_ : Int64) (s_ : Addr) (bs_ : Addr) (ks_ : ClassId) (vs_ : List Value) (z_ : Int32) (fm_ : Value) (h0 : Heap) (n0 : Nat) (v : Option Value) (h : Heap) (L : List Loc) : Prop := v = some (rr s_) ∧ Fr n0 L ∧ h = h0
set_option maxRecDepth 65536 in
set_option maxHeartbeats 40000000 in
theorem rm_gr_0 (l : Launch) (Z : State) (a0 : Array Value) (hw : HW Z a0) (ws : List Jvm.Cond) (m_ : Addr) (b_ : Addr) (kb_ : ClassId) (j_ : Int64) (s_ : Addr) (bs_ : Addr) (ks_ : ClassId) (vs_ : List Value) (z_ : Int32) (fm_ : Value) (h0 : Heap) (n0 : Nat) (O0 : Old Z n0 h0) (E0_ : Exa Z h0 m_ nm2) (F1_ : Fld Z h0 m_ nm2 "text" nm3 (rr s_)) (F2_ : Fld Z h0 m_ nm2 "offset" "J" (.long j_)) (F3_ : Fld Z h0 m_ nm2 "bounds" "[I" (rr b_)) (A4_ : Arv Z h0 b_ kb_ .int (2 : Int32) [(ii 0), (ii 0)] (ii 0)) (E5_ : Exa Z h0 s_ nm0) (F6_ : Fld Z h0 s_ nm0 "coder" "B" (ii 0)) (F7_ : Fld Z h0 s_ nm0 "value" "[B" (rr bs_)) (A8_ : Arv Z h0 bs_ ks_ .byte (0 : Int32) vs_ (ii 0)) (ZS9_ : Sta Z Z.heap nm0 "COMPACT_STRINGS" "Z" (.int z_)) (hz_ : ¬ (z_ = (0 : Int32))) (ZS11_ : Sta Z Z.heap nm4 "SIOOBE_FORMATTER" nm11 fm_) (hfm_ : fm_.isRef = true) :
  MFP l Z (⟨nm2, "group", "()Ljava/lang/String;"⟩ : MethodName) prog_18_method_10_code 1 (some (.object nm0)) ({ frames := 4, cells := 0, slots := 0, locals := 59 } : Room) ws #[(rr m_)] h0 (Q_gr_0 Z m_ b_ kb_ j_ s_ bs_ ks_ vs_ z_ fm_ h0 n0) := by
 refine MetFree.of_bodySF (plainFor_of_name pn_gleaner_Match) hisR ?_
 intro p e s m args below meth c s₁ Bd hml0 hP hK
 obtain ⟨rfl, hZ, hh⟩ := hP
 have hx := Bd.exec
 have hby := Bd.bytes
 have hml : c.maxLocals = 1 := hml0
 have hown : s.vm.findClass nm2 = some m.cls := findClass_of_methodNamed Bd.named
 have hnm := (name_of_methodNamed Bd.named Bd.method).1
 have X0 : Stand p l e ({ frames := 4, cells := 0, slots := 0, locals := 59 } : Room) s m #[(rr m_)] below meth c s₁ [] 0 0 := Stand.of_body Bd
 have e0 : s₁.heap = h0 := by rw [← hh, Bd.state]; rfl
 have N0 := Fr.nil n0
 have kp0 : Keep h0 h0 [] := Keep.refl _ _
 have c0 : ∀ t, S_ p e below s₁ m 0 #[vr m_] [] t → Steps p.tables e below (s₁.setTop (entryFrame m #[(rr m_)] 1)) t := fun t k => castTop (ef_gr_0 m m_) k
 generalize s₁.setTop (entryFrame m #[(rr m_)] 1) = st0 at c0 ⊢
 replace c0 : Kt p e below s₁ st0 (mkF m 0 #[vr m_] []) := c0
 have c1 : Kt p e below s₁ st0 (mkF m 2 #[vr m_] [(ii 0), (rr m_)]) := fun t k => by
  refine c0 t ?_
  show S_ p e below s₁ m 0 #[vr m_] [] t
  refine XS.aloadN X0.here hx rfl (hb hby d28_0) rfl rfl ?_
  refine XS.iconst X0.here hx rfl (hb hby d28_1) ?_
  exact k
 obtain ⟨_, T2, L2, X2, hQ2, c2⟩ := kvirt X0 hx hZ hown (w110 hw) (w111 hw) (w113 hw) (w112 hw) (w114 hw) (w49 hw) (rm_grI_0 l Z a0 hw [] m_ b_ kb_ j_ s_ bs_ ks_ vs_ z_ fm_ h0 n0 O0 E0_ F1_ F2_ F3_ A4_ E5_ F6_ F7_ A8_ ZS9_ hz_ ZS11_ hfm_) e0 E0_ c1 hml pd_pIrLjava_lang_String_ [(ii 0)] [] 0 (hb hby d28_2) rfl rfl rfl rfl rfl rfl
 obtain ⟨rfl, N3q, K4⟩ := hQ2
 have N3 := Fr.app N0 N3q
 obtain ⟨fs, hr, hrun, hended, hW, hsame⟩ := X2.leave (v := some (rr s_)) (fun h => by rw [Bd.returns] at h; cases h)
 refine ⟨_, _, c2 _ ?_, hrun, hended, _, _, rfl, ?_, ⟨_, rfl⟩, hW, hsame.mono (by decide) (by decide)⟩
 ·show S_ p e below T2 m 5 #[vr m_] [(rr s_)] _
  exact retOut X2 hx Bd.returns rfl (Or.inr (Or.inr (Or.inr (Or.inr ⟨rfl, rfl, rfl⟩)))) (hb hby d28_5) hr
 ·show Q_gr_0 Z m_ b_ kb_ j_ s_ bs_ ks_ vs_ z_ fm_ h0 n0 _ T2.heap _
  rw [K4]
  exact ⟨rfl, N3, rfl⟩
theorem ef_len_1 (m : MethodId) (s_ : Addr) : entryFrame m #[(rr s_)] 1 = mkF m 0 #[vr s_] [] := by first | (simp [entryFrame, mkF, argsToLocals, Value.category]; done) | rfl
def Q_len_1 (Z : State) (s_ : Addr) (bs_ : Addr) (ks_ : ClassId) (vs_ : List Value) (z_ : Int32) (h0 : Heap) (n0 : Nat) (v : Option Value) (h : Heap) (L : List Loc) : Prop := v = some (ii 1) ∧ Fr n0 L ∧ h = h0
set_option maxRecDepth 65536 in
set_option maxHeartbeats 40000000 in
theorem rm_len_1 (l : Launch) (Z : State) (a0 : Array Value) (hw : HW Z a0) (ws : List Jvm.Cond) (s_ : Addr) (bs_ : Addr) (ks_ : ClassId) (vs_ : List Value) (z_ : Int32) (h0 : Heap) (n0 : Nat) (O0 : Old Z n0 h0) (E0_ : Exa Z h0 s_ nm0) (F1_ : Fld Z h0 s_ nm0 "coder" "B" (ii 0)) (F2_ : Fld Z h0 s_ nm0 "value" "[B" (rr bs_)) (A3_ : Arv Z h0 bs_ ks_ .byte (1 : Int32) vs_ (ii 0)) (ZS4_ : Sta Z Z.heap nm0 "COMPACT_STRINGS" "Z" (.int z_)) (hz_ : ¬ (z_ = (0 : Int32))) :
  MFP l Z (⟨nm0, "length", "()I"⟩ : MethodName) jdk_42_method_54_code 1 (some .int) ({ frames := 1, cells := 0, slots := 0, locals := 13 } : Room) ws #[(rr s_)] h0 (Q_len_1 Z s_ bs_ ks_ vs_ z_ h0 n0) := by
 refine MetFree.of_bodySF (plainFor_of_name pn_java_lang_String) hisR ?_
 intro p e s m args below meth c s₁ Bd hml0 hP hK
 obtain ⟨rfl, hZ, hh⟩ := hP
 have hx := Bd.exec
 have hby := Bd.bytes
 have hml : c.maxLocals = 1 := hml0
 have hown : s.vm.findClass nm0 = some m.cls := findClass_of_methodNamed Bd.named
 have hnm := (name_of_methodNamed Bd.named Bd.method).1
 have X0 : Stand p l e ({ frames := 1, cells := 0, slots := 0, locals := 13 } : Room) s m #[(rr s_)] below meth c s₁ [] 0 0 := Stand.of_body Bd
 have e0 : s₁.heap = h0 := by rw [← hh, Bd.state]; rfl
 have N0 := Fr.nil n0
 have kp0 : Keep h0 h0 [] := Keep.refl _ _
 have c0 : ∀ t, S_ p e below s₁ m 0 #[vr s_] [] t → Steps p.tables e below (s₁.setTop (entryFrame m #[(rr s_)] 1)) t := fun t k => castTop (ef_len_1 m s_) k
 generalize s₁.setTop (entryFrame m #[(rr s_)] 1) = st0 at c0 ⊢
 replace c0 : Kt p e below s₁ st0 (mkF m 0 #[vr s_] []) := c0
 have c1 : Kt p e below s₁ st0 (mkF m 1 #[vr s_] [(rr s_)]) := fun t k => by
  refine c0 t ?_
  show S_ p e below s₁ m 0 #[vr s_] [] t
  refine XS.aloadN X0.here hx rfl (hb hby d23_0) rfl rfl ?_
  exact k
 obtain ⟨T2, X2, e2, c2⟩ := kget X0 hx hZ hown (host := "") (Or.inl (w20 hw)) Via.refl e0 F2_ c1 rfl rfl (hb hby d23_1)
 have c3 : Kt p e below T2 st0 (mkF m 6 #[vr s_] [(rr s_), (ii 1)]) := fun t k => by
  refine c2 t ?_
  show S_ p e below T2 m 4 #[vr s_] [(rr bs_)] t
  refine ldLen X2 hx hZ e2 A3_ rfl rfl (hb hby d23_4) ?_
  refine XS.aloadN X2.here hx rfl (hb hby d23_5) rfl rfl ?_
  exact k
 obtain ⟨_, T4, L4, X4, hQ4, c4⟩ := kvirt X2 hx hZ hown (w59 hw) (w60 hw) (w62 hw) (w61 hw) (w63 hw) (w3 hw) (rm_codL l Z a0 hw [] s_ z_ h0 n0 O0 F1_ ZS4_ hz_) e2 E0_ c3 hml pd_prB [] [(ii 1)] 1 (hb hby d23_6) rfl rfl rfl rfl rfl rfl
 obtain ⟨rfl, N5q, K6⟩ := hQ4
 have N5 := Fr.app N0 N5q
 obtain ⟨fs, hr, hrun, hended, hW, hsame⟩ := X4.leave (v := some (ii 1)) (fun h => by rw [Bd.returns] at h; cases h)
 refine ⟨_, _, c4 _ ?_, hrun, hended, _, _, rfl, ?_, ⟨_, rfl⟩, hW, hsame.mono (by decide) (by decide)⟩
 ·show S_ p e below T4 m 9 #[vr s_] [(ii 0), (ii 1)] _
  refine XS.ishr X4.here hx rfl (hb hby d23_9) rfl ?_
  show S_ p e below T4 m 10 #[vr s_] [(ii 1)] _
  exact retOut X4 hx Bd.returns rfl (Or.inl ⟨rfl, Or.inl rfl, _, rfl⟩) (hb hby d23_10) hr
 ·show Q_len_1 Z s_ bs_ ks_ vs_ z_ h0 n0 _ T4.heap _
  rw [K6]
  exact ⟨rfl, N5, rfl⟩
theorem ef_mof_1 (m : MethodId) (s_ : Addr) (j_ : Int64) : entryFrame m #[(rr s_), (.long j_)] 3 = mkF m 0 #[vr s_, vj j_, .second] [] := by first | (simp [entryFrame, mkF, argsToLocals, Value.category]; done) | rfl
def Q_mof_1 (Z : State) (s_ : Addr) (bs_ : Addr) (ks_ : ClassId) (vs_ : List Value) (z_ : Int32) (j_ : Int64) (h0 : Heap) (n0 : Nat) (v : Option Value) (h : Heap) (L : List Loc) : Prop := ∃ (m_ : Addr), ∃ (b_ : Addr), ∃ (kb_ : ClassId), v = some (rr m_) ∧ Fr n0 L ∧ Keep h0 h [] ∧ Exa Z h m_ nm2 ∧ Fld Z h m_ nm2 "text" nm3 (rr s_) ∧ Fld Z h m_ nm2 "offset" "J" (.long j_) ∧ Fld Z h m_ nm2 "bounds" "[I" (rr b_) ∧ Arv Z h b_ kb_ .int (2 : Int32) [(ii 0), (ii 1)] (ii 0) ∧ n0 ≤ m_ ∧ h0.size ≤ m_ ∧ h0.size ≤ b_
set_option maxRecDepth 65536 in
set_option maxHeartbeats 40000000 in
theorem rm_mof_1 (l : Launch) (Z : State) (a0 : Array Value) (hw : HW Z a0) (ws : List Jvm.Cond) (s_ : Addr) (bs_ : Addr) (ks_ : ClassId) (vs_ : List Value) (z_ : Int32) (j_ : Int64) (h0 : Heap) (n0 : Nat) (O0 : Old Z n0 h0) (E0_ : Exa Z h0 s_ nm0) (F1_ : Fld Z h0 s_ nm0 "coder" "B" (ii 0)) (F2_ : Fld Z h0 s_ nm0 "value" "[B" (rr bs_)) (A3_ : Arv Z h0 bs_ ks_ .byte (1 : Int32) vs_ (ii 0)) (ZS4_ : Sta Z Z.heap nm0 "COMPACT_STRINGS" "Z" (.int z_)) (hz_ : ¬ (z_ = (0 : Int32))) :
  MFP l Z (⟨nm2, "of", nm13⟩ : MethodName) prog_18_method_2_code 3 (some (.object nm2)) ({ frames := 2, cells := 2, slots := 5, locals := 33 } : Room) ws #[(rr s_), (.long j_)] h0 (Q_mof_1 Z s_ bs_ ks_ vs_ z_ j_ h0 n0) := by
 refine MetFree.of_bodySF (plainFor_of_name pn_gleaner_Match) hisR ?_
 intro p e s m args below meth c s₁ Bd hml0 hP hK
 obtain ⟨rfl, hZ, hh⟩ := hP
 have hx := Bd.exec
 have hby := Bd.bytes
 have hml : c.maxLocals = 3 := hml0
 have hown : s.vm.findClass nm2 = some m.cls := findClass_of_methodNamed Bd.named
 have hnm := (name_of_methodNamed Bd.named Bd.method).1
 have X0 : Stand p l e ({ frames := 2, cells := 2, slots := 5, locals := 33 } : Room) s m #[(rr s_), (.long j_)] below meth c s₁ [] 0 0 := Stand.of_body Bd
 have e0 : s₁.heap = h0 := by rw [← hh, Bd.state]; rfl
 have N0 := Fr.nil n0
 have kp0 : Keep h0 h0 [] := Keep.refl _ _
 have c0 : ∀ t, S_ p e below s₁ m 0 #[vr s_, vj j_, .second] [] t → Steps p.tables e below (s₁.setTop (entryFrame m #[(rr s_), (.long j_)] 3)) t := fun t k => castTop (ef_mof_1 m s_ j_) k
 generalize s₁.setTop (entryFrame m #[(rr s_), (.long j_)] 3) = st0 at c0 ⊢
 replace c0 : Kt p e below s₁ st0 (mkF m 0 #[vr s_, vj j_, .second] []) := c0
 obtain ⟨b1, T1, h1, z1, g1, X1, e1, E1, o2, A1, D1, U1, c1⟩ := knew X0 hx hZ hown (w51 hw) (w52 hw) (w49 hw) e0 c0 rfl (hb hby d24_0) (by decide) (by decide) O0
 have kp3 := kp0.ext E1
 have z4 := Nat.le_trans kp0.1 z1
 have c5 : Kt p e below T1 st0 (mkF m 7 #[vr s_, vj j_, .second] [(ii 2), (.long j_), (rr s_), (rr b1), (rr b1)]) := fun t k => by
  refine c1 t ?_
  show S_ p e below T1 m 3 #[vr s_, vj j_, .second] [(rr b1)] t
  refine XS.dup X1.here hx rfl (hb hby d24_3) rfl rfl ?_
  refine XS.aloadN X1.here hx rfl (hb hby d24_4) rfl rfl ?_
  refine XS.lloadN X1.here hx rfl (hb hby d24_5) rfl ?_
  refine XS.iconst X1.here hx rfl (hb hby d24_6) ?_
  exact k
 obtain ⟨b6, T6, h6, k6, z6, g6, X6, e6, E6, o7, A6, c6⟩ := knewP (aty := .int) X1 hx hZ (w53 hw) e1 c5 rfl (hb hby d24_7) rfl (by decide) 2 (by decide) (by decide) (by decide) (by decide) o2
 have kp9 := kp3.ext E6
 have z10 := Nat.le_trans kp3.1 z6
 have f8 : Arv Z h6 b6 k6 .int (2 : Int32) [(ii 0), (ii 0)] (ii 0) := A6.pad (pad_rep [] (ii 0) 2)
 have c11 : Kt p e below T6 st0 (mkF m 12 #[vr s_, vj j_, .second] [(ii 0), (ii 0), (rr b6), (rr b6), (.long j_), (rr s_), (rr b1), (rr b1)]) := fun t k => by
  refine c6 t ?_
  show S_ p e below T6 m 9 #[vr s_, vj j_, .second] [(rr b6), (.long j_), (rr s_), (rr b1), (rr b1)] t
  refine XS.dup X6.here hx rfl (hb hby d24_9) rfl rfl ?_
  refine XS.iconst X6.here hx rfl (hb hby d24_10) ?_
  refine XS.iconst X6.here hx rfl (hb hby d24_11) ?_
  exact k
 obtain ⟨T12, h12, X12, e12, W12, f15, o13, N14, c12⟩ := kstI X6 hx hZ e6 f8 (j := (0 : Int32)) (by decide) (by decide) 0 rfl (Nat.le_of_ble_eq_true rfl) c11 rfl rfl (hb hby d24_12) o7 N0 g6
 have f16 : Arv Z h12 b6 k6 .int (2 : Int32) [(ii 0), (ii 0)] (ii 0) := f15
 have kp17 := kp9.wr W12 (Or.inr z10)
 have q18 := Nat.ne_of_lt (Nat.lt_of_lt_of_le (E0_.ext E1).lt z6)
 have q19 := Nat.ne_of_lt (Nat.lt_of_lt_of_le (A3_.ext E1).lt z6)
 have c20 : Kt p e below T12 st0 (mkF m 16 #[vr s_, vj j_, .second] [(rr s_), (ii 1), (rr b6), (rr b6), (.long j_), (rr s_), (rr b1), (rr b1)]) := fun t k => by
  refine c12 t ?_
  show S_ p e below T12 m 13 #[vr s_, vj j_, .second] [(rr b6), (.long j_), (rr s_), (rr b1), (rr b1)] t
  refine XS.dup X12.here hx rfl (hb hby d24_13) rfl rfl ?_
  refine XS.iconst X12.here hx rfl (hb hby d24_14) ?_
  refine XS.aloadN X12.here hx rfl (hb hby d24_15) rfl rfl ?_
  exact k
 obtain ⟨_, T21, L21, X21, hQ21, c21⟩ := kvirt X12 hx hZ hown (w54 hw) (w55 hw) (w57 hw) (w56 hw) (w58 hw) (w3 hw) (rm_len_1 l Z a0 hw [] s_ bs_ ks_ vs_ z_ h12 n0 o13 (((E0_.ext E1).ext E6).wr W12) (((F1_.ext E1).ext E6).other W12 (Or.inl q18)) (((F2_.ext E1).ext E6).other W12 (Or.inl q18)) (((A3_.ext E1).ext E6).other W12 q19) ZS4_ hz_) e12 (((E0_.ext E1).ext E6).wr W12) c20 hml pd_prI [] [(ii 1), (rr b6), (rr b6), (.long j_), (rr s_), (rr b1), (rr b1)] 8 (hb hby d24_16) rfl rfl rfl rfl rfl rfl
 obtain ⟨rfl, N22q, K23⟩ := hQ21
 have N22 := Fr.app N14 N22q
 obtain ⟨T24, h24, X24, e24, W24, f27, o25, N26, c24⟩ := kstI X21 hx hZ K23 f16 (j := (1 : Int32)) (by decide) (by decide) 1 rfl (Nat.le_of_ble_eq_true rfl) c21 rfl rfl (hb hby d24_19) o13 N22 g6
 have f28 : Arv Z h24 b6 k6 .int (2 : Int32) [(ii 0), (ii 1)] (ii 0) := f27
 have kp29 := kp17.wr W24 (Or.inr z10)
 have q30 := Nat.ne_of_lt (Nat.lt_of_lt_of_le A1.lt z6)
 have f31 := (((show Fld Z h1 b1 nm2 "text" nm3 .null from D1 (Or.inr (w69 hw)) (ty := (.object nm0)) (by decide)).ext E6).other W12 (Or.inl q30)).other W24 (Or.inl q30)
 have f32 := (((show Fld Z h1 b1 nm2 "offset" "J" (.long (0 : Int64)) from D1 (Or.inr (w71 hw)) (ty := .long) (by decide)).ext E6).other W12 (Or.inl q30)).other W24 (Or.inl q30)
 have f33 := (((show Fld Z h1 b1 nm2 "bounds" "[I" .null from D1 (Or.inr (w73 hw)) (ty := (.array .int)) (by decide)).ext E6).other W12 (Or.inl q30)).other W24 (Or.inl q30)
 obtain ⟨_, T34, L34, X34, hQ34, c34⟩ := kspec X24 hx hZ hown (w64 hw) (w65 hw) (w49 hw) (w66 hw) (rm_minit l Z a0 hw [] b1 s_ j_ b6 h24 n0 o25 (((A1.ext E6).wr W12).wr W24) f31 f32 f33 g1) e24 c24 hml pd_pLjava_lang_String_JAIrV b1 [(rr s_), (.long j_), (rr b6)] [(rr b1)] 1 (hb hby d24_20) rfl rfl rfl rfl rfl rfl
 obtain ⟨rfl, N35q, K36, p37, p38, p39, p40⟩ := hQ34
 have N35 := Fr.app N26 N35q
 have o41 := o25.keep K36 (allS g1 all0)
 have kp42 := kp29.trans K36 (allS (Or.inr z4) all0)
 obtain ⟨fs, hr, hrun, hended, hW, hsame⟩ := X34.leave (v := some (rr b1)) (fun h => by rw [Bd.returns] at h; cases h)
 refine ⟨_, _, c34 _ ?_, hrun, hended, _, _, rfl, ?_, ⟨_, rfl⟩, hW, hsame.mono (by decide) (by decide)⟩
 ·show S_ p e below T34 m 23 #[vr s_, vj j_, .second] [(rr b1)] _
  exact retOut X34 hx Bd.returns rfl (Or.inr (Or.inr (Or.inr (Or.inr ⟨rfl, rfl, rfl⟩)))) (hb hby d24_23) hr
 ·show Q_mof_1 Z s_ bs_ ks_ vs_ z_ j_ h0 n0 _ T34.heap _
  exact ⟨b1, b6, k6, rfl, N35, kp42, p37, p38, p39, p40, (f28.keep K36 (ninS q30.symm nin0)), g1, z4, z10⟩
theorem ef_get_1 (m : MethodId) (x_ : Addr) : entryFrame m #[(rr x_)] 1 = mkF m 0 #[vr x_] [] := by first | (simp [entryFrame, mkF, argsToLocals, Value.category]; done) | rfl
def Q_get_1 (Z : State) (x_ : Addr) (j_ : Int64) (s_ : Addr) (bs_ : Addr) (ks_ : ClassId) (vs_ : List Value) (z_ : Int32) (h0 : Heap) (n0 : Nat) (v : Option Value) (h : Heap) (L : List Loc) : Prop := ∃ (m_ : Addr), ∃ (b_ : Addr), ∃ (kb_ : ClassId), v = some (rr m_) ∧ Fr n0 L ∧ Keep h0 h [x_] ∧ Exa Z h m_ nm2 ∧ Fld Z h m_ nm2 "text" nm3 (rr s_) ∧ Fld Z h m_ nm2 "offset" "J" (.long j_) ∧ Fld Z h m_ nm2 "bounds" "[I" (rr b_) ∧ Arv Z h b_ kb_ .int (2 : Int32) [(ii 0), (ii 1)] (ii 0) ∧ h0.size ≤ m_ ∧ h0.size ≤ b_
set_option maxRecDepth 65536 in
set_option maxHeartbeats 40000000 in
theorem rm_get_1 (l : Launch) (Z : State) (a0 : Array Value) (hw : HW Z a0) (ws : List Jvm.Cond) (x_ : Addr) (j_ : Int64) (s_ : Addr) (bs_ : Addr) (ks_ : ClassId) (vs_ : List Value) (z_ : Int32) (h0 : Heap) (n0 : Nat) (O0 : Old Z n0 h0) (E0_ : Exa Z h0 x_ nm1) (G1_ : n0 ≤ x_) (F2_ : Fld Z h0 x_ nm1 "made" nm10 .null) (F3_ : Fld Z h0 x_ nm1 "read" nm3 (rr s_)) (F4_ : Fld Z h0 x_ nm1 "copiedLength" "I" (ii (-1))) (F5_ : Fld Z h0 x_ nm1 "offset" "J" (.long j_)) (F6_ : Fld Z h0 x_ nm1 "terminatorLength" "I" (ii (-1))) (E7_ : Exa Z h0 s_ nm0) (F8_ : Fld Z h0 s_ nm0 "coder" "B" (ii 0)) (F9_ : Fld Z h0 s_ nm0 "value" "[B" (rr bs_)) (A10_ : Arv Z h0 bs_ ks_ .byte (1 : Int32) vs_ (ii 0)) (ZS11_ : Sta Z Z.heap nm0 "COMPACT_STRINGS" "Z" (.int z_)) (hz_ : ¬ (z_ = (0 : Int32))) :
  MFP l Z (⟨nm1, "get", "()Lgleaner/Match;"⟩ : MethodName) prog_15_method_8_code 1 (some (.object nm2)) ({ frames := 3, cells := 2, slots := 5, locals := 48 } : Room) ws #[(rr x_)] h0 (Q_get_1 Z x_ j_ s_ bs_ ks_ vs_ z_ h0 n0) := by
 refine MetFree.of_bodySF (plainFor_of_name pn_gleaner_LastMatch) hisR ?_
 intro p e s m args below meth c s₁ Bd hml0 hP hK
 obtain ⟨rfl, hZ, hh⟩ := hP
 have hx := Bd.exec
 have hby := Bd.bytes
 have hml : c.maxLocals = 1 := hml0
 have hown : s.vm.findClass nm1 = some m.cls := findClass_of_methodNamed Bd.named
 have hnm := (name_of_methodNamed Bd.named Bd.method).1
 have X0 : Stand p l e ({ frames := 3, cells := 2, slots := 5, locals := 48 } : Room) s m #[(rr x_)] below meth c s₁ [] 0 0 := Stand.of_body Bd
 have e0 : s₁.heap = h0 := by rw [← hh, Bd.state]; rfl
 have N0 := Fr.nil n0
 have kp0 : Keep h0 h0 [x_] := Keep.refl _ _
 have c0 : ∀ t, S_ p e below s₁ m 0 #[vr x_] [] t → Steps p.tables e below (s₁.setTop (entryFrame m #[(rr x_)] 1)) t := fun t k => castTop (ef_get_1 m x_) k
 generalize s₁.setTop (entryFrame m #[(rr x_)] 1) = st0 at c0 ⊢
 replace c0 : Kt p e below s₁ st0 (mkF m 0 #[vr x_] []) := c0
 have c1 : Kt p e below s₁ st0 (mkF m 1 #[vr x_] [(rr x_)]) := fun t k => by
  refine c0 t ?_
  show S_ p e below s₁ m 0 #[vr x_] [] t
  refine XS.aloadN X0.here hx rfl (hb hby d25_0) rfl rfl ?_
  exact k
 obtain ⟨T2, X2, e2, c2⟩ := kget X0 hx hZ hown (host := "") (Or.inl (w30 hw)) Via.refl e0 F4_ c1 rfl rfl (hb hby d25_1)
 have c3 : Kt p e below T2 st0 (mkF m 33 #[vr x_] [(rr x_)]) := fun t k => by
  refine c2 t ?_
  show S_ p e below T2 m 4 #[vr x_] [(ii (-1))] t
  refine yI X2.here hx rfl 4 32 rfl (hb hby d25_4) rfl rfl ?_
  refine XS.aloadN X2.here hx rfl (hb hby d25_32) rfl rfl ?_
  exact k
 obtain ⟨T4, X4, e4, c4⟩ := kget X2 hx hZ hown (host := "") (Or.inl (w79 hw)) Via.refl e2 F2_ c3 rfl rfl (hb hby d25_33)
 have c5 : Kt p e below T4 st0 (mkF m 40 #[vr x_] [(rr x_)]) := fun t k => by
  refine c4 t ?_
  show S_ p e below T4 m 36 #[vr x_] [.null] t
  refine XS.ifnonnullNo X4.here hx rfl (hb hby d25_36) rfl ?_
  refine XS.aloadN X4.here hx rfl (hb hby d25_39) rfl rfl ?_
  exact k
 obtain ⟨T6, X6, e6, c6⟩ := kget X4 hx hZ hown (host := "") (Or.inl (w81 hw)) Via.refl e4 F3_ c5 rfl rfl (hb hby d25_40)
 have c7 : Kt p e below T6 st0 (mkF m 47 #[vr x_] [(rr x_)]) := fun t k => by
  refine c6 t ?_
  show S_ p e below T6 m 43 #[vr x_] [(rr s_)] t
  refine XS.ifnullNo X6.here hx rfl (hb hby d25_43) rfl ?_
  refine XS.aloadN X6.here hx rfl (hb hby d25_46) rfl rfl ?_
  exact k
 obtain ⟨T8, X8, e8, c8⟩ := kget X6 hx hZ hown (host := "") (Or.inl (w91 hw)) Via.refl e6 F6_ c7 rfl rfl (hb hby d25_47)
 have c9 : Kt p e below T8 st0 (mkF m 55 #[vr x_] [(rr x_), (rr x_)]) := fun t k => by
  refine c8 t ?_
  show S_ p e below T8 m 50 #[vr x_] [(ii (-1))] t
  refine XS.ifNo X8.here hx rfl (hb hby d25_50) rfl rfl ?_
  refine XS.aloadN X8.here hx rfl (hb hby d25_53) rfl rfl ?_
  refine XS.aloadN X8.here hx rfl (hb hby d25_54) rfl rfl ?_
  exact k
 obtain ⟨T10, X10, e10, c10⟩ := kget X8 hx hZ hown (host := "") (Or.inl (w81 hw)) Via.refl e8 F3_ c9 rfl rfl (hb hby d25_55)
 have c11 : Kt p e below T10 st0 (mkF m 59 #[vr x_] [(rr x_), (rr s_), (rr x_)]) := fun t k => by
  refine c10 t ?_
  show S_ p e below T10 m 58 #[vr x_] [(rr s_), (rr x_)] t
  refine XS.aloadN X10.here hx rfl (hb hby d25_58) rfl rfl ?_
  exact k
 obtain ⟨T12, X12, e12, c12⟩ := kget X10 hx hZ hown (host := "") (Or.inl (w89 hw)) Via.refl e10 F5_ c11 rfl rfl (hb hby d25_59)
 obtain ⟨_, T13, L13, X13, hQ13, c13⟩ := kstat X12 hx hZ hown (w98 hw) (w48 hw) (w49 hw) (w50 hw) (rm_mof_1 l Z a0 hw [] s_ bs_ ks_ vs_ z_ j_ h0 n0 O0 E7_ F8_ F9_ A10_ ZS11_ hz_) e12 c12 hml pd_pLjava_lang_String_JrLgleaner_Match_ [(rr s_), (.long j_)] [(rr x_)] 1 (hb hby d25_62) rfl rfl rfl rfl rfl rfl
 obtain ⟨b14, b15, k16, rfl, N17q, K18, p19, p20, p21, p22, p23, p24, p25, p26⟩ := hQ13
 have N17 := Fr.app N0 N17q
 have o27 := O0.keep K18 all0
 have kp28 := kp0.trans K18 all0
 have z29 := Nat.le_trans kp0.1 p25
 have g30 := Nat.le_trans (Nat.le_trans (Nat.le_of_eq O0.1.symm) O0.2.1) p25
 have z31 := Nat.le_trans kp0.1 p26
 have g32 := Nat.le_trans (Nat.le_trans (Nat.le_of_eq O0.1.symm) O0.2.1) p26
 obtain ⟨T33, h33, X33, e33, W33, f34, o36, N35, c33⟩ := kput X13 hx hZ (.object nm2) hown (host := "") (Or.inl (w79 hw)) Via.refl rfl (F2_.keep K18 nin0) (E0_.keep K18) (Or.inl (w80 hw)) (w24 hw) c13 rfl rfl (hb hby d25_65) (by decide) rfl rfl o27 N17 G1_
 have kp37 := kp28.wr W33 (Or.inl (List.mem_of_getElem? (i := 0) rfl))
 have f38 := (F3_.keep K18 nin0).other W33 (Or.inr (slot_ne (Or.inl (w82 hw)) (Or.inl (w80 hw)) (by decide) (t := (.object nm0)) (t' := (.object nm2)) (by decide) (by decide)))
 have c39 : Kt p e below T33 st0 (mkF m 115 #[vr x_] [.null, (rr x_)]) := fun t k => by
  refine c33 t ?_
  show S_ p e below T33 m 68 #[vr x_] [] t
  refine yG X33.here hx rfl 68 113 rfl (hb hby d25_68) ?_
  refine XS.aloadN X33.here hx rfl (hb hby d25_113) rfl rfl ?_
  refine XS.aconstNull X33.here hx rfl (hb hby d25_114) ?_
  exact k
 obtain ⟨T40, h40, X40, e40, W40, f41, o43, N42, c40⟩ := kput X33 hx hZ (.object nm0) hown (host := "") (Or.inl (w81 hw)) Via.refl e33 f38 ((E0_.keep K18).wr W33) (Or.inl (w82 hw)) (w24 hw) c39 rfl rfl (hb hby d25_115) (by decide) rfl rfl o36 N35 G1_
 have kp44 := kp37.wr W40 (Or.inl (List.mem_of_getElem? (i := 0) rfl))
 have f45 := f34.other W40 (Or.inr (slot_ne (Or.inl (w80 hw)) (Or.inl (w82 hw)) (by decide) (t := (.object nm2)) (t' := (.object nm0)) (by decide) (by decide)))
 have c46 : Kt p e below T40 st0 (mkF m 119 #[vr x_] [(rr x_)]) := fun t k => by
  refine c40 t ?_
  show S_ p e below T40 m 118 #[vr x_] [] t
  refine XS.aloadN X40.here hx rfl (hb hby d25_118) rfl rfl ?_
  exact k
 obtain ⟨T47, X47, e47, c47⟩ := kget X40 hx hZ hown (host := "") (Or.inl (w79 hw)) Via.refl e40 f45 c46 rfl rfl (hb hby d25_119)
 have q48 := Ne.symm (Nat.ne_of_lt (Nat.lt_of_lt_of_le E0_.lt p25))
 have q49 := Ne.symm (Nat.ne_of_lt (Nat.lt_of_lt_of_le E0_.lt p26))
 obtain ⟨fs, hr, hrun, hended, hW, hsame⟩ := X47.leave (v := some (rr b14)) (fun h => by rw [Bd.returns] at h; cases h)
 refine ⟨_, _, c47 _ ?_, hrun, hended, _, _, rfl, ?_, ⟨_, rfl⟩, hW, hsame.mono (by decide) (by decide)⟩
 ·show S_ p e below T47 m 122 #[vr x_] [(rr b14)] _
  exact retOut X47 hx Bd.returns rfl (Or.inr (Or.inr (Or.inr (Or.inr ⟨rfl, rfl, rfl⟩)))) (hb hby d25_122) hr
 ·show Q_get_1 Z x_ j_ s_ bs_ ks_ vs_ z_ h0 n0 _ T47.heap _
  rw [e47]
  exact ⟨b14, b15, k16, rfl, N42, kp44, ((p19.wr W33).wr W40), ((p20.other W33 (Or.inl q48)).other W40 (Or.inl q48)), ((p21.other W33 (Or.inl q48)).other W40 (Or.inl q48)), ((p22.other W33 (Or.inl q48)).other W40 (Or.inl q48)), ((p23.other W33 q49).other W40 q49), z29, z31⟩
theorem ef_sub_1 (m : MethodId) (s_ : Addr) : entryFrame m #[(rr s_), (ii 0), (ii 1)] 5 = mkF m 0 #[vr s_, vi 0, vi 1, u_, u_] [] := by first | (simp [entryFrame, mkF, argsToLocals, Value.category]; done) | rfl
def Q_sub_1 (Z : State) (s_ : Addr) (bs_ : Addr) (ks_ : ClassId) (vs_ : List Value) (z_ : Int32) (fm_ : Value) (h0 : Heap) (n0 : Nat) (v : Option Value) (h : Heap) (L : List Loc) : Prop := v = some (rr s_) ∧ Fr n0 L ∧ h = h0
set_option maxRecDepth 65536 in
set_option maxHeartbeats 40000000 in
theorem rm_sub_1 (l : Launch) (Z : State) (a0 : Array Value) (hw : HW Z a0) (ws : List Jvm.Cond) (s_ : Addr) (bs_ : Addr) (ks_ : ClassId) (vs_ : List Value) (z_ : Int32) (fm_ : Value) (h0 : Heap) (n0 : Nat) (O0 : Old Z n0 h0) (E0_ : Exa Z h0 s_ nm0) (F1_ : Fld Z h0 s_ nm0 "coder" "B" (ii 0)) (F2_ : Fld Z h0 s_ nm0 "value" "[B" (rr bs_)) (A3_ : Arv Z h0 bs_ ks_ .byte (1 : Int32) vs_ (ii 0)) (ZS4_ : Sta Z Z.heap nm0 "COMPACT_STRINGS" "Z" (.int z_)) (hz_ : ¬ (z_ = (0 : Int32))) (ZS6_ : Sta Z Z.heap nm4 "SIOOBE_FORMATTER" nm11 fm_) (hfm_ : fm_.isRef = true) :
  MFP l Z (⟨nm0, "substring", "(II)Ljava/lang/String;"⟩ : MethodName) jdk_42_method_92_code 5 (some (.object nm0)) ({ frames := 2, cells := 0, slots := 0, locals := 29 } : Room) ws #[(rr s_), (ii 0), (ii 1)] h0 (Q_sub_1 Z s_ bs_ ks_ vs_ z_ fm_ h0 n0) := by
 refine MetFree.of_bodySF (plainFor_of_name pn_java_lang_String) hisR ?_
 intro p e s m args below meth c s₁ Bd hml0 hP hK
 obtain ⟨rfl, hZ, hh⟩ := hP
 have hx := Bd.exec
 have hby := Bd.bytes
 have hml : c.maxLocals = 5 := hml0
 have hown : s.vm.findClass nm0 = some m.cls := findClass_of_methodNamed Bd.named
 have hnm := (name_of_methodNamed Bd.named Bd.method).1
 have X0 : Stand p l e ({ frames := 2, cells := 0, slots := 0, locals := 29 } : Room) s m #[(rr s_), (ii 0), (ii 1)] below meth c s₁ [] 0 0 := Stand.of_body Bd
 have e0 : s₁.heap = h0 := by rw [← hh, Bd.state]; rfl
 have N0 := Fr.nil n0
 have kp0 : Keep h0 h0 [] := Keep.refl _ _
 have c0 : ∀ t, S_ p e below s₁ m 0 #[vr s_, vi 0, vi 1, u_, u_] [] t → Steps p.tables e below (s₁.setTop (entryFrame m #[(rr s_), (ii 0), (ii 1)] 5)) t := fun t k => castTop (ef_sub_1 m s_) k
 generalize s₁.setTop (entryFrame m #[(rr s_), (ii 0), (ii 1)] 5) = st0 at c0 ⊢
 replace c0 : Kt p e below s₁ st0 (mkF m 0 #[vr s_, vi 0, vi 1, u_, u_] []) := c0
 have c1 : Kt p e below s₁ st0 (mkF m 1 #[vr s_, vi 0, vi 1, u_, u_] [(rr s_)]) := fun t k => by
  refine c0 t ?_
  show S_ p e below s₁ m 0 #[vr s_, vi 0, vi 1, u_, u_] [] t
  refine XS.aloadN X0.here hx rfl (hb hby d26_0) rfl rfl ?_
  exact k
 obtain ⟨_, T2, L2, X2, hQ2, c2⟩ := kvirt X0 hx hZ hown (w129 hw) (w55 hw) (w57 hw) (w56 hw) (w58 hw) (w3 hw) (rm_len_1 l Z a0 hw [] s_ bs_ ks_ vs_ z_ h0 n0 O0 E0_ F1_ F2_ A3_ ZS4_ hz_) e0 E0_ c1 hml pd_prI [] [] 0 (hb hby d26_1) rfl rfl rfl rfl rfl rfl
 obtain ⟨rfl, N3q, K4⟩ := hQ2
 have N3 := Fr.app N0 N3q
 have c5 : Kt p e below T2 st0 (mkF m 8 #[vr s_, vi 0, vi 1, vi 1, u_] [(ii 1), (ii 1), (ii 0)]) := fun t k => by
  refine c2 t ?_
  show S_ p e below T2 m 4 #[vr s_, vi 0, vi 1, u_, u_] [(ii 1)] t
  refine XS.istoreN X2.here hx rfl (hb hby d26_4) rfl (l' := #[vr s_, vi 0, vi 1, vi 1, u_]) rfl ?_
  refine XS.iloadN X2.here hx rfl (hb hby d26_5) rfl ?_
  refine XS.iloadN X2.here hx rfl (hb hby d26_6) rfl ?_
  refine XS.iloadN X2.here hx rfl (hb hby d26_7) rfl ?_
  exact k
 obtain ⟨_, T6, L6, X6, hQ6, c6⟩ := kstat X2 hx hZ hown (w130 hw) (w131 hw) (w3 hw) (w132 hw) (rm_cbe l Z a0 hw [] (1 : Int32) fm_ h0 n0 O0 ZS6_ hfm_ (by decide) (by decide)) K4 c5 hml pd_pIIIrV [(ii 0), (ii 1), (ii 1)] [] 0 (hb hby d26_8) rfl rfl rfl rfl rfl rfl
 obtain ⟨rfl, N7q, K8⟩ := hQ6
 have N7 := Fr.app N3 N7q
 obtain ⟨fs, hr, hrun, hended, hW, hsame⟩ := X6.leave (v := some (rr s_)) (fun h => by rw [Bd.returns] at h; cases h)
 refine ⟨_, _, c6 _ ?_, hrun, hended, _, _, rfl, ?_, ⟨_, rfl⟩, hW, hsame.mono (by decide) (by decide)⟩
 ·show S_ p e below T6 m 11 #[vr s_, vi 0, vi 1, vi 1, u_] [] _
  refine XS.iloadN X6.here hx rfl (hb hby d26_11) rfl ?_
  refine XS.ifNo X6.here hx rfl (hb hby d26_12) rfl rfl ?_
  refine XS.iloadN X6.here hx rfl (hb hby d26_15) rfl ?_
  refine XS.iloadN X6.here hx rfl (hb hby d26_16) rfl ?_
  show S_ p e below T6 m 17 #[vr s_, vi 0, vi 1, vi 1, u_] [(ii 1), (ii 1)] _
  refine XS.icmpNo X6.here hx rfl (hb hby d26_17) rfl rfl ?_
  refine XS.aloadN X6.here hx rfl (hb hby d26_20) rfl rfl ?_
  show S_ p e below T6 m 21 #[vr s_, vi 0, vi 1, vi 1, u_] [(rr s_)] _
  exact retOut X6 hx Bd.returns rfl (Or.inr (Or.inr (Or.inr (Or.inr ⟨rfl, rfl, rfl⟩)))) (hb hby d26_21) hr
 ·show Q_sub_1 Z s_ bs_ ks_ vs_ z_ fm_ h0 n0 _ T6.heap _
  rw [K8]
  exact ⟨rfl, N7, rfl⟩
theorem ef_grI_1 (m : MethodId) (m_ : Addr) : entryFrame m #[(rr m_), (ii 0)] 3 = mkF m 0 #[vr m_, vi 0, u_] [] := by first | (simp [entryFrame, mkF, argsToLocals, Value.category]; done) | rfl
def Q_grI_1 (Z : State) (m_ : Addr) (b_ : Addr) (kb_ : ClassId) (j_ : Int64) (s_ : Addr) (bs_ : Addr) (ks_ : ClassId) (vs_ : List Value) (z_ : Int32) (fm_ : Value) (h0 : Heap) (n0 : Nat) (v : Option Value) (h : Heap) (L : List Loc) : Prop := v = some (rr s_) ∧ Fr n0 L ∧ h = h0
set_option maxRecDepth 65536 in
set_option maxHeartbeats 40000000 in
theorem rm_grI_1 (l : Launch) (Z : State) (a0 : Array Value) (hw : HW Z a0) (ws : List Jvm.Cond) (m_ : Addr) (b_ : Addr) (kb_ : ClassId) (j_ : Int64) (s_ : Addr) (bs_ : Addr) (ks_ : ClassId) (vs_ : List Value) (z_ : Int32) (fm_ : Value) (h0 : Heap) (n0 : Nat) (O0 : Old Z n0 h0) (E0_ : Exa Z h0 m_ nm2) (F1_ : Fld Z h0 m_ nm2 "text" nm3 (rr s_)) (F2_ : Fld Z h0 m_ nm2 "offset" "J" (.long j_)) (F3_ : Fld Z h0 m_ nm2 "bounds" "[I" (rr b_)) (A4_ : Arv Z h0 b_ kb_ .int (2 : Int32) [(ii 0), (ii 1)] (ii 0)) (E5_ : Exa Z h0 s_ nm0) (F6_ : Fld Z h0 s_ nm0 "coder" "B" (ii 0)) (F7_ : Fld Z h0 s_ nm0 "value" "[B" (rr bs_)) (A8_ : Arv Z h0 bs_ ks_ .byte (1 : Int32) vs_ (ii 0)) (ZS9_ : Sta Z Z.heap nm0 "COMPACT_STRINGS" "Z" (.int z_)) (hz_ : ¬ (z_ = (0 : Int32))) (ZS11_ : Sta Z Z.heap nm4 "SIOOBE_FORMATTER" nm11 fm_) (hfm_ : fm_.isRef = true) :
  MFP l Z (⟨nm2, "group", "(I)Ljava/lang/String;"⟩ : MethodName) prog_18_method_11_code 3 (some (.object nm0)) ({ frames := 3, cells := 0, slots := 0, locals := 45 } : Room) ws #[(rr m_), (ii 0)] h0 (Q_grI_1 Z m_ b_ kb_ j_ s_ bs_ ks_ vs_ z_ fm_ h0 n0) := by
 refine MetFree.of_bodySF (plainFor_of_name pn_gleaner_Match) hisR ?_
 intro p e s m args below meth c s₁ Bd hml0 hP hK
 obtain ⟨rfl, hZ, hh⟩ := hP
 have hx := Bd.exec
 have hby := Bd.bytes
 have hml : c.maxLocals = 3 := hml0
 have hown : s.vm.findClass nm2 = some m.cls := findClass_of_methodNamed Bd.named
 have hnm := (name_of_methodNamed Bd.named Bd.method).1
 have X0 : Stand p l e ({ frames := 3, cells := 0, slots := 0, locals := 45 } : Room) s m #[(rr m_), (ii 0)] below meth c s₁ [] 0 0 := Stand.of_body Bd
 have e0 : s₁.heap = h0 := by rw [← hh, Bd.state]; rfl
 have N0 := Fr.nil n0
 have kp0 : Keep h0 h0 [] := Keep.refl _ _
 have c0 : ∀ t, S_ p e below s₁ m 0 #[vr m_, vi 0, u_] [] t → Steps p.tables e below (s₁.setTop (entryFrame m #[(rr m_), (ii 0)] 3)) t := fun t k => castTop (ef_grI_1 m m_) k
 generalize s₁.setTop (entryFrame m #[(rr m_), (ii 0)] 3) = st0 at c0 ⊢
 replace c0 : Kt p e below s₁ st0 (mkF m 0 #[vr m_, vi 0, u_] []) := c0
 have c1 : Kt p e below s₁ st0 (mkF m 1 #[vr m_, vi 0, u_] [(rr m_)]) := fun t k => by
  refine c0 t ?_
  show S_ p e below s₁ m 0 #[vr m_, vi 0, u_] [] t
  refine XS.aloadN X0.here hx rfl (hb hby d27_0) rfl rfl ?_
  exact k
 obtain ⟨T2, X2, e2, c2⟩ := kget X0 hx hZ hown (host := "") (Or.inl (w72 hw)) Via.refl e0 F3_ c1 rfl rfl (hb hby d27_1)
 have c3 : Kt p e below T2 st0 (mkF m 6 #[vr m_, vi 0, u_] [(ii 0), (rr m_), (rr b_)]) := fun t k => by
  refine c2 t ?_
  show S_ p e below T2 m 4 #[vr m_, vi 0, u_] [(rr b_)] t
  refine XS.aloadN X2.here hx rfl (hb hby d27_4) rfl rfl ?_
  refine XS.iloadN X2.here hx rfl (hb hby d27_5) rfl ?_
  exact k
 obtain ⟨_, T4, L4, X4, hQ4, c4⟩ := kpriv X2 hx hZ hown (w115 hw) (w52 hw) (w117 hw) (w116 hw) (w118 hw) (w49 hw) (rm_chk l Z a0 hw [] m_ b_ kb_ [(ii 0), (ii 1)] h0 n0 O0 E0_ F3_ A4_) e2 E0_ c3 hml pd_pIrI [(ii 0)] [(rr b_)] 1 (hb hby d27_6) rfl rfl rfl rfl rfl rfl
 obtain ⟨rfl, N5q, K6⟩ := hQ4
 have N5 := Fr.app N0 N5q
 have c7 : Kt p e below T4 st0 (mkF m 20 #[vr m_, vi 0, vi 0] [(rr m_)]) := fun t k => by
  refine c4 t ?_
  show S_ p e below T4 m 9 #[vr m_, vi 0, u_] [(ii 0), (rr b_)] t
  refine ldI X4 hx hZ K6 A4_ (v := (ii 0)) (by decide) (by decide) rfl rfl rfl (hb hby d27_9) ?_
  refine XS.istoreN X4.here hx rfl (hb hby d27_10) rfl (l' := #[vr m_, vi 0, vi 0]) rfl ?_
  refine XS.iloadN X4.here hx rfl (hb hby d27_11) rfl ?_
  refine yI X4.here hx rfl 12 19 rfl (hb hby d27_12) rfl rfl ?_
  show S_ p e below T4 m 19 #[vr m_, vi 0, vi 0] [] t
  refine XS.aloadN X4.here hx rfl (hb hby d27_19) rfl rfl ?_
  exact k
 obtain ⟨T8, X8, e8, c8⟩ := kget X4 hx hZ hown (host := "") (Or.inl (w68 hw)) Via.refl K6 F1_ c7 rfl rfl (hb hby d27_20)
 have c9 : Kt p e below T8 st0 (mkF m 25 #[vr m_, vi 0, vi 0] [(rr m_), (ii 0), (rr s_)]) := fun t k => by
  refine c8 t ?_
  show S_ p e below T8 m 23 #[vr m_, vi 0, vi 0] [(rr s_)] t
  refine XS.iloadN X8.here hx rfl (hb hby d27_23) rfl ?_
  refine XS.aloadN X8.here hx rfl (hb hby d27_24) rfl rfl ?_
  exact k
 obtain ⟨T10, X10, e10, c10⟩ := kget X8 hx hZ hown (host := "") (Or.inl (w72 hw)) Via.refl e8 F3_ c9 rfl rfl (hb hby d27_25)
 have c11 : Kt p e below T10 st0 (mkF m 34 #[vr m_, vi 0, vi 0] [(ii 1), (ii 0), (rr s_)]) := fun t k => by
  refine c10 t ?_
  show S_ p e below T10 m 28 #[vr m_, vi 0, vi 0] [(rr b_), (ii 0), (rr s_)] t
  refine XS.iconst X10.here hx rfl (hb hby d27_28) ?_
  refine XS.iloadN X10.here hx rfl (hb hby d27_29) rfl ?_
  refine XS.imul X10.here hx rfl (hb hby d27_30) rfl ?_
  refine XS.iconst X10.here hx rfl (hb hby d27_31) ?_
  show S_ p e below T10 m 32 #[vr m_, vi 0, vi 0] [(ii 1), (ii 0), (rr b_), (ii 0), (rr s_)] t
  refine XS.iadd X10.here hx rfl (hb hby d27_32) rfl ?_
  refine ldI X10 hx hZ e10 A4_ (v := (ii 1)) (by decide) (by decide) rfl rfl rfl (hb hby d27_33) ?_
  exact k
 obtain ⟨_, T12, L12, X12, hQ12, c12⟩ := kvirt X10 hx hZ hown (w124 hw) (w125 hw) (w127 hw) (w126 hw) (w128 hw) (w3 hw) (rm_sub_1 l Z a0 hw [] s_ bs_ ks_ vs_ z_ fm_ h0 n0 O0 E5_ F6_ F7_ A8_ ZS9_ hz_ ZS11_ hfm_) e10 E5_ c11 hml pd_pIIrLjava_lang_String_ [(ii 0), (ii 1)] [] 0 (hb hby d27_34) rfl rfl rfl rfl rfl rfl
 obtain ⟨rfl, N13q, K14⟩ := hQ12
 have N13 := Fr.app N5 N13q
 obtain ⟨fs, hr, hrun, hended, hW, hsame⟩ := X12.leave (v := some (rr s_)) (fun h => by rw [Bd.returns] at h; cases h)
 refine ⟨_, _, c12 _ ?_, hrun, hended, _, _, rfl, ?_, ⟨_, rfl⟩, hW, hsame.mono (by decide) (by decide)⟩
 ·show S_ p e below T12 m 37 #[vr m_, vi 0, vi 0] [(rr s_)] _
  exact retOut X12 hx Bd.returns rfl (Or.inr (Or.inr (Or.inr (Or.inr ⟨rfl, rfl, rfl⟩)))) (hb hby d27_37) hr
 ·show Q_grI_1 Z m_ b_ kb_ j_ s_ bs_ ks_ vs_ z_ fm_ h0 n0 _ T12.heap _
  rw [K14]
  exact ⟨rfl, N13, rfl⟩
theorem ef_gr_1 (m : MethodId) (m_ : Addr) : entryFrame m #[(rr m_)] 1 = mkF m 0 #[vr m_] [] := by first | (simp [entryFrame, mkF, argsToLocals, Value.category]; done) | rfl
def Q_gr_1 (Z : State) (m_ : Addr) (b_ : Addr) (kb_ : ClassId) (j_ : Int64) (s_ : Addr) (bs_ : Addr) (ks_ : ClassId) (vs_ : List Value) (z_ : Int32) (fm_ : Value) (h0 : Heap) (n0 : Nat) (v : Option Value) (h : Heap) (L : List Loc) : Prop := v = some (rr s_) ∧ Fr n0 L ∧ h = h0
set_option maxRecDepth 65536 in
set_option maxHeartbeats 40000000 in
theorem rm_gr_1 (l : Launch) (Z : State) (a0 : Array Value) (hw : HW Z a0) (ws : List Jvm.Cond) (m_ : Addr) (b_ : Addr) (kb_ : ClassId) (j_ : Int64) (s_ : Addr) (bs_ : Addr) (ks_ : ClassId) (vs_ : List Value) (z_ : Int32) (fm_ : Value) (h0 : Heap) (n0 : Nat) (O0 : Old Z n0 h0) (E0_ : Exa Z h0 m_ nm2) (F1_ : Fld Z h0 m_ nm2 "text" nm3 (rr s_)) (F2_ : Fld Z h0 m_ nm2 "offset" "J" (.long j_)) (F3_ : Fld Z h0 m_ nm2 "bounds" "[I" (rr b_)) (A4_ : Arv Z h0 b_ kb_ .int (2 : Int32) [(ii 0), (ii 1)] (ii 0)) (E5_ : Exa Z h0 s_ nm0) (F6_ : Fld Z h0 s_ nm0 "coder" "B" (ii 0)) (F7_ : Fld Z h0 s_ nm0 "value" "[B" (rr bs_)) (A8_ : Arv Z h0 bs_ ks_ .byte (1 : Int32) vs_ (ii 0)) (ZS9_ : Sta Z Z.heap nm0 "COMPACT_STRINGS" "Z" (.int z_)) (hz_ : ¬ (z_ = (0 : Int32))) (ZS11_ : Sta Z Z.heap nm4 "SIOOBE_FORMATTER" nm11 fm_) (hfm_ : fm_.isRef = true) :
  MFP l Z (⟨nm2, "group", "()Ljava/lang/String;"⟩ : MethodName) prog_18_method_10_code 1 (some (.object nm0)) ({ frames := 4, cells := 0, slots := 0, locals := 59 } : Room) ws #[(rr m_)] h0 (Q_gr_1 Z m_ b_ kb_ j_ s_ bs_ ks_ vs_ z_ fm_ h0 n0) := by
 refine MetFree.of_bodySF (plainFor_of_name pn_gleaner_Match) hisR ?_
 intro p e s m args below meth c s₁ Bd hml0 hP hK
 obtain ⟨rfl, hZ, hh⟩ := hP
 have hx := Bd.exec
 have hby := Bd.bytes
 have hml : c.maxLocals = 1 := hml0
 have hown : s.vm.findClass nm2 = some m.cls := findClass_of_methodNamed Bd.named
 have hnm := (name_of_methodNamed Bd.named Bd.method).1
 have X0 : Stand p l e ({ frames := 4, cells := 0, slots := 0, locals := 59 } : Room) s m #[(rr m_)] below meth c s₁ [] 0 0 := Stand.of_body Bd
 have e0 : s₁.heap = h0 := by rw [← hh, Bd.state]; rfl
 have N0 := Fr.nil n0
 have kp0 : Keep h0 h0 [] := Keep.refl _ _
 have c0 : ∀ t, S_ p e below s₁ m 0 #[vr m_] [] t → Steps p.tables e below (s₁.setTop (entryFrame m #[(rr m_)] 1)) t := fun t k => castTop (ef_gr_1 m m_) k
 generalize s₁.setTop (entryFrame m #[(rr m_)] 1) = st0 at c0 ⊢
 replace c0 : Kt p e below s₁ st0 (mkF m 0 #[vr m_] []) := c0
 have c1 : Kt p e below s₁ st0 (mkF m 2 #[vr m_] [(ii 0), (rr m_)]) := fun t k => by
  refine c0 t ?_
  show S_ p e below s₁ m 0 #[vr m_] [] t
  refine XS.aloadN X0.here hx rfl (hb hby d28_0) rfl rfl ?_
  refine XS.iconst X0.here hx rfl (hb hby d28_1) ?_
  exact k
 obtain ⟨_, T2, L2, X2, hQ2, c2⟩ := kvirt X0 hx hZ hown (w110 hw) (w111 hw) (w113 hw) (w112 hw) (w114 hw) (w49 hw) (rm_grI_1 l Z a0 hw [] m_ b_ kb_ j_ s_ bs_ ks_ vs_ z_ fm_ h0 n0 O0 E0_ F1_ F2_ F3_ A4_ E5_ F6_ F7_ A8_ ZS9_ hz_ ZS11_ hfm_) e0 E0_ c1 hml pd_pIrLjava_lang_String_ [(ii 0)] [] 0 (hb hby d28_2) rfl rfl rfl rfl rfl rfl
 obtain ⟨rfl, N3q, K4⟩ := hQ2
 have N3 := Fr.app N0 N3q
 obtain ⟨fs, hr, hrun, hended, hW, hsame⟩ := X2.leave (v := some (rr s_)) (fun h => by rw [Bd.returns] at h; cases h)
 refine ⟨_, _, c2 _ ?_, hrun, hended, _, _, rfl, ?_, ⟨_, rfl⟩, hW, hsame.mono (by decide) (by decide)⟩
 ·show S_ p e below T2 m 5 #[vr m_] [(rr s_)] _
  exact retOut X2 hx Bd.returns rfl (Or.inr (Or.inr (Or.inr (Or.inr ⟨rfl, rfl, rfl⟩)))) (hb hby d28_5) hr
 ·show Q_gr_1 Z m_ b_ kb_ j_ s_ bs_ ks_ vs_ z_ fm_ h0 n0 _ T2.heap _
  rw [K4]
  exact ⟨rfl, N3, rfl⟩
theorem ef_len_2 (m : MethodId) (s_ : Addr) : entryFrame m #[(rr s_)] 1 = mkF m 0 #[vr s_] [] := by first | (simp [entryFrame, mkF, argsToLocals, Value.category]; done) | rfl
def Q_len_2 (Z : State) (s_ : Addr) (bs_ : Addr) (ks_ : ClassId) (vs_ : List Value) (z_ : Int32) (h0 : Heap) (n0 : Nat) (v : Option Value) (h : Heap) (L : List Loc) : Prop := v = some (ii 2) ∧ Fr n0 L ∧ h = h0
set_option maxRecDepth 65536 in
set_option maxHeartbeats 40000000 in
theorem rm_len_2 (l : Launch) (Z : State) (a0 : Array Value) (hw : HW Z a0) (ws : List Jvm.Cond) (s_ : Addr) (bs_ : Addr) (ks_ : ClassId) (vs_ : List Value) (z_ : Int32) (h0 : Heap) (n0 : Nat) (O0 : Old Z n0 h0) (E0_ : Exa Z h0 s_ nm0) (F1_ : Fld Z h0 s_ nm0 "coder" "B" (ii 0)) (F2_ : Fld Z h0 s_ nm0 "value" "[B" (rr bs_)) (A3_ : Arv Z h0 bs_ ks_ .byte (2 : Int32) vs_ (ii 0)) (ZS4_ : Sta Z Z.heap nm0 "COMPACT_STRINGS" "Z" (.int z_)) (hz_ : ¬ (z_ = (0 : Int32))) :
  MFP l Z (⟨nm0, "length", "()I"⟩ : MethodName) jdk_42_method_54_code 1 (some .int) ({ frames := 1, cells := 0, slots := 0, locals := 13 } : Room) ws #[(rr s_)] h0 (Q_len_2 Z s_ bs_ ks_ vs_ z_ h0 n0) := by
 refine MetFree.of_bodySF (plainFor_of_name pn_java_lang_String) hisR ?_
 intro p e s m args below meth c s₁ Bd hml0 hP hK
 obtain ⟨rfl, hZ, hh⟩ := hP
 have hx := Bd.exec
 have hby := Bd.bytes
 have hml : c.maxLocals = 1 := hml0
 have hown : s.vm.findClass nm0 = some m.cls := findClass_of_methodNamed Bd.named
 have hnm := (name_of_methodNamed Bd.named Bd.method).1
 have X0 : Stand p l e ({ frames := 1, cells := 0, slots := 0, locals := 13 } : Room) s m #[(rr s_)] below meth c s₁ [] 0 0 := Stand.of_body Bd
 have e0 : s₁.heap = h0 := by rw [← hh, Bd.state]; rfl
 have N0 := Fr.nil n0
 have kp0 : Keep h0 h0 [] := Keep.refl _ _
 have c0 : ∀ t, S_ p e below s₁ m 0 #[vr s_] [] t → Steps p.tables e below (s₁.setTop (entryFrame m #[(rr s_)] 1)) t := fun t k => castTop (ef_len_2 m s_) k
 generalize s₁.setTop (entryFrame m #[(rr s_)] 1) = st0 at c0 ⊢
 replace c0 : Kt p e below s₁ st0 (mkF m 0 #[vr s_] []) := c0
 have c1 : Kt p e below s₁ st0 (mkF m 1 #[vr s_] [(rr s_)]) := fun t k => by
  refine c0 t ?_
  show S_ p e below s₁ m 0 #[vr s_] [] t
  refine XS.aloadN X0.here hx rfl (hb hby d23_0) rfl rfl ?_
  exact k
 obtain ⟨T2, X2, e2, c2⟩ := kget X0 hx hZ hown (host := "") (Or.inl (w20 hw)) Via.refl e0 F2_ c1 rfl rfl (hb hby d23_1)
 have c3 : Kt p e below T2 st0 (mkF m 6 #[vr s_] [(rr s_), (ii 2)]) := fun t k => by
  refine c2 t ?_
  show S_ p e below T2 m 4 #[vr s_] [(rr bs_)] t
  refine ldLen X2 hx hZ e2 A3_ rfl rfl (hb hby d23_4) ?_
  refine XS.aloadN X2.here hx rfl (hb hby d23_5) rfl rfl ?_
  exact k
 obtain ⟨_, T4, L4, X4, hQ4, c4⟩ := kvirt X2 hx hZ hown (w59 hw) (w60 hw) (w62 hw) (w61 hw) (w63 hw) (w3 hw) (rm_codL l Z a0 hw [] s_ z_ h0 n0 O0 F1_ ZS4_ hz_) e2 E0_ c3 hml pd_prB [] [(ii 2)] 1 (hb hby d23_6) rfl rfl rfl rfl rfl rfl
 obtain ⟨rfl, N5q, K6⟩ := hQ4
 have N5 := Fr.app N0 N5q
 obtain ⟨fs, hr, hrun, hended, hW, hsame⟩ := X4.leave (v := some (ii 2)) (fun h => by rw [Bd.returns] at h; cases h)
 refine ⟨_, _, c4 _ ?_, hrun, hended, _, _, rfl, ?_, ⟨_, rfl⟩, hW, hsame.mono (by decide) (by decide)⟩
 ·show S_ p e below T4 m 9 #[vr s_] [(ii 0), (ii 2)] _
  refine XS.ishr X4.here hx rfl (hb hby d23_9) rfl ?_
  show S_ p e below T4 m 10 #[vr s_] [(ii 2)] _
  exact retOut X4 hx Bd.returns rfl (Or.inl ⟨rfl, Or.inl rfl, _, rfl⟩) (hb hby d23_10) hr
 ·show Q_len_2 Z s_ bs_ ks_ vs_ z_ h0 n0 _ T4.heap _
  rw [K6]
  exact ⟨rfl, N5, rfl⟩
theorem ef_mof_2 (m : MethodId) (s_ : Addr) (j_ : Int64) : entryFrame m #[(rr s_), (.long j_)] 3 = mkF m 0 #[vr s_, vj j_, .second] [] := by first | (simp [entryFrame, mkF, argsToLocals, Value.category]; done) | rfl
def Q_mof_2 (Z : State) (s_ : Addr) (bs_ : Addr) (ks_ : ClassId) (vs_ : List Value) (z_ : Int32) (j_ : Int64) (h0 : Heap) (n0 : Nat) (v : Option Value) (h : Heap) (L : List Loc) : Prop := ∃ (m_ : Addr), ∃ (b_ : Addr), ∃ (kb_ : ClassId), v = some (rr m_) ∧ Fr n0 L ∧ Keep h0 h [] ∧ Exa Z h m_ nm2 ∧ Fld Z h m_ nm2 "text" nm3 (rr s_) ∧ Fld Z h m_ nm2 "offset" "J" (.long j_) ∧ Fld Z h m_ nm2 "bounds" "[I" (rr b_) ∧ Arv Z h b_ kb_ .int (2 : Int32) [(ii 0), (ii 2)] (ii 0) ∧ n0 ≤ m_ ∧ h0.size ≤ m_ ∧ h0.size ≤ b_
set_option maxRecDepth 65536 in
set_option maxHeartbeats 40000000 in
theorem rm_mof_2 (l : Launch) (Z : State) (a0 : Array Value) (hw : HW Z a0) (ws : List Jvm.Cond) (s_ : Addr) (bs_ : Addr) (ks_ : ClassId) (vs_ : List Value) (z_ : Int32) (j_ : Int64) (h0 : Heap) (n0 : Nat) (O0 : Old Z n0 h0) (E0_ : Exa Z h0 s_ nm0) (F1_ : Fld Z h0 s_ nm0 "coder" "B" (ii 0)) (F2_ : Fld Z h0 s_ nm0 "value" "[B" (rr bs_)) (A3_ : Arv Z h0 bs_ ks_ .byte (2 : Int32) vs_ (ii 0)) (ZS4_ : Sta Z Z.heap nm0 "COMPACT_STRINGS" "Z" (.int z_)) (hz_ : ¬ (z_ = (0 : Int32))) :
  MFP l Z (⟨nm2, "of", nm13⟩ : MethodName) prog_18_method_2_code 3 (some (.object nm2)) ({ frames := 2, cells := 2, slots := 5, locals := 33 } : Room) ws #[(rr s_), (.long j_)] h0 (Q_mof_2 Z s_ bs_ ks_ vs_ z_ j_ h0 n0) := by
 refine MetFree.of_bodySF (plainFor_of_name pn_gleaner_Match) hisR ?_
 intro p e s m args below meth c s₁ Bd hml0 hP hK
 obtain ⟨rfl, hZ, hh⟩ := hP
 have hx := Bd.exec
 have hby := Bd.bytes
 have hml : c.maxLocals = 3 := hml0
 have hown : s.vm.findClass nm2 = some m.cls := findClass_of_methodNamed Bd.named
 have hnm := (name_of_methodNamed Bd.named Bd.method).1
 have X0 : Stand p l e ({ frames := 2, cells := 2, slots := 5, locals := 33 } : Room) s m #[(rr s_), (.long j_)] below meth c s₁ [] 0 0 := Stand.of_body Bd
 have e0 : s₁.heap = h0 := by rw [← hh, Bd.state]; rfl
 have N0 := Fr.nil n0
 have kp0 : Keep h0 h0 [] := Keep.refl _ _
 have c0 : ∀ t, S_ p e below s₁ m 0 #[vr s_, vj j_, .second] [] t → Steps p.tables e below (s₁.setTop (entryFrame m #[(rr s_), (.long j_)] 3)) t := fun t k => castTop (ef_mof_2 m s_ j_) k
 generalize s₁.setTop (entryFrame m #[(rr s_), (.long j_)] 3) = st0 at c0 ⊢
 replace c0 : Kt p e below s₁ st0 (mkF m 0 #[vr s_, vj j_, .second] []) := c0
 obtain ⟨b1, T1, h1, z1, g1, X1, e1, E1, o2, A1, D1, U1, c1⟩ := knew X0 hx hZ hown (w51 hw) (w52 hw) (w49 hw) e0 c0 rfl (hb hby d24_0) (by decide) (by decide) O0
 have kp3 := kp0.ext E1
 have z4 := Nat.le_trans kp0.1 z1
 have c5 : Kt p e below T1 st0 (mkF m 7 #[vr s_, vj j_, .second] [(ii 2), (.long j_), (rr s_), (rr b1), (rr b1)]) := fun t k => by
  refine c1 t ?_
  show S_ p e below T1 m 3 #[vr s_, vj j_, .second] [(rr b1)] t
  refine XS.dup X1.here hx rfl (hb hby d24_3) rfl rfl ?_
  refine XS.aloadN X1.here hx rfl (hb hby d24_4) rfl rfl ?_
  refine XS.lloadN X1.here hx rfl (hb hby d24_5) rfl ?_
  refine XS.iconst X1.here hx rfl (hb hby d24_6) ?_
  exact k
 obtain ⟨b6, T6, h6, k6, z6, g6, X6, e6, E6, o7, A6, c6⟩ := knewP (aty := .int) X1 hx hZ (w53 hw) e1 c5 rfl (hb hby d24_7) rfl (by decide) 2 (by decide) (by decide) (by decide) (by decide) o2
 have kp9 := kp3.ext E6
 have z10 := Nat.le_trans kp3.1 z6
 have f8 : Arv Z h6 b6 k6 .int (2 : Int32) [(ii 0), (ii 0)] (ii 0) := A6.pad (pad_rep [] (ii 0) 2)
 have c11 : Kt p e below T6 st0 (mkF m 12 #[vr s_, vj j_, .second] [(ii 0), (ii 0), (rr b6), (rr b6), (.long j_), (rr s_), (rr b1), (rr b1)]) := fun t k => by
  refine c6 t ?_
  show S_ p e below T6 m 9 #[vr s_, vj j_, .second] [(rr b6), (.long j_), (rr s_), (rr b1), (rr b1)] t
  refine XS.dup X6.here hx rfl (hb hby d24_9) rfl rfl ?_
  refine XS.iconst X6.here hx rfl (hb hby d24_10) ?_
  refine XS.iconst X6.here hx rfl (hb hby d24_11) ?_
  exact k
 obtain ⟨T12, h12, X12, e12, W12, f15, o13, N14, c12⟩ := kstI X6 hx hZ e6 f8 (j := (0 : Int32)) (by decide) (by decide) 0 rfl (Nat.le_of_ble_eq_true rfl) c11 rfl rfl (hb hby d24_12) o7 N0 g6
 have f16 : Arv Z h12 b6 k6 .int (2 : Int32) [(ii 0), (ii 0)] (ii 0) := f15
 have kp17 := kp9.wr W12 (Or.inr z10)
 have q18 := Nat.ne_of_lt (Nat.lt_of_lt_of_le (E0_.ext E1).lt z6)
 have q19 := Nat.ne_of_lt (Nat.lt_of_lt_of_le (A3_.ext E1).lt z6)
 have c20 : Kt p e below T12 st0 (mkF m 16 #[vr s_, vj j_, .second] [(rr s_), (ii 1), (rr b6), (rr b6), (.long j_), (rr s_), (rr b1), (rr b1)]) := fun t k => by
  refine c12 t ?_
  show S_ p e below T12 m 13 #[vr s_, vj j_, .second] [(rr b6), (.long j_), (rr s_), (rr b1), (rr b1)] t
  refine XS.dup X12.here hx rfl (hb hby d24_13) rfl rfl ?_
  refine XS.iconst X12.here hx rfl (hb hby d24_14) ?_
  refine XS.aloadN X12.here hx rfl (hb hby d24_15) rfl rfl ?_
  exact k
 obtain ⟨_, T21, L21, X21, hQ21, c21⟩ := kvirt X12 hx hZ hown (w54 hw) (w55 hw) (w57 hw) (w56 hw) (w58 hw) (w3 hw) (rm_len_2 l Z a0 hw [] s_ bs_ ks_ vs_ z_ h12 n0 o13 (((E0_.ext E1).ext E6).wr W12) (((F1_.ext E1).ext E6).other W12 (Or.inl q18)) (((F2_.ext E1).ext E6).other W12 (Or.inl q18)) (((A3_.ext E1).ext E6).other W12 q19) ZS4_ hz_) e12 (((E0_.ext E1).ext E6).wr W12) c20 hml pd_prI [] [(ii 1), (rr b6), (rr b6), (.long j_), (rr s_), (rr b1), (rr b1)] 8 (hb hby d24_16) rfl rfl rfl rfl rfl rfl
 obtain ⟨rfl, N22q, K23⟩ := hQ21
 have N22 := Fr.app N14 N22q
 obtain ⟨T24, h24, X24, e24, W24, f27, o25, N26, c24⟩ := kstI X21 hx hZ K23 f16 (j := (1 : Int32)) (by decide) (by decide) 1 rfl (Nat.le_of_ble_eq_true rfl) c21 rfl rfl (hb hby d24_19) o13 N22 g6
 have f28 : Arv Z h24 b6 k6 .int (2 : Int32) [(ii 0), (ii 2)] (ii 0) := f27
 have kp29 := kp17.wr W24 (Or.inr z10)
 have q30 := Nat.ne_of_lt (Nat.lt_of_lt_of_le A1.lt z6)
 have f31 := (((show Fld Z h1 b1 nm2 "text" nm3 .null from D1 (Or.inr (w69 hw)) (ty := (.object nm0)) (by decide)).ext E6).other W12 (Or.inl q30)).other W24 (Or.inl q30)
 have f32 := (((show Fld Z h1 b1 nm2 "offset" "J" (.long (0 : Int64)) from D1 (Or.inr (w71 hw)) (ty := .long) (by decide)).ext E6).other W12 (Or.inl q30)).other W24 (Or.inl q30)
 have f33 := (((show Fld Z h1 b1 nm2 "bounds" "[I" .null from D1 (Or.inr (w73 hw)) (ty := (.array .int)) (by decide)).ext E6).other W12 (Or.inl q30)).other W24 (Or.inl q30)
 obtain ⟨_, T34, L34, X34, hQ34, c34⟩ := kspec X24 hx hZ hown (w64 hw) (w65 hw) (w49 hw) (w66 hw) (rm_minit l Z a0 hw [] b1 s_ j_ b6 h24 n0 o25 (((A1.ext E6).wr W12).wr W24) f31 f32 f33 g1) e24 c24 hml pd_pLjava_lang_String_JAIrV b1 [(rr s_), (.long j_), (rr b6)] [(rr b1)] 1 (hb hby d24_20) rfl rfl rfl rfl rfl rfl
 obtain ⟨rfl, N35q, K36, p37, p38, p39, p40⟩ := hQ34
 have N35 := Fr.app N26 N35q
 have o41 := o25.keep K36 (allS g1 all0)
 have kp42 := kp29.trans K36 (allS (Or.inr z4) all0)
 obtain ⟨fs, hr, hrun, hended, hW, hsame⟩ := X34.leave (v := some (rr b1)) (fun h => by rw [Bd.returns] at h; cases h)
 refine ⟨_, _, c34 _ ?_, hrun, hended, _, _, rfl, ?_, ⟨_, rfl⟩, hW, hsame.mono (by decide) (by decide)⟩
 ·show S_ p e below T34 m 23 #[vr s_, vj j_, .second] [(rr b1)] _
  exact retOut X34 hx Bd.returns rfl (Or.inr (Or.inr (Or.inr (Or.inr ⟨rfl, rfl, rfl⟩)))) (hb hby d24_23) hr
 ·show Q_mof_2 Z s_ bs_ ks_ vs_ z_ j_ h0 n0 _ T34.heap _
  exact ⟨b1, b6, k6, rfl, N35, kp42, p37, p38, p39, p40, (f28.keep K36 (ninS q30.symm nin0)), g1, z4, z10⟩
theorem ef_get_2 (m : MethodId) (x_ : Addr) : entryFrame m #[(rr x_)] 1 = mkF m 0 #[vr x_] [] := by first | (simp [entryFrame, mkF, argsToLocals, Value.category]; done) | rfl
def Q_get_2 (Z : State) (x_ : Addr) (j_ : Int64) (s_ : Addr) (bs_ : Addr) (ks_ : ClassId) (vs_ : List Value) (z_ : Int32) (h0 : Heap) (n0 : Nat) (v : Option Value) (h : Heap) (L : List Loc) : Prop := ∃ (m_ : Addr), ∃ (b_ : Addr), ∃ (kb_ : ClassId), v = some (rr m_) ∧ Fr n0 L ∧ Keep h0 h [x_] ∧ Exa Z h m_ nm2 ∧ Fld Z h m_ nm2 "text" nm3 (rr s_) ∧ Fld Z h m_ nm2 "offset" "J" (.long j_) ∧ Fld Z h m_ nm2 "bounds" "[I" (rr b_) ∧ Arv Z h b_ kb_ .int (2 : Int32) [(ii 0), (ii 2)] (ii 0) ∧ h0.size ≤ m_ ∧ h0.size ≤ b_
set_option maxRecDepth 65536 in
set_option maxHeartbeats 40000000 in
theorem rm_get_2 (l : Launch) (Z : State) (a0 : Array Value) (hw : HW Z a0) (ws : List Jvm.Cond) (x_ : Addr) (j_ : Int64) (s_ : Addr) (bs_ : Addr) (ks_ : ClassId) (vs_ : List Value) (z_ : Int32) (h0 : Heap) (n0 : Nat) (O0 : Old Z n0 h0) (E0_ : Exa Z h0 x_ nm1) (G1_ : n0 ≤ x_) (F2_ : Fld Z h0 x_ nm1 "made" nm10 .null) (F3_ : Fld Z h0 x_ nm1 "read" nm3 (rr s_)) (F4_ : Fld Z h0 x_ nm1 "copiedLength" "I" (ii (-1))) (F5_ : Fld Z h0 x_ nm1 "offset" "J" (.long j_)) (F6_ : Fld Z h0 x_ nm1 "terminatorLength" "I" (ii (-1))) (E7_ : Exa Z h0 s_ nm0) (F8_ : Fld Z h0 s_ nm0 "coder" "B" (ii 0)) (F9_ : Fld Z h0 s_ nm0 "value" "[B" (rr bs_)) (A10_ : Arv Z h0 bs_ ks_ .byte (2 : Int32) vs_ (ii 0)) (ZS11_ : Sta Z Z.heap nm0 "COMPACT_STRINGS" "Z" (.int z_)) (hz_ : ¬ (z_ = (0 : Int32))) :
  MFP l Z (⟨nm1, "get", "()Lgleaner/Match;"⟩ : MethodName) prog_15_method_8_code 1 (some (.object nm2)) ({ frames := 3, cells := 2, slots := 5, locals := 48 } : Room) ws #[(rr x_)] h0 (Q_get_2 Z x_ j_ s_ bs_ ks_ vs_ z_ h0 n0) := by
 refine MetFree.of_bodySF (plainFor_of_name pn_gleaner_LastMatch) hisR ?_
 intro p e s m args below meth c s₁ Bd hml0 hP hK
 obtain ⟨rfl, hZ, hh⟩ := hP
 have hx := Bd.exec
 have hby := Bd.bytes
 have hml : c.maxLocals = 1 := hml0
 have hown : s.vm.findClass nm1 = some m.cls := findClass_of_methodNamed Bd.named
 have hnm := (name_of_methodNamed Bd.named Bd.method).1
 have X0 : Stand p l e ({ frames := 3, cells := 2, slots := 5, locals := 48 } : Room) s m #[(rr x_)] below meth c s₁ [] 0 0 := Stand.of_body Bd
 have e0 : s₁.heap = h0 := by rw [← hh, Bd.state]; rfl
 have N0 := Fr.nil n0
 have kp0 : Keep h0 h0 [x_] := Keep.refl _ _
 have c0 : ∀ t, S_ p e below s₁ m 0 #[vr x_] [] t → Steps p.tables e below (s₁.setTop (entryFrame m #[(rr x_)] 1)) t := fun t k => castTop (ef_get_2 m x_) k
 generalize s₁.setTop (entryFrame m #[(rr x_)] 1) = st0 at c0 ⊢
 replace c0 : Kt p e below s₁ st0 (mkF m 0 #[vr x_] []) := c0
 have c1 : Kt p e below s₁ st0 (mkF m 1 #[vr x_] [(rr x_)]) := fun t k => by
  refine c0 t ?_
  show S_ p e below s₁ m 0 #[vr x_] [] t
  refine XS.aloadN X0.here hx rfl (hb hby d25_0) rfl rfl ?_
  exact k
 obtain ⟨T2, X2, e2, c2⟩ := kget X0 hx hZ hown (host := "") (Or.inl (w30 hw)) Via.refl e0 F4_ c1 rfl rfl (hb hby d25_1)
 have c3 : Kt p e below T2 st0 (mkF m 33 #[vr x_] [(rr x_)]) := fun t k => by
  refine c2 t ?_
  show S_ p e below T2 m 4 #[vr x_] [(ii (-1))] t
  refine yI X2.here hx rfl 4 32 rfl (hb hby d25_4) rfl rfl ?_
  refine XS.aloadN X2.here hx rfl (hb hby d25_32) rfl rfl ?_
  exact k
 obtain ⟨T4, X4, e4, c4⟩ := kget X2 hx hZ hown (host := "") (Or.inl (w79 hw)) Via.refl e2 F2_ c3 rfl rfl (hb hby d25_33)
 have c5 : Kt p e below T4 st0 (mkF m 40 #[vr x_] [(rr x_)]) := fun t k => by
  refine c4 t ?_
  show S_ p e below T4 m 36 #[vr x_] [.null] t
  refine XS.ifnonnullNo X4.here hx rfl (hb hby d25_36) rfl ?_
  refine XS.aloadN X4.here hx rfl (hb hby d25_39) rfl rfl ?_
  exact k
 obtain ⟨T6, X6, e6, c6⟩ := kget X4 hx hZ hown (host := "") (Or.inl (w81 hw)) Via.refl e4 F3_ c5 rfl rfl (hb hby d25_40)
 have c7 : Kt p e below T6 st0 (mkF m 47 #[vr x_] [(rr x_)]) := fun t k => by
  refine c6 t ?_
  show S_ p e below T6 m 43 #[vr x_] [(rr s_)] t
  refine XS.ifnullNo X6.here hx rfl (hb hby d25_43) rfl ?_
  refine XS.aloadN X6.here hx rfl (hb hby d25_46) rfl rfl ?_
  exact k
 obtain ⟨T8, X8, e8, c8⟩ := kget X6 hx hZ hown (host := "") (Or.inl (w91 hw)) Via.refl e6 F6_ c7 rfl rfl (hb hby d25_47)
 have c9 : Kt p e below T8 st0 (mkF m 55 #[vr x_] [(rr x_), (rr x_)]) := fun t k => by
  refine c8 t ?_
  show S_ p e below T8 m 50 #[vr x_] [(ii (-1))] t
  refine XS.ifNo X8.here hx rfl (hb hby d25_50) rfl rfl ?_
  refine XS.aloadN X8.here hx rfl (hb hby d25_53) rfl rfl ?_
  refine XS.aloadN X8.here hx rfl (hb hby d25_54) rfl rfl ?_
  exact k
 obtain ⟨T10, X10, e10, c10⟩ := kget X8 hx hZ hown (host := "") (Or.inl (w81 hw)) Via.refl e8 F3_ c9 rfl rfl (hb hby d25_55)
 have c11 : Kt p e below T10 st0 (mkF m 59 #[vr x_] [(rr x_), (rr s_), (rr x_)]) := fun t k => by
  refine c10 t ?_
  show S_ p e below T10 m 58 #[vr x_] [(rr s_), (rr x_)] t
  refine XS.aloadN X10.here hx rfl (hb hby d25_58) rfl rfl ?_
  exact k
 obtain ⟨T12, X12, e12, c12⟩ := kget X10 hx hZ hown (host := "") (Or.inl (w89 hw)) Via.refl e10 F5_ c11 rfl rfl (hb hby d25_59)
 obtain ⟨_, T13, L13, X13, hQ13, c13⟩ := kstat X12 hx hZ hown (w98 hw) (w48 hw) (w49 hw) (w50 hw) (rm_mof_2 l Z a0 hw [] s_ bs_ ks_ vs_ z_ j_ h0 n0 O0 E7_ F8_ F9_ A10_ ZS11_ hz_) e12 c12 hml pd_pLjava_lang_String_JrLgleaner_Match_ [(rr s_), (.long j_)] [(rr x_)] 1 (hb hby d25_62) rfl rfl rfl rfl rfl rfl
 obtain ⟨b14, b15, k16, rfl, N17q, K18, p19, p20, p21, p22, p23, p24, p25, p26⟩ := hQ13
 have N17 := Fr.app N0 N17q
 have o27 := O0.keep K18 all0
 have kp28 := kp0.trans K18 all0
 have z29 := Nat.le_trans kp0.1 p25
 have g30 := Nat.le_trans (Nat.le_trans (Nat.le_of_eq O0.1.symm) O0.2.1) p25
 have z31 := Nat.le_trans kp0.1 p26
 have g32 := Nat.le_trans (Nat.le_trans (Nat.le_of_eq O0.1.symm) O0.2.1) p26
 obtain ⟨T33, h33, X33, e33, W33, f34, o36, N35, c33⟩ := kput X13 hx hZ (.object nm2) hown (host := "") (Or.inl (w79 hw)) Via.refl rfl (F2_.keep K18 nin0) (E0_.keep K18) (Or.inl (w80 hw)) (w24 hw) c13 rfl rfl (hb hby d25_65) (by decide) rfl rfl o27 N17 G1_
 have kp37 := kp28.wr W33 (Or.inl (List.mem_of_getElem? (i := 0) rfl))
 have f38 := (F3_.keep K18 nin0).other W33 (Or.inr (slot_ne (Or.inl (w82 hw)) (Or.inl (w80 hw)) (by decide) (t := (.object nm0)) (t' := (.object nm2)) (by decide) (by decide)))
 have c39 : Kt p e below T33 st0 (mkF m 115 #[vr x_] [.null, (rr x_)]) := fun t k => by
  refine c33 t ?_
  show S_ p e below T33 m 68 #[vr x_] [] t
  refine yG X33.here hx rfl 68 113 rfl (hb hby d25_68) ?_
  refine XS.aloadN X33.here hx rfl (hb hby d25_113) rfl rfl ?_
  refine XS.aconstNull X33.here hx rfl (hb hby d25_114) ?_
  exact k
 obtain ⟨T40, h40, X40, e40, W40, f41, o43, N42, c40⟩ := kput X33 hx hZ (.object nm0) hown (host := "") (Or.inl (w81 hw)) Via.refl e33 f38 ((E0_.keep K18).wr W33) (Or.inl (w82 hw)) (w24 hw) c39 rfl rfl (hb hby d25_115) (by decide) rfl rfl o36 N35 G1_
 have kp44 := kp37.wr W40 (Or.inl (List.mem_of_getElem? (i := 0) rfl))
 have f45 := f34.other W40 (Or.inr (slot_ne (Or.inl (w80 hw)) (Or.inl (w82 hw)) (by decide) (t := (.object nm2)) (t' := (.object nm0)) (by decide) (by decide)))
 have c46 : Kt p e below T40 st0 (mkF m 119 #[vr x_] [(rr x_)]) := fun t k => by
  refine c40 t ?_
  show S_ p e below T40 m 118 #[vr x_] [] t
  refine XS.aloadN X40.here hx rfl (hb hby d25_118) rfl rfl ?_
  exact k
 obtain ⟨T47, X47, e47, c47⟩ := kget X40 hx hZ hown (host := "") (Or.inl (w79 hw)) Via.refl e40 f45 c46 rfl rfl (hb hby d25_119)
 have q48 := Ne.symm (Nat.ne_of_lt (Nat.lt_of_lt_of_le E0_.lt p25))
 have q49 := Ne.symm (Nat.ne_of_lt (Nat.lt_of_lt_of_le E0_.lt p26))
 obtain ⟨fs, hr, hrun, hended, hW, hsame⟩ := X47.leave (v := some (rr b14)) (fun h => by rw [Bd.returns] at h; cases h)
 refine ⟨_, _, c47 _ ?_, hrun, hended, _, _, rfl, ?_, ⟨_, rfl⟩, hW, hsame.mono (by decide) (by decide)⟩
 ·show S_ p e below T47 m 122 #[vr x_] [(rr b14)] _
  exact retOut X47 hx Bd.returns rfl (Or.inr (Or.inr (Or.inr (Or.inr ⟨rfl, rfl, rfl⟩)))) (hb hby d25_122) hr
 ·show Q_get_2 Z x_ j_ s_ bs_ ks_ vs_ z_ h0 n0 _ T47.heap _
  rw [e47]
  exact ⟨b14, b15, k16, rfl, N42, kp44, ((p19.wr W33).wr W40), ((p20.other W33 (Or.inl q48)).other W40 (Or.inl q48)), ((p21.other W33 (Or.inl q48)).other W40 (Or.inl q48)), ((p22.other W33 (Or.inl q48)).other W40 (Or.inl q48)), ((p23.other W33 q49).other W40 q49), z29, z31⟩
theorem ef_sub_2 (m : MethodId) (s_ : Addr) : entryFrame m #[(rr s_), (ii 0), (ii 2)] 5 = mkF m 0 #[vr s_, vi 0, vi 2, u_, u_] [] := by first | (simp [entryFrame, mkF, argsToLocals, Value.category]; done) | rfl
def Q_sub_2 (Z : State) (s_ : Addr) (bs_ : Addr) (ks_ : ClassId) (vs_ : List Value) (z_ : Int32) (fm_ : Value) (h0 : Heap) (n0 : Nat) (v : Option Value) (h : Heap) (L : List Loc) : Prop := v = some (rr s_) ∧ Fr n0 L ∧ h = h0
set_option maxRecDepth 65536 in
set_option maxHeartbeats 40000000 in
theorem rm_sub_2 (l : Launch) (Z : State) (a0 : Array Value) (hw : HW Z a0) (ws : List Jvm.Cond) (s_ : Addr) (bs_ : Addr) (ks_ : ClassId) (vs_ : List Value) (z_ : Int32) (fm_ : Value) (h0 : Heap) (n0 : Nat) (O0 : Old Z n0 h0) (E0_ : Exa Z h0 s_ nm0) (F1_ : Fld Z h0 s_ nm0 "coder" "B" (ii 0)) (F2_ : Fld Z h0 s_ nm0 "value" "[B" (rr bs_)) (A3_ : Arv Z h0 bs_ ks_ .byte (2 : Int32) vs_ (ii 0)) (ZS4_ : Sta Z Z.heap nm0 "COMPACT_STRINGS" "Z" (.int z_)) (hz_ : ¬ (z_ = (0 : Int32))) (ZS6_ : Sta Z Z.heap nm4 "SIOOBE_FORMATTER" nm11 fm_) (hfm_ : fm_.isRef = true) :
  MFP l Z (⟨nm0, "substring", "(II)Ljava/lang/String;"⟩ : MethodName) jdk_42_method_92_code 5 (some (.object nm0)) ({ frames := 2, cells := 0, slots := 0, locals := 29 } : Room) ws #[(rr s_), (ii 0), (ii 2)] h0 (Q_sub_2 Z s_ bs_ ks_ vs_ z_ fm_ h0 n0) := by
 refine MetFree.of_bodySF (plainFor_of_name pn_java_lang_String) hisR ?_
 intro p e s m args below meth c s₁ Bd hml0 hP hK
 obtain ⟨rfl, hZ, hh⟩ := hP
 have hx := Bd.exec
 have hby := Bd.bytes
 have hml : c.maxLocals = 5 := hml0
 have hown : s.vm.findClass nm0 = some m.cls := findClass_of_methodNamed Bd.named
 have hnm := (name_of_methodNamed Bd.named Bd.method).1
 have X0 : Stand p l e ({ frames := 2, cells := 0, slots := 0, locals := 29 } : Room) s m #[(rr s_), (ii 0), (ii 2)] below meth c s₁ [] 0 0 := Stand.of_body Bd
 have e0 : s₁.heap = h0 := by rw [← hh, Bd.state]; rfl
 have N0 := Fr.nil n0
 have kp0 : Keep h0 h0 [] := Keep.refl _ _
 have c0 : ∀ t, S_ p e below s₁ m 0 #[vr s_, vi 0, vi 2, u_, u_] [] t → Steps p.tables e below (s₁.setTop (entryFrame m #[(rr s_), (ii 0), (ii 2)] 5)) t := fun t k => castTop (ef_sub_2 m s_) k
 generalize s₁.setTop (entryFrame m #[(rr s_), (ii 0), (ii 2)] 5) = st0 at c0 ⊢
 replace c0 : Kt p e below s₁ st0 (mkF m 0 #[vr s_, vi 0, vi 2, u_, u_] []) := c0
 have c1 : Kt p e below s₁ st0 (mkF m 1 #[vr s_, vi 0, vi 2, u_, u_] [(rr s_)]) := fun t k => by
  refine c0 t ?_
  show S_ p e below s₁ m 0 #[vr s_, vi 0, vi 2, u_, u_] [] t
  refine XS.aloadN X0.here hx rfl (hb hby d26_0) rfl rfl ?_
  exact k
 obtain ⟨_, T2, L2, X2, hQ2, c2⟩ := kvirt X0 hx hZ hown (w129 hw) (w55 hw) (w57 hw) (w56 hw) (w58 hw) (w3 hw) (rm_len_2 l Z a0 hw [] s_ bs_ ks_ vs_ z_ h0 n0 O0 E0_ F1_ F2_ A3_ ZS4_ hz_) e0 E0_ c1 hml pd_prI [] [] 0 (hb hby d26_1) rfl rfl rfl rfl rfl rfl
 obtain ⟨rfl, N3q, K4⟩ := hQ2
 have N3 := Fr.app N0 N3q
 have c5 : Kt p e below T2 st0 (mkF m 8 #[vr s_, vi 0, vi 2, vi 2, u_] [(ii 2), (ii 2), (ii 0)]) := fun t k => by
  refine c2 t ?_
  show S_ p e below T2 m 4 #[vr s_, vi 0, vi 2, u_, u_] [(ii 2)] t
  refine XS.istoreN X2.here hx rfl (hb hby d26_4) rfl (l' := #[vr s_, vi 0, vi 2, vi 2, u_]) rfl ?_
  refine XS.iloadN X2.here hx rfl (hb hby d26_5) rfl ?_
  refine XS.iloadN X2.here hx rfl (hb hby d26_6) rfl ?_
  refine XS.iloadN X2.here hx rfl (hb hby d26_7) rfl ?_
  exact k
 obtain ⟨_, T6, L6, X6, hQ6, c6⟩ := kstat X2 hx hZ hown (w130 hw) (w131 hw) (w3 hw) (w132 hw) (rm_cbe l Z a0 hw [] (2 : Int32) fm_ h0 n0 O0 ZS6_ hfm_ (by decide) (by decide)) K4 c5 hml pd_pIIIrV [(ii 0), (ii 2), (ii 2)] [] 0 (hb hby d26_8) rfl rfl rfl rfl rfl rfl
 obtain ⟨rfl, N7q, K8⟩ := hQ6
 have N7 := Fr.app N3 N7q
 obtain ⟨fs, hr, hrun, hended, hW, hsame⟩ := X6.leave (v := some (rr s_)) (fun h => by rw [Bd.returns] at h; cases h)
 refine ⟨_, _, c6 _ ?_, hrun, hended, _, _, rfl, ?_, ⟨_, rfl⟩, hW, hsame.mono (by decide) (by decide)⟩
 ·show S_ p e below T6 m 11 #[vr s_, vi 0, vi 2, vi 2, u_] [] _
  refine XS.iloadN X6.here hx rfl (hb hby d26_11) rfl ?_
  refine XS.ifNo X6.here hx rfl (hb hby d26_12) rfl rfl ?_
  refine XS.iloadN X6.here hx rfl (hb hby d26_15) rfl ?_
  refine XS.iloadN X6.here hx rfl (hb hby d26_16) rfl ?_
  show S_ p e below T6 m 17 #[vr s_, vi 0, vi 2, vi 2, u_] [(ii 2), (ii 2)] _
  refine XS.icmpNo X6.here hx rfl (hb hby d26_17) rfl rfl ?_
  refine XS.aloadN X6.here hx rfl (hb hby d26_20) rfl rfl ?_
  show S_ p e below T6 m 21 #[vr s_, vi 0, vi 2, vi 2, u_] [(rr s_)] _
  exact retOut X6 hx Bd.returns rfl (Or.inr (Or.inr (Or.inr (Or.inr ⟨rfl, rfl, rfl⟩)))) (hb hby d26_21) hr
 ·show Q_sub_2 Z s_ bs_ ks_ vs_ z_ fm_ h0 n0 _ T6.heap _
  rw [K8]
  exact ⟨rfl, N7, rfl⟩
theorem ef_grI_2 (m : MethodId) (m_ : Addr) : entryFrame m #[(rr m_), (ii 0)] 3 = mkF m 0 #[vr m_, vi 0, u_] [] := by first | (simp [entryFrame, mkF, argsToLocals, Value.category]; done) | rfl
def Q_grI_2 (Z : State) (m_ : Addr) (b_ : Addr) (kb_ : ClassId) (j_ : Int64) (s_ : Addr) (bs_ : Addr) (ks_ : ClassId) (vs_ : List Value) (z_ : Int32) (fm_ : Value) (h0 : Heap) (n0 : Nat) (v : Option Value) (h : Heap) (L : List Loc) : Prop := v = some (rr s_) ∧ Fr n0 L ∧ h = h0
set_option maxRecDepth 65536 in
set_option maxHeartbeats 40000000 in
theorem rm_grI_2 (l : Launch) (Z : State) (a0 : Array Value) (hw : HW Z a0) (ws : List Jvm.Cond) (m_ : Addr) (b_ : Addr) (kb_ : ClassId) (j_ : Int64) (s_ : Addr) (bs_ : Addr) (ks_ : ClassId) (vs_ : List Value) (z_ : Int32) (fm_ : Value) (h0 : Heap) (n0 : Nat) (O0 : Old Z n0 h0) (E0_ : Exa Z h0 m_ nm2) (F1_ : Fld Z h0 m_ nm2 "text" nm3 (rr s_)) (F2_ : Fld Z h0 m_ nm2 "offset" "J" (.long j_)) (F3_ : Fld Z h0 m_ nm2 "bounds" "[I" (rr b_)) (A4_ : Arv Z h0 b_ kb_ .int (2 : Int32) [(ii 0), (ii 2)] (ii 0)) (E5_ : Exa Z h0 s_ nm0) (F6_ : Fld Z h0 s_ nm0 "coder" "B" (ii 0)) (F7_ : Fld Z h0 s_ nm0 "value" "[B" (rr bs_)) (A8_ : Arv Z h0 bs_ ks_ .byte (2 : Int32) vs_ (ii 0)) (ZS9_ : Sta Z Z.heap nm0 "COMPACT_STRINGS" "Z" (.int z_)) (hz_ : ¬ (z_ = (0 : Int32))) (ZS11_ : Sta Z Z.heap nm4 "SIOOBE_FORMATTER" nm11 fm_) (hfm_ : fm_.isRef = true) :
  MFP l Z (⟨nm2, "group", "(I)Ljava/lang/String;"⟩ : MethodName) prog_18_method_11_code 3 (some (.object nm0)) ({ frames := 3, cells := 0, slots := 0, locals := 45 } : Room) ws #[(rr m_), (ii 0)] h0 (Q_grI_2 Z m_ b_ kb_ j_ s_ bs_ ks_ vs_ z_ fm_ h0 n0) := by
 refine MetFree.of_bodySF (plainFor_of_name pn_gleaner_Match) hisR ?_
 intro p e s m args below meth c s₁ Bd hml0 hP hK
 obtain ⟨rfl, hZ, hh⟩ := hP
 have hx := Bd.exec
 have hby := Bd.bytes
 have hml : c.maxLocals = 3 := hml0
 have hown : s.vm.findClass nm2 = some m.cls := findClass_of_methodNamed Bd.named
 have hnm := (name_of_methodNamed Bd.named Bd.method).1
 have X0 : Stand p l e ({ frames := 3, cells := 0, slots := 0, locals := 45 } : Room) s m #[(rr m_), (ii 0)] below meth c s₁ [] 0 0 := Stand.of_body Bd
 have e0 : s₁.heap = h0 := by rw [← hh, Bd.state]; rfl
 have N0 := Fr.nil n0
 have kp0 : Keep h0 h0 [] := Keep.refl _ _
 have c0 : ∀ t, S_ p e below s₁ m 0 #[vr m_, vi 0, u_] [] t → Steps p.tables e below (s₁.setTop (entryFrame m #[(rr m_), (ii 0)] 3)) t := fun t k => castTop (ef_grI_2 m m_) k
 generalize s₁.setTop (entryFrame m #[(rr m_), (ii 0)] 3) = st0 at c0 ⊢
 replace c0 : Kt p e below s₁ st0 (mkF m 0 #[vr m_, vi 0, u_] []) := c0
 have c1 : Kt p e below s₁ st0 (mkF m 1 #[vr m_, vi 0, u_] [(rr m_)]) := fun t k => by
  refine c0 t ?_
  show S_ p e below s₁ m 0 #[vr m_, vi 0, u_] [] t
  refine XS.aloadN X0.here hx rfl (hb hby d27_0) rfl rfl ?_
  exact k
 obtain ⟨T2, X2, e2, c2⟩ := kget X0 hx hZ hown (host := "") (Or.inl (w72 hw)) Via.refl e0 F3_ c1 rfl rfl (hb hby d27_1)
 have c3 : Kt p e below T2 st0 (mkF m 6 #[vr m_, vi 0, u_] [(ii 0), (rr m_), (rr b_)]) := fun t k => by
  refine c2 t ?_
  show S_ p e below T2 m 4 #[vr m_, vi 0, u_] [(rr b_)] t
  refine XS.aloadN X2.here hx rfl (hb hby d27_4) rfl rfl ?_
  refine XS.iloadN X2.here hx rfl (hb hby d27_5) rfl ?_
  exact k
 obtain ⟨_, T4, L4, X4, hQ4, c4⟩ := kpriv X2 hx hZ hown (w115 hw) (w52 hw) (w117 hw) (w116 hw) (w118 hw) (w49 hw) (rm_chk l Z a0 hw [] m_ b_ kb_ [(ii 0), (ii 2)] h0 n0 O0 E0_ F3_ A4_) e2 E0_ c3 hml pd_pIrI [(ii 0)] [(rr b_)] 1 (hb hby d27_6) rfl rfl rfl rfl rfl rfl
 obtain ⟨rfl, N5q, K6⟩ := hQ4
 have N5 := Fr.app N0 N5q
 have c7 : Kt p e below T4 st0 (mkF m 20 #[vr m_, vi 0, vi 0] [(rr m_)]) := fun t k => by
  refine c4 t ?_
  show S_ p e below T4 m 9 #[vr m_, vi 0, u_] [(ii 0), (rr b_)] t
  refine ldI X4 hx hZ K6 A4_ (v := (ii 0)) (by decide) (by decide) rfl rfl rfl (hb hby d27_9) ?_
  refine XS.istoreN X4.here hx rfl (hb hby d27_10) rfl (l' := #[vr m_, vi 0, vi 0]) rfl ?_
  refine XS.iloadN X4.here hx rfl (hb hby d27_11) rfl ?_
  refine yI X4.here hx rfl 12 19 rfl (hb hby d27_12) rfl rfl ?_
  show S_ p e below T4 m 19 #[vr m_, vi 0, vi 0] [] t
  refine XS.aloadN X4.here hx rfl (hb hby d27_19) rfl rfl ?_
  exact k
 obtain ⟨T8, X8, e8, c8⟩ := kget X4 hx hZ hown (host := "") (Or.inl (w68 hw)) Via.refl K6 F1_ c7 rfl rfl (hb hby d27_20)
 have c9 : Kt p e below T8 st0 (mkF m 25 #[vr m_, vi 0, vi 0] [(rr m_), (ii 0), (rr s_)]) := fun t k => by
  refine c8 t ?_
  show S_ p e below T8 m 23 #[vr m_, vi 0, vi 0] [(rr s_)] t
  refine XS.iloadN X8.here hx rfl (hb hby d27_23) rfl ?_
  refine XS.aloadN X8.here hx rfl (hb hby d27_24) rfl rfl ?_
  exact k
 obtain ⟨T10, X10, e10, c10⟩ := kget X8 hx hZ hown (host := "") (Or.inl (w72 hw)) Via.refl e8 F3_ c9 rfl rfl (hb hby d27_25)
 have c11 : Kt p e below T10 st0 (mkF m 34 #[vr m_, vi 0, vi 0] [(ii 2), (ii 0), (rr s_)]) := fun t k => by
  refine c10 t ?_
  show S_ p e below T10 m 28 #[vr m_, vi 0, vi 0] [(rr b_), (ii 0), (rr s_)] t
  refine XS.iconst X10.here hx rfl (hb hby d27_28) ?_
  refine XS.iloadN X10.here hx rfl (hb hby d27_29) rfl ?_
  refine XS.imul X10.here hx rfl (hb hby d27_30) rfl ?_
  refine XS.iconst X10.here hx rfl (hb hby d27_31) ?_
  show S_ p e below T10 m 32 #[vr m_, vi 0, vi 0] [(ii 1), (ii 0), (rr b_), (ii 0), (rr s_)] t
  refine XS.iadd X10.here hx rfl (hb hby d27_32) rfl ?_
  refine ldI X10 hx hZ e10 A4_ (v := (ii 2)) (by decide) (by decide) rfl rfl rfl (hb hby d27_33) ?_
  exact k
 obtain ⟨_, T12, L12, X12, hQ12, c12⟩ := kvirt X10 hx hZ hown (w124 hw) (w125 hw) (w127 hw) (w126 hw) (w128 hw) (w3 hw) (rm_sub_2 l Z a0 hw [] s_ bs_ ks_ vs_ z_ fm_ h0 n0 O0 E5_ F6_ F7_ A8_ ZS9_ hz_ ZS11_ hfm_) e10 E5_ c11 hml pd_pIIrLjava_lang_String_ [(ii 0), (ii 2)] [] 0 (hb hby d27_34) rfl rfl rfl rfl rfl rfl
 obtain ⟨rfl, N13q, K14⟩ := hQ12
 have N13 := Fr.app N5 N13q
 obtain ⟨fs, hr, hrun, hended, hW, hsame⟩ := X12.leave (v := some (rr s_)) (fun h => by rw [Bd.returns] at h; cases h)
 refine ⟨_, _, c12 _ ?_, hrun, hended, _, _, rfl, ?_, ⟨_, rfl⟩, hW, hsame.mono (by decide) (by decide)⟩
 ·show S_ p e below T12 m 37 #[vr m_, vi 0, vi 0] [(rr s_)] _
  exact retOut X12 hx Bd.returns rfl (Or.inr (Or.inr (Or.inr (Or.inr ⟨rfl, rfl, rfl⟩)))) (hb hby d27_37) hr
 ·show Q_grI_2 Z m_ b_ kb_ j_ s_ bs_ ks_ vs_ z_ fm_ h0 n0 _ T12.heap _
  rw [K14]
  exact ⟨rfl, N13, rfl⟩
theorem ef_gr_2 (m : MethodId) (m_ : Addr) : entryFrame m #[(rr m_)] 1 = mkF m 0 #[vr m_] [] := by first | (simp [entryFrame, mkF, argsToLocals, Value.category]; done) | rfl
def Q_gr_2 (Z : State) (m_ : Addr) (b_ : Addr) (kb_ : ClassId) (j_ : Int64) (s_ : Addr) (bs_ : Addr) (ks_ : ClassId) (vs_ : List Value) (z_ : Int32) (fm_ : Value) (h0 : Heap) (n0 : Nat) (v : Option Value) (h : Heap) (L : List Loc) : Prop := v = some (rr s_) ∧ Fr n0 L ∧ h = h0
set_option maxRecDepth 65536 in
set_option maxHeartbeats 40000000 in
theorem rm_gr_2 (l : Launch) (Z : State) (a0 : Array Value) (hw : HW Z a0) (ws : List Jvm.Cond) (m_ : Addr) (b_ : Addr) (kb_ : ClassId) (j_ : Int64) (s_ : Addr) (bs_ : Addr) (ks_ : ClassId) (vs_ : List Value) (z_ : Int32) (fm_ : Value) (h0 : Heap) (n0 : Nat) (O0 : Old Z n0 h0) (E0_ : Exa Z h0 m_ nm2) (F1_ : Fld Z h0 m_ nm2 "text" nm3 (rr s_)) (F2_ : Fld Z h0 m_ nm2 "offset" "J" (.long j_)) (F3_ : Fld Z h0 m_ nm2 "bounds" "[I" (rr b_)) (A4_ : Arv Z h0 b_ kb_ .int (2 : Int32) [(ii 0), (ii 2)] (ii 0)) (E5_ : Exa Z h0 s_ nm0) (F6_ : Fld Z h0 s_ nm0 "coder" "B" (ii 0)) (F7_ : Fld Z h0 s_ nm0 "value" "[B" (rr bs_)) (A8_ : Arv Z h0 bs_ ks_ .byte (2 : Int32) vs_ (ii 0)) (ZS9_ : Sta Z Z.heap nm0 "COMPACT_STRINGS" "Z" (.int z_)) (hz_ : ¬ (z_ = (0 : Int32))) (ZS11_ : Sta Z Z.heap nm4 "SIOOBE_FORMATTER" nm11 fm_) (hfm_ : fm_.isRef = true) :
  MFP l Z (⟨nm2, "group", "()Ljava/lang/String;"⟩ : MethodName) prog_18_method_10_code 1 (some (.object nm0)) ({ frames := 4, cells := 0, slots := 0, locals := 59 } : Room) ws #[(rr m_)] h0 (Q_gr_2 Z m_ b_ kb_ j_ s_ bs_ ks_ vs_ z_ fm_ h0 n0) := by
 refine MetFree.of_bodySF (plainFor_of_name pn_gleaner_Match) hisR ?_
 intro p e s m args below meth c s₁ Bd hml0 hP hK
 obtain ⟨rfl, hZ, hh⟩ := hP
 have hx := Bd.exec
 have hby := Bd.bytes
 have hml : c.maxLocals = 1 := hml0
 have hown : s.vm.findClass nm2 = some m.cls := findClass_of_methodNamed Bd.named
 have hnm := (name_of_methodNamed Bd.named Bd.method).1
 have X0 : Stand p l e ({ frames := 4, cells := 0, slots := 0, locals := 59 } : Room) s m #[(rr m_)] below meth c s₁ [] 0 0 := Stand.of_body Bd
 have e0 : s₁.heap = h0 := by rw [← hh, Bd.state]; rfl
 have N0 := Fr.nil n0
 have kp0 : Keep h0 h0 [] := Keep.refl _ _
 have c0 : ∀ t, S_ p e below s₁ m 0 #[vr m_] [] t → Steps p.tables e below (s₁.setTop (entryFrame m #[(rr m_)] 1)) t := fun t k => castTop (ef_gr_2 m m_) k
 generalize s₁.setTop (entryFrame m #[(rr m_)] 1) = st0 at c0 ⊢
 replace c0 : Kt p e below s₁ st0 (mkF m 0 #[vr m_] []) := c0
 have c1 : Kt p e below s₁ st0 (mkF m 2 #[vr m_] [(ii 0), (rr m_)]) := fun t k => by
  refine c0 t ?_
  show S_ p e below s₁ m 0 #[vr m_] [] t
  refine XS.aloadN X0.here hx rfl (hb hby d28_0) rfl rfl ?_
  refine XS.iconst X0.here hx rfl (hb hby d28_1) ?_
  exact k
 obtain ⟨_, T2, L2, X2, hQ2, c2⟩ := kvirt X0 hx hZ hown (w110 hw) (w111 hw) (w113 hw) (w112 hw) (w114 hw) (w49 hw) (rm_grI_2 l Z a0 hw [] m_ b_ kb_ j_ s_ bs_ ks_ vs_ z_ fm_ h0 n0 O0 E0_ F1_ F2_ F3_ A4_ E5_ F6_ F7_ A8_ ZS9_ hz_ ZS11_ hfm_) e0 E0_ c1 hml pd_pIrLjava_lang_String_ [(ii 0)] [] 0 (hb hby d28_2) rfl rfl rfl rfl rfl rfl
 obtain ⟨rfl, N3q, K4⟩ := hQ2
 have N3 := Fr.app N0 N3q
 obtain ⟨fs, hr, hrun, hended, hW, hsame⟩ := X2.leave (v := some (rr s_)) (fun h => by rw [Bd.returns] at h; cases h)
 refine ⟨_, _, c2 _ ?_, hrun, hended, _, _, rfl, ?_, ⟨_, rfl⟩, hW, hsame.mono (by decide) (by decide)⟩
 ·show S_ p e below T2 m 5 #[vr m_] [(rr s_)] _
  exact retOut X2 hx Bd.returns rfl (Or.inr (Or.inr (Or.inr (Or.inr ⟨rfl, rfl, rfl⟩)))) (hb hby d28_5) hr
 ·show Q_gr_2 Z m_ b_ kb_ j_ s_ bs_ ks_ vs_ z_ fm_ h0 n0 _ T2.heap _
  rw [K4]
  exact ⟨rfl, N3, rfl⟩
theorem ef_len_3 (m : MethodId) (s_ : Addr) : entryFrame m #[(rr s_)] 1 = mkF m 0 #[vr s_] [] := by first | (simp [entryFrame, mkF, argsToLocals, Value.category]; done) | rfl
def Q_len_3 (Z : State) (s_ : Addr) (bs_ : Addr) (ks_ : ClassId) (vs_ : List Value) (z_ : Int32) (h0 : Heap) (n0 : Nat) (v : Option Value) (h : Heap) (L : List Loc) : Prop := v = some (ii 3) ∧ Fr n0 L ∧ h = h0
set_option maxRecDepth 65536 in
set_option maxHeartbeats 40000000 in
theorem rm_len_3 (l : Launch) (Z : State) (a0 : Array Value) (hw : HW Z a0) (ws : List Jvm.Cond) (s_ : Addr) (bs_ : Addr) (ks_ : ClassId) (vs_ : List Value) (z_ : Int32) (h0 : Heap) (n0 : Nat) (O0 : Old Z n0 h0) (E0_ : Exa Z h0 s_ nm0) (F1_ : Fld Z h0 s_ nm0 "coder" "B" (ii 0)) (F2_ : Fld Z h0 s_ nm0 "value" "[B" (rr bs_)) (A3_ : Arv Z h0 bs_ ks_ .byte (3 : Int32) vs_ (ii 0)) (ZS4_ : Sta Z Z.heap nm0 "COMPACT_STRINGS" "Z" (.int z_)) (hz_ : ¬ (z_ = (0 : Int32))) :
  MFP l Z (⟨nm0, "length", "()I"⟩ : MethodName) jdk_42_method_54_code 1 (some .int) ({ frames := 1, cells := 0, slots := 0, locals := 13 } : Room) ws #[(rr s_)] h0 (Q_len_3 Z s_ bs_ ks_ vs_ z_ h0 n0) := by
 refine MetFree.of_bodySF (plainFor_of_name pn_java_lang_String) hisR ?_
 intro p e s m args below meth c s₁ Bd hml0 hP hK
 obtain ⟨rfl, hZ, hh⟩ := hP
 have hx := Bd.exec
 have hby := Bd.bytes
 have hml : c.maxLocals = 1 := hml0
 have hown : s.vm.findClass nm0 = some m.cls := findClass_of_methodNamed Bd.named
 have hnm := (name_of_methodNamed Bd.named Bd.method).1
 have X0 : Stand p l e ({ frames := 1, cells := 0, slots := 0, locals := 13 } : Room) s m #[(rr s_)] below meth c s₁ [] 0 0 := Stand.of_body Bd
 have e0 : s₁.heap = h0 := by rw [← hh, Bd.state]; rfl
 have N0 := Fr.nil n0
 have kp0 : Keep h0 h0 [] := Keep.refl _ _
 have c0 : ∀ t, S_ p e below s₁ m 0 #[vr s_] [] t → Steps p.tables e below (s₁.setTop (entryFrame m #[(rr s_)] 1)) t := fun t k => castTop (ef_len_3 m s_) k
 generalize s₁.setTop (entryFrame m #[(rr s_)] 1) = st0 at c0 ⊢
 replace c0 : Kt p e below s₁ st0 (mkF m 0 #[vr s_] []) := c0
 have c1 : Kt p e below s₁ st0 (mkF m 1 #[vr s_] [(rr s_)]) := fun t k => by
  refine c0 t ?_
  show S_ p e below s₁ m 0 #[vr s_] [] t
  refine XS.aloadN X0.here hx rfl (hb hby d23_0) rfl rfl ?_
  exact k
 obtain ⟨T2, X2, e2, c2⟩ := kget X0 hx hZ hown (host := "") (Or.inl (w20 hw)) Via.refl e0 F2_ c1 rfl rfl (hb hby d23_1)
 have c3 : Kt p e below T2 st0 (mkF m 6 #[vr s_] [(rr s_), (ii 3)]) := fun t k => by
  refine c2 t ?_
  show S_ p e below T2 m 4 #[vr s_] [(rr bs_)] t
  refine ldLen X2 hx hZ e2 A3_ rfl rfl (hb hby d23_4) ?_
  refine XS.aloadN X2.here hx rfl (hb hby d23_5) rfl rfl ?_
  exact k
 obtain ⟨_, T4, L4, X4, hQ4, c4⟩ := kvirt X2 hx hZ hown (w59 hw) (w60 hw) (w62 hw) (w61 hw) (w63 hw) (w3 hw) (rm_codL l Z a0 hw [] s_ z_ h0 n0 O0 F1_ ZS4_ hz_) e2 E0_ c3 hml pd_prB [] [(ii 3)] 1 (hb hby d23_6) rfl rfl rfl rfl rfl rfl
 obtain ⟨rfl, N5q, K6⟩ := hQ4
 have N5 := Fr.app N0 N5q
 obtain ⟨fs, hr, hrun, hended, hW, hsame⟩ := X4.leave (v := some (ii 3)) (fun h => by rw [Bd.returns] at h; cases h)
 refine ⟨_, _, c4 _ ?_, hrun, hended, _, _, rfl, ?_, ⟨_, rfl⟩, hW, hsame.mono (by decide) (by decide)⟩
 ·show S_ p e below T4 m 9 #[vr s_] [(ii 0), (ii 3)] _
  refine XS.ishr X4.here hx rfl (hb hby d23_9) rfl ?_
  show S_ p e below T4 m 10 #[vr s_] [(ii 3)] _
  exact retOut X4 hx Bd.returns rfl (Or.inl ⟨rfl, Or.inl rfl, _, rfl⟩) (hb hby d23_10) hr
 ·show Q_len_3 Z s_ bs_ ks_ vs_ z_ h0 n0 _ T4.heap _
  rw [K6]
  exact ⟨rfl, N5, rfl⟩
theorem ef_mof_3 (m : MethodId) (s_ : Addr) (j_ : Int64) : entryFrame m #[(rr s_), (.long j_)] 3 = mkF m 0 #[vr s_, vj j_, .second] [] := by first | (simp [entryFrame, mkF, argsToLocals, Value.category]; done) | rfl
def Q_mof_3 (Z : State) (s_ : Addr) (bs_ : Addr) (ks_ : ClassId) (vs_ : List Value) (z_ : Int32) (j_ : Int64) (h0 : Heap) (n0 : Nat) (v : Option Value) (h : Heap) (L : List Loc) : Prop := ∃ (m_ : Addr), ∃ (b_ : Addr), ∃ (kb_ : ClassId), v = some (rr m_) ∧ Fr n0 L ∧ Keep h0 h [] ∧ Exa Z h m_ nm2 ∧ Fld Z h m_ nm2 "text" nm3 (rr s_) ∧ Fld Z h m_ nm2 "offset" "J" (.long j_) ∧ Fld Z h m_ nm2 "bounds" "[I" (rr b_) ∧ Arv Z h b_ kb_ .int (2 : Int32) [(ii 0), (ii 3)] (ii 0) ∧ n0 ≤ m_ ∧ h0.size ≤ m_ ∧ h0.size ≤ b_
set_option maxRecDepth 65536 in
set_option maxHeartbeats 40000000 in
theorem rm_mof_3 (l : Launch) (Z : State) (a0 : Array Value) (hw : HW Z a0) (ws : List Jvm.Cond) (s_ : Addr) (bs_ : Addr) (ks_ : ClassId) (vs_ : List Value) (z_ : Int32) (j_ : Int64) (h0 : Heap) (n0 : Nat) (O0 : Old Z n0 h0) (E0_ : Exa Z h0 s_ nm0) (F1_ : Fld Z h0 s_ nm0 "coder" "B" (ii 0)) (F2_ : Fld Z h0 s_ nm0 "value" "[B" (rr bs_)) (A3_ : Arv Z h0 bs_ ks_ .byte (3 : Int32) vs_ (ii 0)) (ZS4_ : Sta Z Z.heap nm0 "COMPACT_STRINGS" "Z" (.int z_)) (hz_ : ¬ (z_ = (0 : Int32))) :
  MFP l Z (⟨nm2, "of", nm13⟩ : MethodName) prog_18_method_2_code 3 (some (.object nm2)) ({ frames := 2, cells := 2, slots := 5, locals := 33 } : Room) ws #[(rr s_), (.long j_)] h0 (Q_mof_3 Z s_ bs_ ks_ vs_ z_ j_ h0 n0) := by
 refine MetFree.of_bodySF (plainFor_of_name pn_gleaner_Match) hisR ?_
 intro p e s m args below meth c s₁ Bd hml0 hP hK
 obtain ⟨rfl, hZ, hh⟩ := hP
 have hx := Bd.exec
 have hby := Bd.bytes
 have hml : c.maxLocals = 3 := hml0
 have hown : s.vm.findClass nm2 = some m.cls := findClass_of_methodNamed Bd.named
 have hnm := (name_of_methodNamed Bd.named Bd.method).1
 have X0 : Stand p l e ({ frames := 2, cells := 2, slots := 5, locals := 33 } : Room) s m #[(rr s_), (.long j_)] below meth c s₁ [] 0 0 := Stand.of_body Bd
 have e0 : s₁.heap = h0 := by rw [← hh, Bd.state]; rfl
 have N0 := Fr.nil n0
 have kp0 : Keep h0 h0 [] := Keep.refl _ _
 have c0 : ∀ t, S_ p e below s₁ m 0 #[vr s_, vj j_, .second] [] t → Steps p.tables e below (s₁.setTop (entryFrame m #[(rr s_), (.long j_)] 3)) t := fun t k => castTop (ef_mof_3 m s_ j_) k
 generalize s₁.setTop (entryFrame m #[(rr s_), (.long j_)] 3) = st0 at c0 ⊢
 replace c0 : Kt p e below s₁ st0 (mkF m 0 #[vr s_, vj j_, .second] []) := c0
 obtain ⟨b1, T1, h1, z1, g1, X1, e1, E1, o2, A1, D1, U1, c1⟩ := knew X0 hx hZ hown (w51 hw) (w52 hw) (w49 hw) e0 c0 rfl (hb hby d24_0) (by decide) (by decide) O0
 have kp3 := kp0.ext E1
 have z4 := Nat.le_trans kp0.1 z1
 have c5 : Kt p e below T1 st0 (mkF m 7 #[vr s_, vj j_, .second] [(ii 2), (.long j_), (rr s_), (rr b1), (rr b1)]) := fun t k => by
  refine c1 t ?_
  show S_ p e below T1 m 3 #[vr s_, vj j_, .second] [(rr b1)] t
  refine XS.dup X1.here hx rfl (hb hby d24_3) rfl rfl ?_
  refine XS.aloadN X1.here hx rfl (hb hby d24_4) rfl rfl ?_
  refine XS.lloadN X1.here hx rfl (hb hby d24_5) rfl ?_
  refine XS.iconst X1.here hx rfl (hb hby d24_6) ?_
  exact k
 obtain ⟨b6, T6, h6, k6, z6, g6, X6, e6, E6, o7, A6, c6⟩ := knewP (aty := .int) X1 hx hZ (w53 hw) e1 c5 rfl (hb hby d24_7) rfl (by decide) 2 (by decide) (by decide) (by decide) (by decide) o2
 have kp9 := kp3.ext E6
 have z10 := Nat.le_trans kp3.1 z6
 have f8 : Arv Z h6 b6 k6 .int (2 : Int32) [(ii 0), (ii 0)] (ii 0) := A6.pad (pad_rep [] (ii 0) 2)
 have c11 : Kt p e below T6 st0 (mkF m 12 #[vr s_, vj j_, .second] [(ii 0), (ii 0), (rr b6), (rr b6), (.long j_), (rr s_), (rr b1), (rr b1)]) := fun t k => by
  refine c6 t ?_
  show S_ p e below T6 m 9 #[vr s_, vj j_, .second] [(rr b6), (.long j_), (rr s_), (rr b1), (rr b1)] t
  refine XS.dup X6.here hx rfl (hb hby d24_9) rfl rfl ?_
  refine XS.iconst X6.here hx rfl (hb hby d24_10) ?_
  refine XS.iconst X6.here hx rfl (hb hby d24_11) ?_
  exact k
 obtain ⟨T12, h12, X12, e12, W12, f15, o13, N14, c12⟩ := kstI X6 hx hZ e6 f8 (j := (0 : Int32)) (by decide) (by decide) 0 rfl (Nat.le_of_ble_eq_true rfl) c11 rfl rfl (hb hby d24_12) o7 N0 g6
 have f16 : Arv Z h12 b6 k6 .int (2 : Int32) [(ii 0), (ii 0)] (ii 0) := f15
 have kp17 := kp9.wr W12 (Or.inr z10)
 have q18 := Nat.ne_of_lt (Nat.lt_of_lt_of_le (E0_.ext E1).lt z6)
 have q19 := Nat.ne_of_lt (Nat.lt_of_lt_of_le (A3_.ext E1).lt z6)
 have c20 : Kt p e below T12 st0 (mkF m 16 #[vr s_, vj j_, .second] [(rr s_), (ii 1), (rr b6), (rr b6), (.long j_), (rr s_), (rr b1), (rr b1)]) := fun t k => by
  refine c12 t ?_
  show S_ p e below T12 m 13 #[vr s_, vj j_, .second] [(rr b6), (.long j_), (rr s_), (rr b1), (rr b1)] t
  refine XS.dup X12.here hx rfl (hb hby d24_13) rfl rfl ?_
  refine XS.iconst X12.here hx rfl (hb hby d24_14) ?_
  refine XS.aloadN X12.here hx rfl (hb hby d24_15) rfl rfl ?_
  exact k
 obtain ⟨_, T21, L21, X21, hQ21, c21⟩ := kvirt X12 hx hZ hown (w54 hw) (w55 hw) (w57 hw) (w56 hw) (w58 hw) (w3 hw) (rm_len_3 l Z a0 hw [] s_ bs_ ks_ vs_ z_ h12 n0 o13 (((E0_.ext E1).ext E6).wr W12) (((F1_.ext E1).ext E6).other W12 (Or.inl q18)) (((F2_.ext E1).ext E6).other W12 (Or.inl q18)) (((A3_.ext E1).ext E6).other W12 q19) ZS4_ hz_) e12 (((E0_.ext E1).ext E6).wr W12) c20 hml pd_prI [] [(ii 1), (rr b6), (rr b6), (.long j_), (rr s_), (rr b1), (rr b1)] 8 (hb hby d24_16) rfl rfl rfl rfl rfl rfl
 obtain ⟨rfl, N22q, K23⟩ := hQ21
 have N22 := Fr.app N14 N22q
 obtain ⟨T24, h24, X24, e24, W24, f27, o25, N26, c24⟩ := kstI X21 hx hZ K23 f16 (j := (1 : Int32)) (by decide) (by decide) 1 rfl (Nat.le_of_ble_eq_true rfl) c21 rfl rfl (hb hby d24_19) o13 N22 g6
 have f28 : Arv Z h24 b6 k6 .int (2 : Int32) [(ii 0), (ii 3)] (ii 0) := f27
 have kp29 := kp17.wr W24 (Or.inr z10)
 have q30 := Nat.ne_of_lt (Nat.lt_of_lt_of_le A1.lt z6)
 have f31 := (((show Fld Z h1 b1 nm2 "text" nm3 .null from D1 (Or.inr (w69 hw)) (ty := (.object nm0)) (by decide)).ext E6).other W12 (Or.inl q30)).other W24 (Or.inl q30)
 have f32 := (((show Fld Z h1 b1 nm2 "offset" "J" (.long (0 : Int64)) from D1 (Or.inr (w71 hw)) (ty := .long) (by decide)).ext E6).other W12 (Or.inl q30)).other W24 (Or.inl q30)
 have f33 := (((show Fld Z h1 b1 nm2 "bounds" "[I" .null from D1 (Or.inr (w73 hw)) (ty := (.array .int)) (by decide)).ext E6).other W12 (Or.inl q30)).other W24 (Or.inl q30)
 obtain ⟨_, T34, L34, X34, hQ34, c34⟩ := kspec X24 hx hZ hown (w64 hw) (w65 hw) (w49 hw) (w66 hw) (rm_minit l Z a0 hw [] b1 s_ j_ b6 h24 n0 o25 (((A1.ext E6).wr W12).wr W24) f31 f32 f33 g1) e24 c24 hml pd_pLjava_lang_String_JAIrV b1 [(rr s_), (.long j_), (rr b6)] [(rr b1)] 1 (hb hby d24_20) rfl rfl rfl rfl rfl rfl
 obtain ⟨rfl, N35q, K36, p37, p38, p39, p40⟩ := hQ34
 have N35 := Fr.app N26 N35q
 have o41 := o25.keep K36 (allS g1 all0)
 have kp42 := kp29.trans K36 (allS (Or.inr z4) all0)
 obtain ⟨fs, hr, hrun, hended, hW, hsame⟩ := X34.leave (v := some (rr b1)) (fun h => by rw [Bd.returns] at h; cases h)
 refine ⟨_, _, c34 _ ?_, hrun, hended, _, _, rfl, ?_, ⟨_, rfl⟩, hW, hsame.mono (by decide) (by decide)⟩
 ·show S_ p e below T34 m 23 #[vr s_, vj j_, .second] [(rr b1)] _
  exact retOut X34 hx Bd.returns rfl (Or.inr (Or.inr (Or.inr (Or.inr ⟨rfl, rfl, rfl⟩)))) (hb hby d24_23) hr
 ·show Q_mof_3 Z s_ bs_ ks_ vs_ z_ j_ h0 n0 _ T34.heap _
  exact ⟨b1, b6, k6, rfl, N35, kp42, p37, p38, p39, p40, (f28.keep K36 (ninS q30.symm nin0)), g1, z4, z10⟩
theorem ef_get_3 (m : MethodId) (x_ : Addr) : entryFrame m #[(rr x_)] 1 = mkF m 0 #[vr x_] [] := by first | (simp [entryFrame, mkF, argsToLocals, Value.category]; done) | rfl
def Q_get_3 (Z : State) (x_ : Addr) (j_ : Int64) (s_ : Addr) (bs_ : Addr) (ks_ : ClassId) (vs_ : List Value) (z_ : Int32) (h0 : Heap) (n0 : Nat) (v : Option Value) (h : Heap) (L : List Loc) : Prop := ∃ (m_ : Addr), ∃ (b_ : Addr), ∃ (kb_ : ClassId), v = some (rr m_) ∧ Fr n0 L ∧ Keep h0 h [x_] ∧ Exa Z h m_ nm2 ∧ Fld Z h m_ nm2 "text" nm3 (rr s_) ∧ Fld Z h m_ nm2 "offset" "J" (.long j_) ∧ Fld Z h m_ nm2 "bounds" "[I" (rr b_) ∧ Arv Z h b_ kb_ .int (2 : Int32) [(ii 0), (ii 3)] (ii 0) ∧ h0.size ≤ m_ ∧ h0.size ≤ b_
set_option maxRecDepth 65536 in
set_option maxHeartbeats 40000000 in
theorem rm_get_3 (l : Launch) (Z : State) (a0 : Array Value) (hw : HW Z a0) (ws : List Jvm.Cond) (x_ : Addr) (j_ : Int64) (s_ : Addr) (bs_ : Addr) (ks_ : ClassId) (vs_ : List Value) (z_ : Int32) (h0 : Heap) (n0 : Nat) (O0 : Old Z n0 h0) (E0_ : Exa Z h0 x_ nm1) (G1_ : n0 ≤ x_) (F2_ : Fld Z h0 x_ nm1 "made" nm10 .null) (F3_ : Fld Z h0 x_ nm1 "read" nm3 (rr s_)) (F4_ : Fld Z h0 x_ nm1 "copiedLength" "I" (ii (-1))) (F5_ : Fld Z h0 x_ nm1 "offset" "J" (.long j_)) (F6_ : Fld Z h0 x_ nm1 "terminatorLength" "I" (ii (-1))) (E7_ : Exa Z h0 s_ nm0) (F8_ : Fld Z h0 s_ nm0 "coder" "B" (ii 0)) (F9_ : Fld Z h0 s_ nm0 "value" "[B" (rr bs_)) (A10_ : Arv Z h0 bs_ ks_ .byte (3 : Int32) vs_ (ii 0)) (ZS11_ : Sta Z Z.heap nm0 "COMPACT_STRINGS" "Z" (.int z_)) (hz_ : ¬ (z_ = (0 : Int32))) :
  MFP l Z (⟨nm1, "get", "()Lgleaner/Match;"⟩ : MethodName) prog_15_method_8_code 1 (some (.object nm2)) ({ frames := 3, cells := 2, slots := 5, locals := 48 } : Room) ws #[(rr x_)] h0 (Q_get_3 Z x_ j_ s_ bs_ ks_ vs_ z_ h0 n0) := by
 refine MetFree.of_bodySF (plainFor_of_name pn_gleaner_LastMatch) hisR ?_
 intro p e s m args below meth c s₁ Bd hml0 hP hK
 obtain ⟨rfl, hZ, hh⟩ := hP
 have hx := Bd.exec
 have hby := Bd.bytes
 have hml : c.maxLocals = 1 := hml0
 have hown : s.vm.findClass nm1 = some m.cls := findClass_of_methodNamed Bd.named
 have hnm := (name_of_methodNamed Bd.named Bd.method).1
 have X0 : Stand p l e ({ frames := 3, cells := 2, slots := 5, locals := 48 } : Room) s m #[(rr x_)] below meth c s₁ [] 0 0 := Stand.of_body Bd
 have e0 : s₁.heap = h0 := by rw [← hh, Bd.state]; rfl
 have N0 := Fr.nil n0
 have kp0 : Keep h0 h0 [x_] := Keep.refl _ _
 have c0 : ∀ t, S_ p e below s₁ m 0 #[vr x_] [] t → Steps p.tables e below (s₁.setTop (entryFrame m #[(rr x_)] 1)) t := fun t k => castTop (ef_get_3 m x_) k
 generalize s₁.setTop (entryFrame m #[(rr x_)] 1) = st0 at c0 ⊢
 replace c0 : Kt p e below s₁ st0 (mkF m 0 #[vr x_] []) := c0
 have c1 : Kt p e below s₁ st0 (mkF m 1 #[vr x_] [(rr x_)]) := fun t k => by
  refine c0 t ?_
  show S_ p e below s₁ m 0 #[vr x_] [] t
  refine XS.aloadN X0.here hx rfl (hb hby d25_0) rfl rfl ?_
  exact k
 obtain ⟨T2, X2, e2, c2⟩ := kget X0 hx hZ hown (host := "") (Or.inl (w30 hw)) Via.refl e0 F4_ c1 rfl rfl (hb hby d25_1)
 have c3 : Kt p e below T2 st0 (mkF m 33 #[vr x_] [(rr x_)]) := fun t k => by
  refine c2 t ?_
  show S_ p e below T2 m 4 #[vr x_] [(ii (-1))] t
  refine yI X2.here hx rfl 4 32 rfl (hb hby d25_4) rfl rfl ?_
  refine XS.aloadN X2.here hx rfl (hb hby d25_32) rfl rfl ?_
  exact k
 obtain ⟨T4, X4, e4, c4⟩ := kget X2 hx hZ hown (host := "") (Or.inl (w79 hw)) Via.refl e2 F2_ c3 rfl rfl (hb hby d25_33)
 have c5 : Kt p e below T4 st0 (mkF m 40 #[vr x_] [(rr x_)]) := fun t k => by
  refine c4 t ?_
  show S_ p e below T4 m 36 #[vr x_] [.null] t
  refine XS.ifnonnullNo X4.here hx rfl (hb hby d25_36) rfl ?_
  refine XS.aloadN X4.here hx rfl (hb hby d25_39) rfl rfl ?_
  exact k
 obtain ⟨T6, X6, e6, c6⟩ := kget X4 hx hZ hown (host := "") (Or.inl (w81 hw)) Via.refl e4 F3_ c5 rfl rfl (hb hby d25_40)
 have c7 : Kt p e below T6 st0 (mkF m 47 #[vr x_] [(rr x_)]) := fun t k => by
  refine c6 t ?_
  show S_ p e below T6 m 43 #[vr x_] [(rr s_)] t
  refine XS.ifnullNo X6.here hx rfl (hb hby d25_43) rfl ?_
  refine XS.aloadN X6.here hx rfl (hb hby d25_46) rfl rfl ?_
  exact k
 obtain ⟨T8, X8, e8, c8⟩ := kget X6 hx hZ hown (host := "") (Or.inl (w91 hw)) Via.refl e6 F6_ c7 rfl rfl (hb hby d25_47)
 have c9 : Kt p e below T8 st0 (mkF m 55 #[vr x_] [(rr x_), (rr x_)]) := fun t k => by
  refine c8 t ?_
  show S_ p e below T8 m 50 #[vr x_] [(ii (-1))] t
  refine XS.ifNo X8.here hx rfl (hb hby d25_50) rfl rfl ?_
  refine XS.aloadN X8.here hx rfl (hb hby d25_53) rfl rfl ?_
  refine XS.aloadN X8.here hx rfl (hb hby d25_54) rfl rfl ?_
  exact k
 obtain ⟨T10, X10, e10, c10⟩ := kget X8 hx hZ hown (host := "") (Or.inl (w81 hw)) Via.refl e8 F3_ c9 rfl rfl (hb hby d25_55)
 have c11 : Kt p e below T10 st0 (mkF m 59 #[vr x_] [(rr x_), (rr s_), (rr x_)]) := fun t k => by
  refine c10 t ?_
  show S_ p e below T10 m 58 #[vr x_] [(rr s_), (rr x_)] t
  refine XS.aloadN X10.here hx rfl (hb hby d25_58) rfl rfl ?_
  exact k
 obtain ⟨T12, X12, e12, c12⟩ := kget X10 hx hZ hown (host := "") (Or.inl (w89 hw)) Via.refl e10 F5_ c11 rfl rfl (hb hby d25_59)
 obtain ⟨_, T13, L13, X13, hQ13, c13⟩ := kstat X12 hx hZ hown (w98 hw) (w48 hw) (w49 hw) (w50 hw) (rm_mof_3 l Z a0 hw [] s_ bs_ ks_ vs_ z_ j_ h0 n0 O0 E7_ F8_ F9_ A10_ ZS11_ hz_) e12 c12 hml pd_pLjava_lang_String_JrLgleaner_Match_ [(rr s_), (.long j_)] [(rr x_)] 1 (hb hby d25_62) rfl rfl rfl rfl rfl rfl
 obtain ⟨b14, b15, k16, rfl, N17q, K18, p19, p20, p21, p22, p23, p24, p25, p26⟩ := hQ13
 have N17 := Fr.app N0 N17q
 have o27 := O0.keep K18 all0
 have kp28 := kp0.trans K18 all0
 have z29 := Nat.le_trans kp0.1 p25
 have g30 := Nat.le_trans (Nat.le_trans (Nat.le_of_eq O0.1.symm) O0.2.1) p25
 have z31 := Nat.le_trans kp0.1 p26
 have g32 := Nat.le_trans (Nat.le_trans (Nat.le_of_eq O0.1.symm) O0.2.1) p26
 obtain ⟨T33, h33, X33, e33, W33, f34, o36, N35, c33⟩ := kput X13 hx hZ (.object nm2) hown (host := "") (Or.inl (w79 hw)) Via.refl rfl (F2_.keep K18 nin0) (E0_.keep K18) (Or.inl (w80 hw)) (w24 hw) c13 rfl rfl (hb hby d25_65) (by decide) rfl rfl o27 N17 G1_
 have kp37 := kp28.wr W33 (Or.inl (List.mem_of_getElem? (i := 0) rfl))
 have f38 := (F3_.keep K18 nin0).other W33 (Or.inr (slot_ne (Or.inl (w82 hw)) (Or.inl (w80 hw)) (by decide) (t := (.object nm0)) (t' := (.object nm2)) (by decide) (by decide)))
 have c39 : Kt p e below T33 st0 (mkF m 115 #[vr x_] [.null, (rr x_)]) := fun t k => by
  refine c33 t ?_
  show S_ p e below T33 m 68 #[vr x_] [] t
  refine yG X33.here hx rfl 68 113 rfl (hb hby d25_68) ?_
  refine XS.aloadN X33.here hx rfl (hb hby d25_113) rfl rfl ?_
  refine XS.aconstNull X33.here hx rfl (hb hby d25_114) ?_
  exact k
 obtain ⟨T40, h40, X40, e40, W40, f41, o43, N42, c40⟩ := kput X33 hx hZ (.object nm0) hown (host := "") (Or.inl (w81 hw)) Via.refl e33 f38 ((E0_.keep K18).wr W33) (Or.inl (w82 hw)) (w24 hw) c39 rfl rfl (hb hby d25_115) (by decide) rfl rfl o36 N35 G1_
 have kp44 := kp37.wr W40 (Or.inl (List.mem_of_getElem? (i := 0) rfl))
 have f45 := f34.other W40 (Or.inr (slot_ne (Or.inl (w80 hw)) (Or.inl (w82 hw)) (by decide) (t := (.object nm2)) (t' := (.object nm0)) (by decide) (by decide)))
 have c46 : Kt p e below T40 st0 (mkF m 119 #[vr x_] [(rr x_)]) := fun t k => by
  refine c40 t ?_
  show S_ p e below T40 m 118 #[vr x_] [] t
  refine XS.aloadN X40.here hx rfl (hb hby d25_118) rfl rfl ?_
  exact k
 obtain ⟨T47, X47, e47, c47⟩ := kget X40 hx hZ hown (host := "") (Or.inl (w79 hw)) Via.refl e40 f45 c46 rfl rfl (hb hby d25_119)
 have q48 := Ne.symm (Nat.ne_of_lt (Nat.lt_of_lt_of_le E0_.lt p25))
 have q49 := Ne.symm (Nat.ne_of_lt (Nat.lt_of_lt_of_le E0_.lt p26))
 obtain ⟨fs, hr, hrun, hended, hW, hsame⟩ := X47.leave (v := some (rr b14)) (fun h => by rw [Bd.returns] at h; cases h)
 refine ⟨_, _, c47 _ ?_, hrun, hended, _, _, rfl, ?_, ⟨_, rfl⟩, hW, hsame.mono (by decide) (by decide)⟩
 ·show S_ p e below T47 m 122 #[vr x_] [(rr b14)] _
  exact retOut X47 hx Bd.returns rfl (Or.inr (Or.inr (Or.inr (Or.inr ⟨rfl, rfl, rfl⟩)))) (hb hby d25_122) hr
 ·show Q_get_3 Z x_ j_ s_ bs_ ks_ vs_ z_ h0 n0 _ T47.heap _
  rw [e47]
  exact ⟨b14, b15, k16, rfl, N42, kp44, ((p19.wr W33).wr W40), ((p20.other W33 (Or.inl q48)).other W40 (Or.inl q48)), ((p21.other W33 (Or.inl q48)).other W40 (Or.inl q48)), ((p22.other W33 (Or.inl q48)).other W40 (Or.inl q48)), ((p23.other W33 q49).other W40 q49), z29, z31⟩
theorem ef_sub_3 (m : MethodId) (s_ : Addr) : entryFrame m #[(rr s_), (ii 0), (ii 3)] 5 = mkF m 0 #[vr s_, vi 0, vi 3, u_, u_] [] := by first | (simp [entryFrame, mkF, argsToLocals, Value.category]; done) | rfl
def Q_sub_3 (Z : State) (s_ : Addr) (bs_ : Addr) (ks_ : ClassId) (vs_ : List Value) (z_ : Int32) (fm_ : Value) (h0 : Heap) (n0 : Nat) (v : Option Value) (h : Heap) (L : List Loc) : Prop := v = some (rr s_) ∧ Fr n0 L ∧ h = h0
set_option maxRecDepth 65536 in
set_option maxHeartbeats 40000000 in
theorem rm_sub_3 (l : Launch) (Z : State) (a0 : Array Value) (hw : HW Z a0) (ws : List Jvm.Cond) (s_ : Addr) (bs_ : Addr) (ks_ : ClassId) (vs_ : List Value) (z_ : Int32) (fm_ : Value) (h0 : Heap) (n0 : Nat) (O0 : Old Z n0 h0) (E0_ : Exa Z h0 s_ nm0) (F1_ : Fld Z h0 s_ nm0 "coder" "B" (ii 0)) (F2_ : Fld Z h0 s_ nm0 "value" "[B" (rr bs_)) (A3_ : Arv Z h0 bs_ ks_ .byte (3 : Int32) vs_ (ii 0)) (ZS4_ : Sta Z Z.heap nm0 "COMPACT_STRINGS" "Z" (.int z_)) (hz_ : ¬ (z_ = (0 : Int32))) (ZS6_ : Sta Z Z.heap nm4 "SIOOBE_FORMATTER" nm11 fm_) (hfm_ : fm_.isRef = true) :
  MFP l Z (⟨nm0, "substring", "(II)Ljava/lang/String;"⟩ : MethodName) jdk_42_method_92_code 5 (some (.object nm0)) ({ frames := 2, cells := 0, slots := 0, locals := 29 } : Room) ws #[(rr s_), (ii 0), (ii 3)] h0 (Q_sub_3 Z s_ bs_ ks_ vs_ z_ fm_ h0 n0) := by
 refine MetFree.of_bodySF (plainFor_of_name pn_java_lang_String) hisR ?_
 intro p e s m args below meth c s₁ Bd hml0 hP hK
 obtain ⟨rfl, hZ, hh⟩ := hP
 have hx := Bd.exec
 have hby := Bd.bytes
 have hml : c.maxLocals = 5 := hml0
 have hown : s.vm.findClass nm0 = some m.cls := findClass_of_methodNamed Bd.named
 have hnm := (name_of_methodNamed Bd.named Bd.method).1
 have X0 : Stand p l e ({ frames := 2, cells := 0, slots := 0, locals := 29 } : Room) s m #[(rr s_), (ii 0), (ii 3)] below meth c s₁ [] 0 0 := Stand.of_body Bd
 have e0 : s₁.heap = h0 := by rw [← hh, Bd.state]; rfl
 have N0 := Fr.nil n0
 have kp0 : Keep h0 h0 [] := Keep.refl _ _
 have c0 : ∀ t, S_ p e below s₁ m 0 #[vr s_, vi 0, vi 3, u_, u_] [] t → Steps p.tables e below (s₁.setTop (entryFrame m #[(rr s_), (ii 0), (ii 3)] 5)) t := fun t k => castTop (ef_sub_3 m s_) k
 generalize s₁.setTop (entryFrame m #[(rr s_), (ii 0), (ii 3)] 5) = st0 at c0 ⊢
 replace c0 : Kt p e below s₁ st0 (mkF m 0 #[vr s_, vi 0, vi 3, u_, u_] []) := c0
 have c1 : Kt p e below s₁ st0 (mkF m 1 #[vr s_, vi 0, vi 3, u_, u_] [(rr s_)]) := fun t k => by
  refine c0 t ?_
  show S_ p e below s₁ m 0 #[vr s_, vi 0, vi 3, u_, u_] [] t
  refine XS.aloadN X0.here hx rfl (hb hby d26_0) rfl rfl ?_
  exact k
 obtain ⟨_, T2, L2, X2, hQ2, c2⟩ := kvirt X0 hx hZ hown (w129 hw) (w55 hw) (w57 hw) (w56 hw) (w58 hw) (w3 hw) (rm_len_3 l Z a0 hw [] s_ bs_ ks_ vs_ z_ h0 n0 O0 E0_ F1_ F2_ A3_ ZS4_ hz_) e0 E0_ c1 hml pd_prI [] [] 0 (hb hby d26_1) rfl rfl rfl rfl rfl rfl
 obtain ⟨rfl, N3q, K4⟩ := hQ2
 have N3 := Fr.app N0 N3q
 have c5 : Kt p e below T2 st0 (mkF m 8 #[vr s_, vi 0, vi 3, vi 3, u_] [(ii 3), (ii 3), (ii 0)]) := fun t k => by
  refine c2 t ?_
  show S_ p e below T2 m 4 #[vr s_, vi 0, vi 3, u_, u_] [(ii 3)] t
  refine XS.istoreN X2.here hx rfl (hb hby d26_4) rfl (l' := #[vr s_, vi 0, vi 3, vi 3, u_]) rfl ?_
  refine XS.iloadN X2.here hx rfl (hb hby d26_5) rfl ?_
  refine XS.iloadN X2.here hx rfl (hb hby d26_6) rfl ?_
  refine XS.iloadN X2.here hx rfl (hb hby d26_7) rfl ?_
  exact k
 obtain ⟨_, T6, L6, X6, hQ6, c6⟩ := kstat X2 hx hZ hown (w130 hw) (w131 hw) (w3 hw) (w132 hw) (rm_cbe l Z a0 hw [] (3 : Int32) fm_ h0 n0 O0 ZS6_ hfm_ (by decide) (by decide)) K4 c5 hml pd_pIIIrV [(ii 0), (ii 3), (ii 3)] [] 0 (hb hby d26_8) rfl rfl rfl rfl rfl rfl
 obtain ⟨rfl, N7q, K8⟩ := hQ6
 have N7 := Fr.app N3 N7q
 obtain ⟨fs, hr, hrun, hended, hW, hsame⟩ := X6.leave (v := some (rr s_)) (fun h => by rw [Bd.returns] at h; cases h)
 refine ⟨_, _, c6 _ ?_, hrun, hended, _, _, rfl, ?_, ⟨_, rfl⟩, hW, hsame.mono (by decide) (by decide)⟩
 ·show S_ p e below T6 m 11 #[vr s_, vi 0, vi 3, vi 3, u_] [] _
  refine XS.iloadN X6.here hx rfl (hb hby d26_11) rfl ?_
  refine XS.ifNo X6.here hx rfl (hb hby d26_12) rfl rfl ?_
  refine XS.iloadN X6.here hx rfl (hb hby d26_15) rfl ?_
  refine XS.iloadN X6.here hx rfl (hb hby d26_16) rfl ?_
  show S_ p e below T6 m 17 #[vr s_, vi 0, vi 3, vi 3, u_] [(ii 3), (ii 3)] _
  refine XS.icmpNo X6.here hx rfl (hb hby d26_17) rfl rfl ?_
  refine XS.aloadN X6.here hx rfl (hb hby d26_20) rfl rfl ?_
  show S_ p e below T6 m 21 #[vr s_, vi 0, vi 3, vi 3, u_] [(rr s_)] _
  exact retOut X6 hx Bd.returns rfl (Or.inr (Or.inr (Or.inr (Or.inr ⟨rfl, rfl, rfl⟩)))) (hb hby d26_21) hr
 ·show Q_sub_3 Z s_ bs_ ks_ vs_ z_ fm_ h0 n0 _ T6.heap _
  rw [K8]
  exact ⟨rfl, N7, rfl⟩
theorem ef_grI_3 (m : MethodId) (m_ : Addr) : entryFrame m #[(rr m_), (ii 0)] 3 = mkF m 0 #[vr m_, vi 0, u_] [] := by first | (simp [entryFrame, mkF, argsToLocals, Value.category]; done) | rfl
def Q_grI_3 (Z : State) (m_ : Addr) (b_ : Addr) (kb_ : ClassId) (j_ : Int64) (s_ : Addr) (bs_ : Addr) (ks_ : ClassId) (vs_ : List Value) (z_ : Int32) (fm_ : Value) (h0 : Heap) (n0 : Nat) (v : Option Value) (h : Heap) (L : List Loc) : Prop := v = some (rr s_) ∧ Fr n0 L ∧ h = h0
set_option maxRecDepth 65536 in
set_option maxHeartbeats 40000000 in
theorem rm_grI_3 (l : Launch) (Z : State) (a0 : Array Value) (hw : HW Z a0) (ws : List Jvm.Cond) (m_ : Addr) (b_ : Addr) (kb_ : ClassId) (j_ : Int64) (s_ : Addr) (bs_ : Addr) (ks_ : ClassId) (vs_ : List Value) (z_ : Int32) (fm_ : Value) (h0 : Heap) (n0 : Nat) (O0 : Old Z n0 h0) (E0_ : Exa Z h0 m_ nm2) (F1_ : Fld Z h0 m_ nm2 "text" nm3 (rr s_)) (F2_ : Fld Z h0 m_ nm2 "offset" "J" (.long j_)) (F3_ : Fld Z h0 m_ nm2 "bounds" "[I" (rr b_)) (A4_ : Arv Z h0 b_ kb_ .int (2 : Int32) [(ii 0), (ii 3)] (ii 0)) (E5_ : Exa Z h0 s_ nm0) (F6_ : Fld Z h0 s_ nm0 "coder" "B" (ii 0)) (F7_ : Fld Z h0 s_ nm0 "value" "[B" (rr bs_)) (A8_ : Arv Z h0 bs_ ks_ .byte (3 : Int32) vs_ (ii 0)) (ZS9_ : Sta Z Z.heap nm0 "COMPACT_STRINGS" "Z" (.int z_)) (hz_ : ¬ (z_ = (0 : Int32))) (ZS11_ : Sta Z Z.heap nm4 "SIOOBE_FORMATTER" nm11 fm_) (hfm_ : fm_.isRef = true) :
  MFP l Z (⟨nm2, "group", "(I)Ljava/lang/String;"⟩ : MethodName) prog_18_method_11_code 3 (some (.object nm0)) ({ frames := 3, cells := 0, slots := 0, locals := 45 } : Room) ws #[(rr m_), (ii 0)] h0 (Q_grI_3 Z m_ b_ kb_ j_ s_ bs_ ks_ vs_ z_ fm_ h0 n0) := by
 refine MetFree.of_bodySF (plainFor_of_name pn_gleaner_Match) hisR ?_
 intro p e s m args below meth c s₁ Bd hml0 hP hK
 obtain ⟨rfl, hZ, hh⟩ := hP
 have hx := Bd.exec
 have hby := Bd.bytes
 have hml : c.maxLocals = 3 := hml0
 have hown : s.vm.findClass nm2 = some m.cls := findClass_of_methodNamed Bd.named
 have hnm := (name_of_methodNamed Bd.named Bd.method).1
 have X0 : Stand p l e ({ frames := 3, cells := 0, slots := 0, locals := 45 } : Room) s m #[(rr m_), (ii 0)] below meth c s₁ [] 0 0 := Stand.of_body Bd
 have e0 : s₁.heap = h0 := by rw [← hh, Bd.state]; rfl
 have N0 := Fr.nil n0
 have kp0 : Keep h0 h0 [] := Keep.refl _ _
 have c0 : ∀ t, S_ p e below s₁ m 0 #[vr m_, vi 0, u_] [] t → Steps p.tables e below (s₁.setTop (entryFrame m #[(rr m_), (ii 0)] 3)) t := fun t k => castTop (ef_grI_3 m m_) k
 generalize s₁.setTop (entryFrame m #[(rr m_), (ii 0)] 3) = st0 at c0 ⊢
 replace c0 : Kt p e below s₁ st0 (mkF m 0 #[vr m_, vi 0, u_] []) := c0
 have c1 : Kt p e below s₁ st0 (mkF m 1 #[vr m_, vi 0, u_] [(rr m_)]) := fun t k => by
  refine c0 t ?_
  show S_ p e below s₁ m 0 #[vr m_, vi 0, u_] [] t
  refine XS.aloadN X0.here hx rfl (hb hby d27_0) rfl rfl ?_
  exact k
 obtain ⟨T2, X2, e2, c2⟩ := kget X0 hx hZ hown (host := "") (Or.inl (w72 hw)) Via.refl e0 F3_ c1 rfl rfl (hb hby d27_1)
 have c3 : Kt p e below T2 st0 (mkF m 6 #[vr m_, vi 0, u_] [(ii 0), (rr m_), (rr b_)]) := fun t k => by
  refine c2 t ?_
  show S_ p e below T2 m 4 #[vr m_, vi 0, u_] [(rr b_)] t
  refine XS.aloadN X2.here hx rfl (hb hby d27_4) rfl rfl ?_
  refine XS.iloadN X2.here hx rfl (hb hby d27_5) rfl ?_
  exact k
 obtain ⟨_, T4, L4, X4, hQ4, c4⟩ := kpriv X2 hx hZ hown (w115 hw) (w52 hw) (w117 hw) (w116 hw) (w118 hw) (w49 hw) (rm_chk l Z a0 hw [] m_ b_ kb_ [(ii 0), (ii 3)] h0 n0 O0 E0_ F3_ A4_) e2 E0_ c3 hml pd_pIrI [(ii 0)] [(rr b_)] 1 (hb hby d27_6) rfl rfl rfl rfl rfl rfl
 obtain ⟨rfl, N5q, K6⟩ := hQ4
 have N5 := Fr.app N0 N5q
 have c7 : Kt p e below T4 st0 (mkF m 20 #[vr m_, vi 0, vi 0] [(rr m_)]) := fun t k => by
  refine c4 t ?_
  show S_ p e below T4 m 9 #[vr m_, vi 0, u_] [(ii 0), (rr b_)] t
  refine ldI X4 hx hZ K6 A4_ (v := (ii 0)) (by decide) (by decide) rfl rfl rfl (hb hby d27_9) ?_
  refine XS.istoreN X4.here hx rfl (hb hby d27_10) rfl (l' := #[vr m_, vi 0, vi 0]) rfl ?_
  refine XS.iloadN X4.here hx rfl (hb hby d27_11) rfl ?_
  refine yI X4.here hx rfl 12 19 rfl (hb hby d27_12) rfl rfl ?_
  show S_ p e below T4 m 19 #[vr m_, vi 0, vi 0] [] t
  refine XS.aloadN X4.here hx rfl (hb hby d27_19) rfl rfl ?_
  exact k
 obtain ⟨T8, X8, e8, c8⟩ := kget X4 hx hZ hown (host := "") (Or.inl (w68 hw)) Via.refl K6 F1_ c7 rfl rfl (hb hby d27_20)
 have c9 : Kt p e below T8 st0 (mkF m 25 #[vr m_, vi 0, vi 0] [(rr m_), (ii 0), (rr s_)]) := fun t k => by
  refine c8 t ?_
  show S_ p e below T8 m 23 #[vr m_, vi 0, vi 0] [(rr s_)] t
  refine XS.iloadN X8.here hx rfl (hb hby d27_23) rfl ?_
  refine XS.aloadN X8.here hx rfl (hb hby d27_24) rfl rfl ?_
  exact k
 obtain ⟨T10, X10, e10, c10⟩ := kget X8 hx hZ hown (host := "") (Or.inl (w72 hw)) Via.refl e8 F3_ c9 rfl rfl (hb hby d27_25)
 have c11 : Kt p e below T10 st0 (mkF m 34 #[vr m_, vi 0, vi 0] [(ii 3), (ii 0), (rr s_)]) := fun t k => by
  refine c10 t ?_
  show S_ p e below T10 m 28 #[vr m_, vi 0, vi 0] [(rr b_), (ii 0), (rr s_)] t
  refine XS.iconst X10.here hx rfl (hb hby d27_28) ?_
  refine XS.iloadN X10.here hx rfl (hb hby d27_29) rfl ?_
  refine XS.imul X10.here hx rfl (hb hby d27_30) rfl ?_
  refine XS.iconst X10.here hx rfl (hb hby d27_31) ?_
  show S_ p e below T10 m 32 #[vr m_, vi 0, vi 0] [(ii 1), (ii 0), (rr b_), (ii 0), (rr s_)] t
  refine XS.iadd X10.here hx rfl (hb hby d27_32) rfl ?_
  refine ldI X10 hx hZ e10 A4_ (v := (ii 3)) (by decide) (by decide) rfl rfl rfl (hb hby d27_33) ?_
  exact k
 obtain ⟨_, T12, L12, X12, hQ12, c12⟩ := kvirt X10 hx hZ hown (w124 hw) (w125 hw) (w127 hw) (w126 hw) (w128 hw) (w3 hw) (rm_sub_3 l Z a0 hw [] s_ bs_ ks_ vs_ z_ fm_ h0 n0 O0 E5_ F6_ F7_ A8_ ZS9_ hz_ ZS11_ hfm_) e10 E5_ c11 hml pd_pIIrLjava_lang_String_ [(ii 0), (ii 3)] [] 0 (hb hby d27_34) rfl rfl rfl rfl rfl rfl
 obtain ⟨rfl, N13q, K14⟩ := hQ12
 have N13 := Fr.app N5 N13q
 obtain ⟨fs, hr, hrun, hended, hW, hsame⟩ := X12.leave (v := some (rr s_)) (fun h => by rw [Bd.returns] at h; cases h)
 refine ⟨_, _, c12 _ ?_, hrun, hended, _, _, rfl, ?_, ⟨_, rfl⟩, hW, hsame.mono (by decide) (by decide)⟩
 ·show S_ p e below T12 m 37 #[vr m_, vi 0, vi 0] [(rr s_)] _
  exact retOut X12 hx Bd.returns rfl (Or.inr (Or.inr (Or.inr (Or.inr ⟨rfl, rfl, rfl⟩)))) (hb hby d27_37) hr
 ·show Q_grI_3 Z m_ b_ kb_ j_ s_ bs_ ks_ vs_ z_ fm_ h0 n0 _ T12.heap _
  rw [K14]
  exact ⟨rfl, N13, rfl⟩
theorem ef_gr_3 (m : MethodId) (m_ : Addr) : entryFrame m #[(rr m_)] 1 = mkF m 0 #[vr m_] [] := by first | (simp [entryFrame, mkF, argsToLocals, Value.category]; done) | rfl
def Q_gr_3 (Z : State) (m_ : Addr) (b_ : Addr) (kb_ : ClassId) (j_ : Int64) (s_ : Addr) (bs_ : Addr) (ks_ : ClassId) (vs_ : List Value) (z_ : Int32) (fm_ : Value) (h0 : Heap) (n0 : Nat) (v : Option Value) (h : Heap) (L : List Loc) : Prop := v = some (rr s_) ∧ Fr n0 L ∧ h = h0
set_option maxRecDepth 65536 in
set_option maxHeartbeats 40000000 in
theorem rm_gr_3 (l : Launch) (Z : State) (a0 : Array Value) (hw : HW Z a0) (ws : List Jvm.Cond) (m_ : Addr) (b_ : Addr) (kb_ : ClassId) (j_ : Int64) (s_ : Addr) (bs_ : Addr) (ks_ : ClassId) (vs_ : List Value) (z_ : Int32) (fm_ : Value) (h0 : Heap) (n0 : Nat) (O0 : Old Z n0 h0) (E0_ : Exa Z h0 m_ nm2) (F1_ : Fld Z h0 m_ nm2 "text" nm3 (rr s_)) (F2_ : Fld Z h0 m_ nm2 "offset" "J" (.long j_)) (F3_ : Fld Z h0 m_ nm2 "bounds" "[I" (rr b_)) (A4_ : Arv Z h0 b_ kb_ .int (2 : Int32) [(ii 0), (ii 3)] (ii 0)) (E5_ : Exa Z h0 s_ nm0) (F6_ : Fld Z h0 s_ nm0 "coder" "B" (ii 0)) (F7_ : Fld Z h0 s_ nm0 "value" "[B" (rr bs_)) (A8_ : Arv Z h0 bs_ ks_ .byte (3 : Int32) vs_ (ii 0)) (ZS9_ : Sta Z Z.heap nm0 "COMPACT_STRINGS" "Z" (.int z_)) (hz_ : ¬ (z_ = (0 : Int32))) (ZS11_ : Sta Z Z.heap nm4 "SIOOBE_FORMATTER" nm11 fm_) (hfm_ : fm_.isRef = true) :
  MFP l Z (⟨nm2, "group", "()Ljava/lang/String;"⟩ : MethodName) prog_18_method_10_code 1 (some (.object nm0)) ({ frames := 4, cells := 0, slots := 0, locals := 59 } : Room) ws #[(rr m_)] h0 (Q_gr_3 Z m_ b_ kb_ j_ s_ bs_ ks_ vs_ z_ fm_ h0 n0) := by
 refine MetFree.of_bodySF (plainFor_of_name pn_gleaner_Match) hisR ?_
 intro p e s m args below meth c s₁ Bd hml0 hP hK
 obtain ⟨rfl, hZ, hh⟩ := hP
 have hx := Bd.exec
 have hby := Bd.bytes
 have hml : c.maxLocals = 1 := hml0
 have hown : s.vm.findClass nm2 = some m.cls := findClass_of_methodNamed Bd.named
 have hnm := (name_of_methodNamed Bd.named Bd.method).1
 have X0 : Stand p l e ({ frames := 4, cells := 0, slots := 0, locals := 59 } : Room) s m #[(rr m_)] below meth c s₁ [] 0 0 := Stand.of_body Bd
 have e0 : s₁.heap = h0 := by rw [← hh, Bd.state]; rfl
 have N0 := Fr.nil n0
 have kp0 : Keep h0 h0 [] := Keep.refl _ _
 have c0 : ∀ t, S_ p e below s₁ m 0 #[vr m_] [] t → Steps p.tables e below (s₁.setTop (entryFrame m #[(rr m_)] 1)) t := fun t k => castTop (ef_gr_3 m m_) k
 generalize s₁.setTop (entryFrame m #[(rr m_)] 1) = st0 at c0 ⊢
 replace c0 : Kt p e below s₁ st0 (mkF m 0 #[vr m_] []) := c0
 have c1 : Kt p e below s₁ st0 (mkF m 2 #[vr m_] [(ii 0), (rr m_)]) := fun t k => by
  refine c0 t ?_
  show S_ p e below s₁ m 0 #[vr m_] [] t
  refine XS.aloadN X0.here hx rfl (hb hby d28_0) rfl rfl ?_
  refine XS.iconst X0.here hx rfl (hb hby d28_1) ?_
  exact k
 obtain ⟨_, T2, L2, X2, hQ2, c2⟩ := kvirt X0 hx hZ hown (w110 hw) (w111 hw) (w113 hw) (w112 hw) (w114 hw) (w49 hw) (rm_grI_3 l Z a0 hw [] m_ b_ kb_ j_ s_ bs_ ks_ vs_ z_ fm_ h0 n0 O0 E0_ F1_ F2_ F3_ A4_ E5_ F6_ F7_ A8_ ZS9_ hz_ ZS11_ hfm_) e0 E0_ c1 hml pd_pIrLjava_lang_String_ [(ii 0)] [] 0 (hb hby d28_2) rfl rfl rfl rfl rfl rfl
 obtain ⟨rfl, N3q, K4⟩ := hQ2
 have N3 := Fr.app N0 N3q
 obtain ⟨fs, hr, hrun, hended, hW, hsame⟩ := X2.leave (v := some (rr s_)) (fun h => by rw [Bd.returns] at h; cases h)
 refine ⟨_, _, c2 _ ?_, hrun, hended, _, _, rfl, ?_, ⟨_, rfl⟩, hW, hsame.mono (by decide) (by decide)⟩
 ·show S_ p e below T2 m 5 #[vr m_] [(rr s_)] _
  exact retOut X2 hx Bd.returns rfl (Or.inr (Or.inr (Or.inr (Or.inr ⟨rfl, rfl, rfl⟩)))) (hb hby d28_5) hr
 ·show Q_gr_3 Z m_ b_ kb_ j_ s_ bs_ ks_ vs_ z_ fm_ h0 n0 _ T2.heap _
  rw [K4]
  exact ⟨rfl, N3, rfl⟩
theorem d29_0 : decode prog_18_method_5_code 0 = .ok (.new 8, 3) := by decide +kernel
theorem d29_3 : decode prog_18_method_5_code 3 = .ok (.dup, 1) := by decide +kernel
theorem d29_4 : decode prog_18_method_5_code 4 = .ok (.aload_n 0, 1) := by decide +kernel
theorem d29_5 : decode prog_18_method_5_code 5 = .ok (.getfield 7, 3) := by decide +kernel
theorem d29_8 : decode prog_18_method_5_code 8 = .ok (.aload_n 1, 1) := by decide +kernel
theorem d29_9 : decode prog_18_method_5_code 9 = .ok (.getfield 13, 3) := by decide +kernel
theorem d29_12 : decode prog_18_method_5_code 12 = .ok (.aload_n 0, 1) := by decide +kernel
theorem d29_13 : decode prog_18_method_5_code 13 = .ok (.getfield 13, 3) := by decide +kernel
theorem d29_16 : decode prog_18_method_5_code 16 = .ok (.ladd, 1) := by decide +kernel
theorem d29_17 : decode prog_18_method_5_code 17 = .ok (.aload_n 0, 1) := by decide +kernel
theorem d29_18 : decode prog_18_method_5_code 18 = .ok (.getfield 17, 3) := by decide +kernel
theorem d29_21 : decode prog_18_method_5_code 21 = .ok (.invokespecial 27, 3) := by decide +kernel
theorem d29_24 : decode prog_18_method_5_code 24 = .ok (.areturn, 1) := by decide +kernel
theorem ef_within (m : MethodId) (m_ : Addr) (o_ : Addr) : entryFrame m #[(rr m_), (rr o_)] 2 = mkF m 0 #[vr m_, vr o_] [] := by first | (simp [entryFrame, mkF, argsToLocals, Value.category]; done) | rfl
def Q_within (Z : State) (m_ : Addr) (s_ : Addr) (j_ : Int64) (b_ : Addr) (o_ : Addr) (i_ : Int64) (h0 : Heap) (n0 : Nat) (v : Option Value) (h : Heap) (L : List Loc) : Prop := ∃ (r_ : Addr), v = some (rr r_) ∧ Fr n0 L ∧ Keep h0 h [] ∧ Exa Z h r_ nm2 ∧ Fld Z h r_ nm2 "text" nm3 (rr s_) ∧ Fld Z h r_ nm2 "offset" "J" (.long (i_ + j_)) ∧ Fld Z h r_ nm2 "bounds" "[I" (rr b_) ∧ h0.size ≤ r_
set_option maxRecDepth 65536 in
set_option maxHeartbeats 40000000 in
theorem rm_within (l : Launch) (Z : State) (a0 : Array Value) (hw : HW Z a0) (ws : List Jvm.Cond) (m_ : Addr) (s_ : Addr) (j_ : Int64) (b_ : Addr) (o_ : Addr) (i_ : Int64) (h0 : Heap) (n0 : Nat) (O0 : Old Z n0 h0) (F0_ : Fld Z h0 m_ nm2 "text" nm3 (rr s_)) (F1_ : Fld Z h0 m_ nm2 "offset" "J" (.long j_)) (F2_ : Fld Z h0 m_ nm2 "bounds" "[I" (rr b_)) (F3_ : Fld Z h0 o_ nm2 "offset" "J" (.long i_)) :
  MFP l Z (⟨nm2, "within", "(Lgleaner/Match;)Lgleaner/Match;"⟩ : MethodName) prog_18_method_5_code 2 (some (.object nm2)) ({ frames := 2, cells := 1, slots := 3, locals := 29 } : Room) ws #[(rr m_), (rr o_)] h0 (Q_within Z m_ s_ j_ b_ o_ i_ h0 n0) := by
 refine MetFree.of_bodySF (plainFor_of_name pn_gleaner_Match) hisR ?_
 intro p e s m args below meth c s₁ Bd hml0 hP hK
 obtain ⟨rfl, hZ, hh⟩ := hP
 have hx := Bd.exec
 have hby := Bd.bytes
 have hml : c.maxLocals = 2 := hml0
 have hown : s.vm.findClass nm2 = some m.cls := findClass_of_methodNamed Bd.named
 have hnm := (name_of_methodNamed Bd.named Bd.method).1
 have X0 : Stand p l e ({ frames := 2, cells := 1, slots := 3, locals := 29 } : Room) s m #[(rr m_), (rr o_)] below meth c s₁ [] 0 0 := Stand.of_body Bd
 have e0 : s₁.heap = h0 := by rw [← hh, Bd.state]; rfl
 have N0 := Fr.nil n0
 have kp0 : Keep h0 h0 [] := Keep.refl _ _
 have c0 : ∀ t, S_ p e below s₁ m 0 #[vr m_, vr o_] [] t → Steps p.tables e below (s₁.setTop (entryFrame m #[(rr m_), (rr o_)] 2)) t := fun t k => castTop (ef_within m m_ o_) k
 generalize s₁.setTop (entryFrame m #[(rr m_), (rr o_)] 2) = st0 at c0 ⊢
 replace c0 : Kt p e below s₁ st0 (mkF m 0 #[vr m_, vr o_] []) := c0
 obtain ⟨b1, T1, h1, z1, g1, X1, e1, E1, o2, A1, D1, U1, c1⟩ := knew X0 hx hZ hown (w51 hw) (w52 hw) (w49 hw) e0 c0 rfl (hb hby d29_0) (by decide) (by decide) O0
 have kp3 := kp0.ext E1
 have z4 := Nat.le_trans kp0.1 z1
 have c5 : Kt p e below T1 st0 (mkF m 5 #[vr m_, vr o_] [(rr m_), (rr b1), (rr b1)]) := fun t k => by
  refine c1 t ?_
  show S_ p e below T1 m 3 #[vr m_, vr o_] [(rr b1)] t
  refine XS.dup X1.here hx rfl (hb hby d29_3) rfl rfl ?_
  refine XS.aloadN X1.here hx rfl (hb hby d29_4) rfl rfl ?_
  exact k
 obtain ⟨T6, X6, e6, c6⟩ := kget X1 hx hZ hown (host := "") (Or.inl (w68 hw)) Via.refl e1 (F0_.ext E1) c5 rfl rfl (hb hby d29_5)
 have c7 : Kt p e below T6 st0 (mkF m 9 #[vr m_, vr o_] [(rr o_), (rr s_), (rr b1), (rr b1)]) := fun t k => by
  refine c6 t ?_
  show S_ p e below T6 m 8 #[vr m_, vr o_] [(rr s_), (rr b1), (rr b1)] t
  refine XS.aloadN X6.here hx rfl (hb hby d29_8) rfl rfl ?_
  exact k
 obtain ⟨T8, X8, e8, c8⟩ := kget X6 hx hZ hown (host := "") (Or.inl (w70 hw)) Via.refl e6 (F3_.ext E1) c7 rfl rfl (hb hby d29_9)
 have c9 : Kt p e below T8 st0 (mkF m 13 #[vr m_, vr o_] [(rr m_), (.long i_), (rr s_), (rr b1), (rr b1)]) := fun t k => by
  refine c8 t ?_
  show S_ p e below T8 m 12 #[vr m_, vr o_] [(.long i_), (rr s_), (rr b1), (rr b1)] t
  refine XS.aloadN X8.here hx rfl (hb hby d29_12) rfl rfl ?_
  exact k
 obtain ⟨T10, X10, e10, c10⟩ := kget X8 hx hZ hown (host := "") (Or.inl (w70 hw)) Via.refl e8 (F1_.ext E1) c9 rfl rfl (hb hby d29_13)
 have c11 : Kt p e below T10 st0 (mkF m 18 #[vr m_, vr o_] [(rr m_), (.long (i_ + j_)), (rr s_), (rr b1), (rr b1)]) := fun t k => by
  refine c10 t ?_
  show S_ p e below T10 m 16 #[vr m_, vr o_] [(.long j_), (.long i_), (rr s_), (rr b1), (rr b1)] t
  refine XS.ladd X10.here hx rfl (hb hby d29_16) rfl ?_
  refine XS.aloadN X10.here hx rfl (hb hby d29_17) rfl rfl ?_
  exact k
 obtain ⟨T12, X12, e12, c12⟩ := kget X10 hx hZ hown (host := "") (Or.inl (w72 hw)) Via.refl e10 (F2_.ext E1) c11 rfl rfl (hb hby d29_18)
 obtain ⟨_, T13, L13, X13, hQ13, c13⟩ := kspec X12 hx hZ hown (w64 hw) (w65 hw) (w49 hw) (w66 hw) (rm_minit l Z a0 hw [] b1 s_ (i_ + j_) b_ h1 n0 o2 A1 (show Fld Z h1 b1 nm2 "text" nm3 .null from D1 (Or.inr (w69 hw)) (ty := (.object nm0)) (by decide)) (show Fld Z h1 b1 nm2 "offset" "J" (.long (0 : Int64)) from D1 (Or.inr (w71 hw)) (ty := .long) (by decide)) (show Fld Z h1 b1 nm2 "bounds" "[I" .null from D1 (Or.inr (w73 hw)) (ty := (.array .int)) (by decide)) g1) e12 c12 hml pd_pLjava_lang_String_JAIrV b1 [(rr s_), (.long (i_ + j_)), (rr b_)] [(rr b1)] 1 (hb hby d29_21) rfl rfl rfl rfl rfl rfl
 obtain ⟨rfl, N14q, K15, p16, p17, p18, p19⟩ := hQ13
 have N14 := Fr.app N0 N14q
 have o20 := o2.keep K15 (allS g1 all0)
 have kp21 := kp3.trans K15 (allS (Or.inr z4) all0)
 obtain ⟨fs, hr, hrun, hended, hW, hsame⟩ := X13.leave (v := some (rr b1)) (fun h => by rw [Bd.returns] at h; cases h)
 refine ⟨_, _, c13 _ ?_, hrun, hended, _, _, rfl, ?_, ⟨_, rfl⟩, hW, hsame.mono (by decide) (by decide)⟩
 ·show S_ p e below T13 m 24 #[vr m_, vr o_] [(rr b1)] _
  exact retOut X13 hx Bd.returns rfl (Or.inr (Or.inr (Or.inr (Or.inr ⟨rfl, rfl, rfl⟩)))) (hb hby d29_24) hr
 ·show Q_within Z m_ s_ j_ b_ o_ i_ h0 n0 _ T13.heap _
  exact ⟨b1, rfl, N14, kp21, p16, p17, p18, p19, z4⟩
theorem d30_0 : decode jdk_29_method_43_code 0 = .ok (.lload_n 0, 1) := by decide +kernel
theorem d30_1 : decode jdk_29_method_43_code 1 = .ok (.l2i, 1) := by decide +kernel
theorem d30_2 : decode jdk_29_method_43_code 2 = .ok (.i2l, 1) := by decide +kernel
theorem d30_3 : decode jdk_29_method_43_code 3 = .ok (.lload_n 0, 1) := by decide +kernel
theorem d30_4 : decode jdk_29_method_43_code 4 = .ok (.lcmp, 1) := by decide +kernel
theorem d30_5 : decode jdk_29_method_43_code 5 = .ok (.ifCond .eq 13, 3) := by decide +kernel
theorem d30_18 : decode jdk_29_method_43_code 18 = .ok (.lload_n 0, 1) := by decide +kernel
theorem d30_19 : decode jdk_29_method_43_code 19 = .ok (.l2i, 1) := by decide +kernel
theorem d30_20 : decode jdk_29_method_43_code 20 = .ok (.ireturn, 1) := by decide +kernel
theorem ef_tie_0 (m : MethodId) : entryFrame m #[(.long (0 : Int64))] 2 = mkF m 0 #[.val (.long (0 : Int64)), .second] [] := by first | (simp [entryFrame, mkF, argsToLocals, Value.category]; done) | rfl
def Q_tie_0 (Z : State) (h0 : Heap) (n0 : Nat) (v : Option Value) (h : Heap) (L : List Loc) : Prop := v = some (ii 0) ∧ Fr n0 L ∧ h = h0
set_option maxRecDepth 65536 in
set_option maxHeartbeats 40000000 in
theorem rm_tie_0 (l : Launch) (Z : State) (a0 : Array Value) (hw : HW Z a0) (ws : List Jvm.Cond) (h0 : Heap) (n0 : Nat) (O0 : Old Z n0 h0) :
  MFP l Z (⟨"java/lang/Math", "toIntExact", "(J)I"⟩ : MethodName) jdk_29_method_43_code 2 (some .int) ({ frames := 0, cells := 0, slots := 0, locals := 0 } : Room) ws #[(.long (0 : Int64))] h0 (Q_tie_0 Z h0 n0) := by
 refine MetFree.of_bodySF (Jvm.Free.JP.mathPlain rfl (by decide +kernel)) hisR ?_
 intro p e s m args below meth c s₁ Bd hml0 hP hK
 obtain ⟨rfl, hZ, hh⟩ := hP
 have hx := Bd.exec
 have hby := Bd.bytes
 have hml : c.maxLocals = 2 := hml0
 have hown : s.vm.findClass "java/lang/Math" = some m.cls := findClass_of_methodNamed Bd.named
 have hnm := (name_of_methodNamed Bd.named Bd.method).1
 have X0 : Stand p l e ({ frames := 0, cells := 0, slots := 0, locals := 0 } : Room) s m #[(.long (0 : Int64))] below meth c s₁ [] 0 0 := Stand.of_body Bd
 have e0 : s₁.heap = h0 := by rw [← hh, Bd.state]; rfl
 have N0 := Fr.nil n0
 have kp0 : Keep h0 h0 [] := Keep.refl _ _
 have c0 : ∀ t, S_ p e below s₁ m 0 #[.val (.long (0 : Int64)), .second] [] t → Steps p.tables e below (s₁.setTop (entryFrame m #[(.long (0 : Int64))] 2)) t := fun t k => castTop (ef_tie_0 m) k
 generalize s₁.setTop (entryFrame m #[(.long (0 : Int64))] 2) = st0 at c0 ⊢
 replace c0 : Kt p e below s₁ st0 (mkF m 0 #[.val (.long (0 : Int64)), .second] []) := c0
 obtain ⟨fs, hr, hrun, hended, hW, hsame⟩ := X0.leave (v := some (ii 0)) (fun h => by rw [Bd.returns] at h; cases h)
 refine ⟨_, _, c0 _ ?_, hrun, hended, _, _, rfl, ?_, ⟨_, rfl⟩, hW, hsame.mono (by decide) (by decide)⟩
 ·show S_ p e below s₁ m 0 #[.val (.long (0 : Int64)), .second] [] _
  refine XS.lloadN X0.here hx rfl (hb hby d30_0) rfl ?_
  refine XS.l2i X0.here hx rfl (hb hby d30_1) rfl ?_
  refine XS.i2l X0.here hx rfl (hb hby d30_2) rfl ?_
  refine XS.lloadN X0.here hx rfl (hb hby d30_3) rfl ?_
  show S_ p e below s₁ m 4 #[.val (.long (0 : Int64)), .second] [(.long (0 : Int64)), (.long (0 : Int64))] _
  refine XS.lcmp X0.here hx rfl (hb hby d30_4) rfl ?_
  refine yI X0.here hx rfl 5 18 rfl (hb hby d30_5) rfl rfl ?_
  refine XS.lloadN X0.here hx rfl (hb hby d30_18) rfl ?_
  refine XS.l2i X0.here hx rfl (hb hby d30_19) rfl ?_
  show S_ p e below s₁ m 20 #[.val (.long (0 : Int64)), .second] [(ii 0)] _
  exact retOut X0 hx Bd.returns rfl (Or.inl ⟨rfl, Or.inl rfl, _, rfl⟩) (hb hby d30_20) hr
 ·show Q_tie_0 Z h0 n0 _ s₁.heap _
  rw [e0]
  exact ⟨rfl, N0, rfl⟩
theorem d31_0 : decode prog_18_method_14_code 0 = .ok (.iload_n 1, 1) := by decide +kernel
theorem d31_1 : decode prog_18_method_14_code 1 = .ok (.ifCond .ge 7, 3) := by decide +kernel
theorem d31_8 : decode prog_18_method_14_code 8 = .ok (.aload_n 0, 1) := by decide +kernel
theorem d31_9 : decode prog_18_method_14_code 9 = .ok (.getfield 13, 3) := by decide +kernel
theorem d31_12 : decode prog_18_method_14_code 12 = .ok (.iload_n 1, 1) := by decide +kernel
theorem d31_13 : decode prog_18_method_14_code 13 = .ok (.i2l, 1) := by decide +kernel
theorem d31_14 : decode prog_18_method_14_code 14 = .ok (.ladd, 1) := by decide +kernel
theorem d31_15 : decode prog_18_method_14_code 15 = .ok (.invokestatic 90, 3) := by decide +kernel
theorem pd_pJrI : parseMethodDescriptor "(J)I" = some ⟨[.long], some .int⟩ := by decide +kernel
theorem d31_18 : decode prog_18_method_14_code 18 = .ok (.ireturn, 1) := by decide +kernel
theorem ef_plc_0 (m : MethodId) (m_ : Addr) : entryFrame m #[(rr m_), (ii 0)] 2 = mkF m 0 #[vr m_, vi 0] [] := by first | (simp [entryFrame, mkF, argsToLocals, Value.category]; done) | rfl
def Q_plc_0 (Z : State) (m_ : Addr) (h0 : Heap) (n0 : Nat) (v : Option Value) (h : Heap) (L : List Loc) : Prop := v = some (ii 0) ∧ Fr n0 L ∧ h = h0
set_option maxRecDepth 65536 in
set_option maxHeartbeats 40000000 in
theorem rm_plc_0 (l : Launch) (Z : State) (a0 : Array Value) (hw : HW Z a0) (ws : List Jvm.Cond) (m_ : Addr) (h0 : Heap) (n0 : Nat) (O0 : Old Z n0 h0) (E0_ : Exa Z h0 m_ nm2) (F1_ : Fld Z h0 m_ nm2 "offset" "J" (.long (0 : Int64))) :
  MFP l Z (⟨nm2, "place", "(I)I"⟩ : MethodName) prog_18_method_14_code 2 (some .int) ({ frames := 1, cells := 0, slots := 0, locals := 13 } : Room) ws #[(rr m_), (ii 0)] h0 (Q_plc_0 Z m_ h0 n0) := by
 refine MetFree.of_bodySF (plainFor_of_name pn_gleaner_Match) hisR ?_
 intro p e s m args below meth c s₁ Bd hml0 hP hK
 obtain ⟨rfl, hZ, hh⟩ := hP
 have hx := Bd.exec
 have hby := Bd.bytes
 have hml : c.maxLocals = 2 := hml0
 have hown : s.vm.findClass nm2 = some m.cls := findClass_of_methodNamed Bd.named
 have hnm := (name_of_methodNamed Bd.named Bd.method).1
 have X0 : Stand p l e ({ frames := 1, cells := 0, slots := 0, locals := 13 } : Room) s m #[(rr m_), (ii 0)] below meth c s₁ [] 0 0 := Stand.of_body Bd
 have e0 : s₁.heap = h0 := by rw [← hh, Bd.state]; rfl
 have N0 := Fr.nil n0
 have kp0 : Keep h0 h0 [] := Keep.refl _ _
 have c0 : ∀ t, S_ p e below s₁ m 0 #[vr m_, vi 0] [] t → Steps p.tables e below (s₁.setTop (entryFrame m #[(rr m_), (ii 0)] 2)) t := fun t k => castTop (ef_plc_0 m m_) k
 generalize s₁.setTop (entryFrame m #[(rr m_), (ii 0)] 2) = st0 at c0 ⊢
 replace c0 : Kt p e below s₁ st0 (mkF m 0 #[vr m_, vi 0] []) := c0
 have c1 : Kt p e below s₁ st0 (mkF m 9 #[vr m_, vi 0] [(rr m_)]) := fun t k => by
  refine c0 t ?_
  show S_ p e below s₁ m 0 #[vr m_, vi 0] [] t
  refine XS.iloadN X0.here hx rfl (hb hby d31_0) rfl ?_
  refine yI X0.here hx rfl 1 8 rfl (hb hby d31_1) rfl rfl ?_
  refine XS.aloadN X0.here hx rfl (hb hby d31_8) rfl rfl ?_
  exact k
 obtain ⟨T2, X2, e2, c2⟩ := kget X0 hx hZ hown (host := "") (Or.inl (w70 hw)) Via.refl e0 F1_ c1 rfl rfl (hb hby d31_9)
 have c3 : Kt p e below T2 st0 (mkF m 15 #[vr m_, vi 0] [(.long (0 : Int64))]) := fun t k => by
  refine c2 t ?_
  show S_ p e below T2 m 12 #[vr m_, vi 0] [(.long (0 : Int64))] t
  refine XS.iloadN X2.here hx rfl (hb hby d31_12) rfl ?_
  refine XS.i2l X2.here hx rfl (hb hby d31_13) rfl ?_
  refine XS.ladd X2.here hx rfl (hb hby d31_14) rfl ?_
  exact k
 obtain ⟨_, T4, L4, X4, hQ4, c4⟩ := kstat X2 hx hZ hown (w158 hw) (w159 hw) (w160 hw) (w161 hw) (rm_tie_0 l Z a0 hw []  h0 n0 O0 ) e2 c3 hml pd_pJrI [(.long (0 : Int64))] [] 0 (hb hby d31_15) rfl rfl rfl rfl rfl rfl
 obtain ⟨rfl, N5q, K6⟩ := hQ4
 have N5 := Fr.app N0 N5q
 obtain ⟨fs, hr, hrun, hended, hW, hsame⟩ := X4.leave (v := some (ii 0)) (fun h => by rw [Bd.returns] at h; cases h)
 refine ⟨_, _, c4 _ ?_, hrun, hended, _, _, rfl, ?_, ⟨_, rfl⟩, hW, hsame.mono (by decide) (by decide)⟩
 ·show S_ p e below T4 m 18 #[vr m_, vi 0] [(ii 0)] _
  exact retOut X4 hx Bd.returns rfl (Or.inl ⟨rfl, Or.inl rfl, _, rfl⟩) (hb hby d31_18) hr
 ·show Q_plc_0 Z m_ h0 n0 _ T4.heap _
  rw [K6]
  exact ⟨rfl, N5, rfl⟩
theorem ef_tie_1 (m : MethodId) : entryFrame m #[(.long (1 : Int64))] 2 = mkF m 0 #[.val (.long (1 : Int64)), .second] [] := by first | (simp [entryFrame, mkF, argsToLocals, Value.category]; done) | rfl
def Q_tie_1 (Z : State) (h0 : Heap) (n0 : Nat) (v : Option Value) (h : Heap) (L : List Loc) : Prop := v = some (ii 1) ∧ Fr n0 L ∧ h = h0
set_option maxRecDepth 65536 in
set_option maxHeartbeats 40000000 in
theorem rm_tie_1 (l : Launch) (Z : State) (a0 : Array Value) (hw : HW Z a0) (ws : List Jvm.Cond) (h0 : Heap) (n0 : Nat) (O0 : Old Z n0 h0) :
  MFP l Z (⟨"java/lang/Math", "toIntExact", "(J)I"⟩ : MethodName) jdk_29_method_43_code 2 (some .int) ({ frames := 0, cells := 0, slots := 0, locals := 0 } : Room) ws #[(.long (1 : Int64))] h0 (Q_tie_1 Z h0 n0) := by
 refine MetFree.of_bodySF (Jvm.Free.JP.mathPlain rfl (by decide +kernel)) hisR ?_
 intro p e s m args below meth c s₁ Bd hml0 hP hK
 obtain ⟨rfl, hZ, hh⟩ := hP
 have hx := Bd.exec
 have hby := Bd.bytes
 have hml : c.maxLocals = 2 := hml0
 have hown : s.vm.findClass "java/lang/Math" = some m.cls := findClass_of_methodNamed Bd.named
 have hnm := (name_of_methodNamed Bd.named Bd.method).1
 have X0 : Stand p l e ({ frames := 0, cells := 0, slots := 0, locals := 0 } : Room) s m #[(.long (1 : Int64))] below meth c s₁ [] 0 0 := Stand.of_body Bd
 have e0 : s₁.heap = h0 := by rw [← hh, Bd.state]; rfl
 have N0 := Fr.nil n0
 have kp0 : Keep h0 h0 [] := Keep.refl _ _
 have c0 : ∀ t, S_ p e below s₁ m 0 #[.val (.long (1 : Int64)), .second] [] t → Steps p.tables e below (s₁.setTop (entryFrame m #[(.long (1 : Int64))] 2)) t := fun t k => castTop (ef_tie_1 m) k
 generalize s₁.setTop (entryFrame m #[(.long (1 : Int64))] 2) = st0 at c0 ⊢
 replace c0 : Kt p e below s₁ st0 (mkF m 0 #[.val (.long (1 : Int64)), .second] []) := c0
 obtain ⟨fs, hr, hrun, hended, hW, hsame⟩ := X0.leave (v := some (ii 1)) (fun h => by rw [Bd.returns] at h; cases h)
 refine ⟨_, _, c0 _ ?_, hrun, hended, _, _, rfl, ?_, ⟨_, rfl⟩, hW, hsame.mono (by decide) (by decide)⟩
 ·show S_ p e below s₁ m 0 #[.val (.long (1 : Int64)), .second] [] _
  refine XS.lloadN X0.here hx rfl (hb hby d30_0) rfl ?_
  refine XS.l2i X0.here hx rfl (hb hby d30_1) rfl ?_
  refine XS.i2l X0.here hx rfl (hb hby d30_2) rfl ?_
  refine XS.lloadN X0.here hx rfl (hb hby d30_3) rfl ?_
  show S_ p e below s₁ m 4 #[.val (.long (1 : Int64)), .second] [(.long (1 : Int64)), (.long (1 : Int64))] _
  refine XS.lcmp X0.here hx rfl (hb hby d30_4) rfl ?_
  refine yI X0.here hx rfl 5 18 rfl (hb hby d30_5) rfl rfl ?_
  refine XS.lloadN X0.here hx rfl (hb hby d30_18) rfl ?_
  refine XS.l2i X0.here hx rfl (hb hby d30_19) rfl ?_
  show S_ p e below s₁ m 20 #[.val (.long (1 : Int64)), .second] [(ii 1)] _
  exact retOut X0 hx Bd.returns rfl (Or.inl ⟨rfl, Or.inl rfl, _, rfl⟩) (hb hby d30_20) hr
 ·show Q_tie_1 Z h0 n0 _ s₁.heap _
  rw [e0]
  exact ⟨rfl, N0, rfl⟩
theorem ef_plc_1 (m : MethodId) (m_ : Addr) : entryFrame m #[(rr m_), (ii 1)] 2 = mkF m 0 #[vr m_, vi 1] [] := by first | (simp [entryFrame, mkF, argsToLocals, Value.category]; done) | rfl
def Q_plc_1 (Z : State) (m_ : Addr) (h0 : Heap) (n0 : Nat) (v : Option Value) (h : Heap) (L : List Loc) : Prop := v = some (ii 1) ∧ Fr n0 L ∧ h = h0
set_option maxRecDepth 65536 in
set_option maxHeartbeats 40000000 in
theorem rm_plc_1 (l : Launch) (Z : State) (a0 : Array Value) (hw : HW Z a0) (ws : List Jvm.Cond) (m_ : Addr) (h0 : Heap) (n0 : Nat) (O0 : Old Z n0 h0) (E0_ : Exa Z h0 m_ nm2) (F1_ : Fld Z h0 m_ nm2 "offset" "J" (.long (0 : Int64))) :
  MFP l Z (⟨nm2, "place", "(I)I"⟩ : MethodName) prog_18_method_14_code 2 (some .int) ({ frames := 1, cells := 0, slots := 0, locals := 13 } : Room) ws #[(rr m_), (ii 1)] h0 (Q_plc_1 Z m_ h0 n0) := by
 refine MetFree.of_bodySF (plainFor_of_name pn_gleaner_Match) hisR ?_
 intro p e s m args below meth c s₁ Bd hml0 hP hK
 obtain ⟨rfl, hZ, hh⟩ := hP
 have hx := Bd.exec
 have hby := Bd.bytes
 have hml : c.maxLocals = 2 := hml0
 have hown : s.vm.findClass nm2 = some m.cls := findClass_of_methodNamed Bd.named
 have hnm := (name_of_methodNamed Bd.named Bd.method).1
 have X0 : Stand p l e ({ frames := 1, cells := 0, slots := 0, locals := 13 } : Room) s m #[(rr m_), (ii 1)] below meth c s₁ [] 0 0 := Stand.of_body Bd
 have e0 : s₁.heap = h0 := by rw [← hh, Bd.state]; rfl
 have N0 := Fr.nil n0
 have kp0 : Keep h0 h0 [] := Keep.refl _ _
 have c0 : ∀ t, S_ p e below s₁ m 0 #[vr m_, vi 1] [] t → Steps p.tables e below (s₁.setTop (entryFrame m #[(rr m_), (ii 1)] 2)) t := fun t k => castTop (ef_plc_1 m m_) k
 generalize s₁.setTop (entryFrame m #[(rr m_), (ii 1)] 2) = st0 at c0 ⊢
 replace c0 : Kt p e below s₁ st0 (mkF m 0 #[vr m_, vi 1] []) := c0
 have c1 : Kt p e below s₁ st0 (mkF m 9 #[vr m_, vi 1] [(rr m_)]) := fun t k => by
  refine c0 t ?_
  show S_ p e below s₁ m 0 #[vr m_, vi 1] [] t
  refine XS.iloadN X0.here hx rfl (hb hby d31_0) rfl ?_
  refine yI X0.here hx rfl 1 8 rfl (hb hby d31_1) rfl rfl ?_
  refine XS.aloadN X0.here hx rfl (hb hby d31_8) rfl rfl ?_
  exact k
 obtain ⟨T2, X2, e2, c2⟩ := kget X0 hx hZ hown (host := "") (Or.inl (w70 hw)) Via.refl e0 F1_ c1 rfl rfl (hb hby d31_9)
 have c3 : Kt p e below T2 st0 (mkF m 15 #[vr m_, vi 1] [(.long (1 : Int64))]) := fun t k => by
  refine c2 t ?_
  show S_ p e below T2 m 12 #[vr m_, vi 1] [(.long (0 : Int64))] t
  refine XS.iloadN X2.here hx rfl (hb hby d31_12) rfl ?_
  refine XS.i2l X2.here hx rfl (hb hby d31_13) rfl ?_
  refine XS.ladd X2.here hx rfl (hb hby d31_14) rfl ?_
  exact k
 obtain ⟨_, T4, L4, X4, hQ4, c4⟩ := kstat X2 hx hZ hown (w158 hw) (w159 hw) (w160 hw) (w161 hw) (rm_tie_1 l Z a0 hw []  h0 n0 O0 ) e2 c3 hml pd_pJrI [(.long (1 : Int64))] [] 0 (hb hby d31_15) rfl rfl rfl rfl rfl rfl
 obtain ⟨rfl, N5q, K6⟩ := hQ4
 have N5 := Fr.app N0 N5q
 obtain ⟨fs, hr, hrun, hended, hW, hsame⟩ := X4.leave (v := some (ii 1)) (fun h => by rw [Bd.returns] at h; cases h)
 refine ⟨_, _, c4 _ ?_, hrun, hended, _, _, rfl, ?_, ⟨_, rfl⟩, hW, hsame.mono (by decide) (by decide)⟩
 ·show S_ p e below T4 m 18 #[vr m_, vi 1] [(ii 1)] _
  exact retOut X4 hx Bd.returns rfl (Or.inl ⟨rfl, Or.inl rfl, _, rfl⟩) (hb hby d31_18) hr
 ·show Q_plc_1 Z m_ h0 n0 _ T4.heap _
  rw [K6]
  exact ⟨rfl, N5, rfl⟩
theorem ef_tie_2 (m : MethodId) : entryFrame m #[(.long (2 : Int64))] 2 = mkF m 0 #[.val (.long (2 : Int64)), .second] [] := by first | (simp [entryFrame, mkF, argsToLocals, Value.category]; done) | rfl
def Q_tie_2 (Z : State) (h0 : Heap) (n0 : Nat) (v : Option Value) (h : Heap) (L : List Loc) : Prop := v = some (ii 2) ∧ Fr n0 L ∧ h = h0
set_option maxRecDepth 65536 in
set_option maxHeartbeats 40000000 in
theorem rm_tie_2 (l : Launch) (Z : State) (a0 : Array Value) (hw : HW Z a0) (ws : List Jvm.Cond) (h0 : Heap) (n0 : Nat) (O0 : Old Z n0 h0) :
  MFP l Z (⟨"java/lang/Math", "toIntExact", "(J)I"⟩ : MethodName) jdk_29_method_43_code 2 (some .int) ({ frames := 0, cells := 0, slots := 0, locals := 0 } : Room) ws #[(.long (2 : Int64))] h0 (Q_tie_2 Z h0 n0) := by
 refine MetFree.of_bodySF (Jvm.Free.JP.mathPlain rfl (by decide +kernel)) hisR ?_
 intro p e s m args below meth c s₁ Bd hml0 hP hK
 obtain ⟨rfl, hZ, hh⟩ := hP
 have hx := Bd.exec
 have hby := Bd.bytes
 have hml : c.maxLocals = 2 := hml0
 have hown : s.vm.findClass "java/lang/Math" = some m.cls := findClass_of_methodNamed Bd.named
 have hnm := (name_of_methodNamed Bd.named Bd.method).1
 have X0 : Stand p l e ({ frames := 0, cells := 0, slots := 0, locals := 0 } : Room) s m #[(.long (2 : Int64))] below meth c s₁ [] 0 0 := Stand.of_body Bd
 have e0 : s₁.heap = h0 := by rw [← hh, Bd.state]; rfl
 have N0 := Fr.nil n0
 have kp0 : Keep h0 h0 [] := Keep.refl _ _
 have c0 : ∀ t, S_ p e below s₁ m 0 #[.val (.long (2 : Int64)), .second] [] t → Steps p.tables e below (s₁.setTop (entryFrame m #[(.long (2 : Int64))] 2)) t := fun t k => castTop (ef_tie_2 m) k
 generalize s₁.setTop (entryFrame m #[(.long (2 : Int64))] 2) = st0 at c0 ⊢
 replace c0 : Kt p e below s₁ st0 (mkF m 0 #[.val (.long (2 : Int64)), .second] []) := c0
 obtain ⟨fs, hr, hrun, hended, hW, hsame⟩ := X0.leave (v := some (ii 2)) (fun h => by rw [Bd.returns] at h; cases h)
 refine ⟨_, _, c0 _ ?_, hrun, hended, _, _, rfl, ?_, ⟨_, rfl⟩, hW, hsame.mono (by decide) (by decide)⟩
 ·show S_ p e below s₁ m 0 #[.val (.long (2 : Int64)), .second] [] _
  refine XS.lloadN X0.here hx rfl (hb hby d30_0) rfl ?_
  refine XS.l2i X0.here hx rfl (hb hby d30_1) rfl ?_
  refine XS.i2l X0.here hx rfl (hb hby d30_2) rfl ?_
  refine XS.lloadN X0.here hx rfl (hb hby d30_3) rfl ?_
  show S_ p e below s₁ m 4 #[.val (.long (2 : Int64)), .second] [(.long (2 : Int64)), (.long (2 : Int64))] _
  refine XS.lcmp X0.here hx rfl (hb hby d30_4) rfl ?_
  refine yI X0.here hx rfl 5 18 rfl (hb hby d30_5) rfl rfl ?_
  refine XS.lloadN X0.here hx rfl (hb hby d30_18) rfl ?_
  refine XS.l2i X0.here hx rfl (hb hby d30_19) rfl ?_
  show S_ p e below s₁ m 20 #[.val (.long (2 : Int64)), .second] [(ii 2)] _
  exact retOut X0 hx Bd.returns rfl (Or.inl ⟨rfl, Or.inl rfl, _, rfl⟩) (hb hby d30_20) hr
 ·show Q_tie_2 Z h0 n0 _ s₁.heap _
  rw [e0]
  exact ⟨rfl, N0, rfl⟩
theorem ef_plc_2 (m : MethodId) (m_ : Addr) : entryFrame m #[(rr m_), (ii 2)] 2 = mkF m 0 #[vr m_, vi 2] [] := by first | (simp [entryFrame, mkF, argsToLocals, Value.category]; done) | rfl
def Q_plc_2 (Z : State) (m_ : Addr) (h0 : Heap) (n0 : Nat) (v : Option Value) (h : Heap) (L : List Loc) : Prop := v = some (ii 2) ∧ Fr n0 L ∧ h = h0
set_option maxRecDepth 65536 in
set_option maxHeartbeats 40000000 in
theorem rm_plc_2 (l : Launch) (Z : State) (a0 : Array Value) (hw : HW Z a0) (ws : List Jvm.Cond) (m_ : Addr) (h0 : Heap) (n0 : Nat) (O0 : Old Z n0 h0) (E0_ : Exa Z h0 m_ nm2) (F1_ : Fld Z h0 m_ nm2 "offset" "J" (.long (0 : Int64))) :
  MFP l Z (⟨nm2, "place", "(I)I"⟩ : MethodName) prog_18_method_14_code 2 (some .int) ({ frames := 1, cells := 0, slots := 0, locals := 13 } : Room) ws #[(rr m_), (ii 2)] h0 (Q_plc_2 Z m_ h0 n0) := by
 refine MetFree.of_bodySF (plainFor_of_name pn_gleaner_Match) hisR ?_
 intro p e s m args below meth c s₁ Bd hml0 hP hK
 obtain ⟨rfl, hZ, hh⟩ := hP
 have hx := Bd.exec
 have hby := Bd.bytes
 have hml : c.maxLocals = 2 := hml0
 have hown : s.vm.findClass nm2 = some m.cls := findClass_of_methodNamed Bd.named
 have hnm := (name_of_methodNamed Bd.named Bd.method).1
 have X0 : Stand p l e ({ frames := 1, cells := 0, slots := 0, locals := 13 } : Room) s m #[(rr m_), (ii 2)] below meth c s₁ [] 0 0 := Stand.of_body Bd
 have e0 : s₁.heap = h0 := by rw [← hh, Bd.state]; rfl
 have N0 := Fr.nil n0
 have kp0 : Keep h0 h0 [] := Keep.refl _ _
 have c0 : ∀ t, S_ p e below s₁ m 0 #[vr m_, vi 2] [] t → Steps p.tables e below (s₁.setTop (entryFrame m #[(rr m_), (ii 2)] 2)) t := fun t k => castTop (ef_plc_2 m m_) k
 generalize s₁.setTop (entryFrame m #[(rr m_), (ii 2)] 2) = st0 at c0 ⊢
 replace c0 : Kt p e below s₁ st0 (mkF m 0 #[vr m_, vi 2] []) := c0
 have c1 : Kt p e below s₁ st0 (mkF m 9 #[vr m_, vi 2] [(rr m_)]) := fun t k => by
  refine c0 t ?_
  show S_ p e below s₁ m 0 #[vr m_, vi 2] [] t
  refine XS.iloadN X0.here hx rfl (hb hby d31_0) rfl ?_
  refine yI X0.here hx rfl 1 8 rfl (hb hby d31_1) rfl rfl ?_
  refine XS.aloadN X0.here hx rfl (hb hby d31_8) rfl rfl ?_
  exact k
 obtain ⟨T2, X2, e2, c2⟩ := kget X0 hx hZ hown (host := "") (Or.inl (w70 hw)) Via.refl e0 F1_ c1 rfl rfl (hb hby d31_9)
 have c3 : Kt p e below T2 st0 (mkF m 15 #[vr m_, vi 2] [(.long (2 : Int64))]) := fun t k => by
  refine c2 t ?_
  show S_ p e below T2 m 12 #[vr m_, vi 2] [(.long (0 : Int64))] t
  refine XS.iloadN X2.here hx rfl (hb hby d31_12) rfl ?_
  refine XS.i2l X2.here hx rfl (hb hby d31_13) rfl ?_
  refine XS.ladd X2.here hx rfl (hb hby d31_14) rfl ?_
  exact k
 obtain ⟨_, T4, L4, X4, hQ4, c4⟩ := kstat X2 hx hZ hown (w158 hw) (w159 hw) (w160 hw) (w161 hw) (rm_tie_2 l Z a0 hw []  h0 n0 O0 ) e2 c3 hml pd_pJrI [(.long (2 : Int64))] [] 0 (hb hby d31_15) rfl rfl rfl rfl rfl rfl
 obtain ⟨rfl, N5q, K6⟩ := hQ4
 have N5 := Fr.app N0 N5q
 obtain ⟨fs, hr, hrun, hended, hW, hsame⟩ := X4.leave (v := some (ii 2)) (fun h => by rw [Bd.returns] at h; cases h)
 refine ⟨_, _, c4 _ ?_, hrun, hended, _, _, rfl, ?_, ⟨_, rfl⟩, hW, hsame.mono (by decide) (by decide)⟩
 ·show S_ p e below T4 m 18 #[vr m_, vi 2] [(ii 2)] _
  exact retOut X4 hx Bd.returns rfl (Or.inl ⟨rfl, Or.inl rfl, _, rfl⟩) (hb hby d31_18) hr
 ·show Q_plc_2 Z m_ h0 n0 _ T4.heap _
  rw [K6]
  exact ⟨rfl, N5, rfl⟩
theorem ef_tie_3 (m : MethodId) : entryFrame m #[(.long (3 : Int64))] 2 = mkF m 0 #[.val (.long (3 : Int64)), .second] [] := by first | (simp [entryFrame, mkF, argsToLocals, Value.category]; done) | rfl
def Q_tie_3 (Z : State) (h0 : Heap) (n0 : Nat) (v : Option Value) (h : Heap) (L : List Loc) : Prop := v = some (ii 3) ∧ Fr n0 L ∧ h = h0
set_option maxRecDepth 65536 in
set_option maxHeartbeats 40000000 in
theorem rm_tie_3 (l : Launch) (Z : State) (a0 : Array Value) (hw : HW Z a0) (ws : List Jvm.Cond) (h0 : Heap) (n0 : Nat) (O0 : Old Z n0 h0) :
  MFP l Z (⟨"java/lang/Math", "toIntExact", "(J)I"⟩ : MethodName) jdk_29_method_43_code 2 (some .int) ({ frames := 0, cells := 0, slots := 0, locals := 0 } : Room) ws #[(.long (3 : Int64))] h0 (Q_tie_3 Z h0 n0) := by
 refine MetFree.of_bodySF (Jvm.Free.JP.mathPlain rfl (by decide +kernel)) hisR ?_
 intro p e s m args below meth c s₁ Bd hml0 hP hK
 obtain ⟨rfl, hZ, hh⟩ := hP
 have hx := Bd.exec
 have hby := Bd.bytes
 have hml : c.maxLocals = 2 := hml0
 have hown : s.vm.findClass "java/lang/Math" = some m.cls := findClass_of_methodNamed Bd.named
 have hnm := (name_of_methodNamed Bd.named Bd.method).1
 have X0 : Stand p l e ({ frames := 0, cells := 0, slots := 0, locals := 0 } : Room) s m #[(.long (3 : Int64))] below meth c s₁ [] 0 0 := Stand.of_body Bd
 have e0 : s₁.heap = h0 := by rw [← hh, Bd.state]; rfl
 have N0 := Fr.nil n0
 have kp0 : Keep h0 h0 [] := Keep.refl _ _
 have c0 : ∀ t, S_ p e below s₁ m 0 #[.val (.long (3 : Int64)), .second] [] t → Steps p.tables e below (s₁.setTop (entryFrame m #[(.long (3 : Int64))] 2)) t := fun t k => castTop (ef_tie_3 m) k
 generalize s₁.setTop (entryFrame m #[(.long (3 : Int64))] 2) = st0 at c0 ⊢
 replace c0 : Kt p e below s₁ st0 (mkF m 0 #[.val (.long (3 : Int64)), .second] []) := c0
 obtain ⟨fs, hr, hrun, hended, hW, hsame⟩ := X0.leave (v := some (ii 3)) (fun h => by rw [Bd.returns] at h; cases h)
 refine ⟨_, _, c0 _ ?_, hrun, hended, _, _, rfl, ?_, ⟨_, rfl⟩, hW, hsame.mono (by decide) (by decide)⟩
 ·show S_ p e below s₁ m 0 #[.val (.long (3 : Int64)), .second] [] _
  refine XS.lloadN X0.here hx rfl (hb hby d30_0) rfl ?_
  refine XS.l2i X0.here hx rfl (hb hby d30_1) rfl ?_
  refine XS.i2l X0.here hx rfl (hb hby d30_2) rfl ?_
  refine XS.lloadN X0.here hx rfl (hb hby d30_3) rfl ?_
  show S_ p e below s₁ m 4 #[.val (.long (3 : Int64)), .second] [(.long (3 : Int64)), (.long (3 : Int64))] _
  refine XS.lcmp X0.here hx rfl (hb hby d30_4) rfl ?_
  refine yI X0.here hx rfl 5 18 rfl (hb hby d30_5) rfl rfl ?_
  refine XS.lloadN X0.here hx rfl (hb hby d30_18) rfl ?_
  refine XS.l2i X0.here hx rfl (hb hby d30_19) rfl ?_
  show S_ p e below s₁ m 20 #[.val (.long (3 : Int64)), .second] [(ii 3)] _
  exact retOut X0 hx Bd.returns rfl (Or.inl ⟨rfl, Or.inl rfl, _, rfl⟩) (hb hby d30_20) hr
 ·show Q_tie_3 Z h0 n0 _ s₁.heap _
  rw [e0]
  exact ⟨rfl, N0, rfl⟩
theorem ef_plc_3 (m : MethodId) (m_ : Addr) : entryFrame m #[(rr m_), (ii 3)] 2 = mkF m 0 #[vr m_, vi 3] [] := by first | (simp [entryFrame, mkF, argsToLocals, Value.category]; done) | rfl
def Q_plc_3 (Z : State) (m_ : Addr) (h0 : Heap) (n0 : Nat) (v : Option Value) (h : Heap) (L : List Loc) : Prop := v = some (ii 3) ∧ Fr n0 L ∧ h = h0
set_option maxRecDepth 65536 in
set_option maxHeartbeats 40000000 in
theorem rm_plc_3 (l : Launch) (Z : State) (a0 : Array Value) (hw : HW Z a0) (ws : List Jvm.Cond) (m_ : Addr) (h0 : Heap) (n0 : Nat) (O0 : Old Z n0 h0) (E0_ : Exa Z h0 m_ nm2) (F1_ : Fld Z h0 m_ nm2 "offset" "J" (.long (0 : Int64))) :
  MFP l Z (⟨nm2, "place", "(I)I"⟩ : MethodName) prog_18_method_14_code 2 (some .int) ({ frames := 1, cells := 0, slots := 0, locals := 13 } : Room) ws #[(rr m_), (ii 3)] h0 (Q_plc_3 Z m_ h0 n0) := by
 refine MetFree.of_bodySF (plainFor_of_name pn_gleaner_Match) hisR ?_
 intro p e s m args below meth c s₁ Bd hml0 hP hK
 obtain ⟨rfl, hZ, hh⟩ := hP
 have hx := Bd.exec
 have hby := Bd.bytes
 have hml : c.maxLocals = 2 := hml0
 have hown : s.vm.findClass nm2 = some m.cls := findClass_of_methodNamed Bd.named
 have hnm := (name_of_methodNamed Bd.named Bd.method).1
 have X0 : Stand p l e ({ frames := 1, cells := 0, slots := 0, locals := 13 } : Room) s m #[(rr m_), (ii 3)] below meth c s₁ [] 0 0 := Stand.of_body Bd
 have e0 : s₁.heap = h0 := by rw [← hh, Bd.state]; rfl
 have N0 := Fr.nil n0
 have kp0 : Keep h0 h0 [] := Keep.refl _ _
 have c0 : ∀ t, S_ p e below s₁ m 0 #[vr m_, vi 3] [] t → Steps p.tables e below (s₁.setTop (entryFrame m #[(rr m_), (ii 3)] 2)) t := fun t k => castTop (ef_plc_3 m m_) k
 generalize s₁.setTop (entryFrame m #[(rr m_), (ii 3)] 2) = st0 at c0 ⊢
 replace c0 : Kt p e below s₁ st0 (mkF m 0 #[vr m_, vi 3] []) := c0
 have c1 : Kt p e below s₁ st0 (mkF m 9 #[vr m_, vi 3] [(rr m_)]) := fun t k => by
  refine c0 t ?_
  show S_ p e below s₁ m 0 #[vr m_, vi 3] [] t
  refine XS.iloadN X0.here hx rfl (hb hby d31_0) rfl ?_
  refine yI X0.here hx rfl 1 8 rfl (hb hby d31_1) rfl rfl ?_
  refine XS.aloadN X0.here hx rfl (hb hby d31_8) rfl rfl ?_
  exact k
 obtain ⟨T2, X2, e2, c2⟩ := kget X0 hx hZ hown (host := "") (Or.inl (w70 hw)) Via.refl e0 F1_ c1 rfl rfl (hb hby d31_9)
 have c3 : Kt p e below T2 st0 (mkF m 15 #[vr m_, vi 3] [(.long (3 : Int64))]) := fun t k => by
  refine c2 t ?_
  show S_ p e below T2 m 12 #[vr m_, vi 3] [(.long (0 : Int64))] t
  refine XS.iloadN X2.here hx rfl (hb hby d31_12) rfl ?_
  refine XS.i2l X2.here hx rfl (hb hby d31_13) rfl ?_
  refine XS.ladd X2.here hx rfl (hb hby d31_14) rfl ?_
  exact k
 obtain ⟨_, T4, L4, X4, hQ4, c4⟩ := kstat X2 hx hZ hown (w158 hw) (w159 hw) (w160 hw) (w161 hw) (rm_tie_3 l Z a0 hw []  h0 n0 O0 ) e2 c3 hml pd_pJrI [(.long (3 : Int64))] [] 0 (hb hby d31_15) rfl rfl rfl rfl rfl rfl
 obtain ⟨rfl, N5q, K6⟩ := hQ4
 have N5 := Fr.app N0 N5q
 obtain ⟨fs, hr, hrun, hended, hW, hsame⟩ := X4.leave (v := some (ii 3)) (fun h => by rw [Bd.returns] at h; cases h)
 refine ⟨_, _, c4 _ ?_, hrun, hended, _, _, rfl, ?_, ⟨_, rfl⟩, hW, hsame.mono (by decide) (by decide)⟩
 ·show S_ p e below T4 m 18 #[vr m_, vi 3] [(ii 3)] _
  exact retOut X4 hx Bd.returns rfl (Or.inl ⟨rfl, Or.inl rfl, _, rfl⟩) (hb hby d31_18) hr
 ·show Q_plc_3 Z m_ h0 n0 _ T4.heap _
  rw [K6]
  exact ⟨rfl, N5, rfl⟩
theorem d32_0 : decode prog_18_method_7_code 0 = .ok (.aload_n 0, 1) := by decide +kernel
theorem d32_1 : decode prog_18_method_7_code 1 = .ok (.aload_n 0, 1) := by decide +kernel
theorem d32_2 : decode prog_18_method_7_code 2 = .ok (.getfield 17, 3) := by decide +kernel
theorem d32_5 : decode prog_18_method_7_code 5 = .ok (.aload_n 0, 1) := by decide +kernel
theorem d32_6 : decode prog_18_method_7_code 6 = .ok (.iload_n 1, 1) := by decide +kernel
theorem d32_7 : decode prog_18_method_7_code 7 = .ok (.invokevirtual 66, 3) := by decide +kernel
theorem d32_10 : decode prog_18_method_7_code 10 = .ok (.iaload, 1) := by decide +kernel
theorem d32_11 : decode prog_18_method_7_code 11 = .ok (.invokevirtual 69, 3) := by decide +kernel
theorem d32_14 : decode prog_18_method_7_code 14 = .ok (.ireturn, 1) := by decide +kernel
theorem ef_startI_0 (m : MethodId) (m_ : Addr) : entryFrame m #[(rr m_), (ii 0)] 2 = mkF m 0 #[vr m_, vi 0] [] := by first | (simp [entryFrame, mkF, argsToLocals, Value.category]; done) | rfl
def Q_startI_0 (Z : State) (m_ : Addr) (s_ : Addr) (b_ : Addr) (kb_ : ClassId) (h0 : Heap) (n0 : Nat) (v : Option Value) (h : Heap) (L : List Loc) : Prop := v = some (ii 0) ∧ Fr n0 L ∧ h = h0
set_option maxRecDepth 65536 in
set_option maxHeartbeats 40000000 in
theorem rm_startI_0 (l : Launch) (Z : State) (a0 : Array Value) (hw : HW Z a0) (ws : List Jvm.Cond) (m_ : Addr) (s_ : Addr) (b_ : Addr) (kb_ : ClassId) (h0 : Heap) (n0 : Nat) (O0 : Old Z n0 h0) (E0_ : Exa Z h0 m_ nm2) (F1_ : Fld Z h0 m_ nm2 "text" nm3 (rr s_)) (F2_ : Fld Z h0 m_ nm2 "offset" "J" (.long (0 : Int64))) (F3_ : Fld Z h0 m_ nm2 "bounds" "[I" (rr b_)) (A4_ : Arv Z h0 b_ kb_ .int (2 : Int32) [(ii 0), (ii 0)] (ii 0)) :
  MFP l Z (⟨nm2, "start", "(I)I"⟩ : MethodName) prog_18_method_7_code 2 (some .int) ({ frames := 2, cells := 0, slots := 0, locals := 28 } : Room) ws #[(rr m_), (ii 0)] h0 (Q_startI_0 Z m_ s_ b_ kb_ h0 n0) := by
 refine MetFree.of_bodySF (plainFor_of_name pn_gleaner_Match) hisR ?_
 intro p e s m args below meth c s₁ Bd hml0 hP hK
 obtain ⟨rfl, hZ, hh⟩ := hP
 have hx := Bd.exec
 have hby := Bd.bytes
 have hml : c.maxLocals = 2 := hml0
 have hown : s.vm.findClass nm2 = some m.cls := findClass_of_methodNamed Bd.named
 have hnm := (name_of_methodNamed Bd.named Bd.method).1
 have X0 : Stand p l e ({ frames := 2, cells := 0, slots := 0, locals := 28 } : Room) s m #[(rr m_), (ii 0)] below meth c s₁ [] 0 0 := Stand.of_body Bd
 have e0 : s₁.heap = h0 := by rw [← hh, Bd.state]; rfl
 have N0 := Fr.nil n0
 have kp0 : Keep h0 h0 [] := Keep.refl _ _
 have c0 : ∀ t, S_ p e below s₁ m 0 #[vr m_, vi 0] [] t → Steps p.tables e below (s₁.setTop (entryFrame m #[(rr m_), (ii 0)] 2)) t := fun t k => castTop (ef_startI_0 m m_) k
 generalize s₁.setTop (entryFrame m #[(rr m_), (ii 0)] 2) = st0 at c0 ⊢
 replace c0 : Kt p e below s₁ st0 (mkF m 0 #[vr m_, vi 0] []) := c0
 have c1 : Kt p e below s₁ st0 (mkF m 2 #[vr m_, vi 0] [(rr m_), (rr m_)]) := fun t k => by
  refine c0 t ?_
  show S_ p e below s₁ m 0 #[vr m_, vi 0] [] t
  refine XS.aloadN X0.here hx rfl (hb hby d32_0) rfl rfl ?_
  refine XS.aloadN X0.here hx rfl (hb hby d32_1) rfl rfl ?_
  exact k
 obtain ⟨T2, X2, e2, c2⟩ := kget X0 hx hZ hown (host := "") (Or.inl (w72 hw)) Via.refl e0 F3_ c1 rfl rfl (hb hby d32_2)
 have c3 : Kt p e below T2 st0 (mkF m 7 #[vr m_, vi 0] [(ii 0), (rr m_), (rr b_), (rr m_)]) := fun t k => by
  refine c2 t ?_
  show S_ p e below T2 m 5 #[vr m_, vi 0] [(rr b_), (rr m_)] t
  refine XS.aloadN X2.here hx rfl (hb hby d32_5) rfl rfl ?_
  refine XS.iloadN X2.here hx rfl (hb hby d32_6) rfl ?_
  exact k
 obtain ⟨_, T4, L4, X4, hQ4, c4⟩ := kpriv X2 hx hZ hown (w115 hw) (w52 hw) (w117 hw) (w116 hw) (w118 hw) (w49 hw) (rm_chk l Z a0 hw [] m_ b_ kb_ [(ii 0), (ii 0)] h0 n0 O0 E0_ F3_ A4_) e2 E0_ c3 hml pd_pIrI [(ii 0)] [(rr b_), (rr m_)] 2 (hb hby d32_7) rfl rfl rfl rfl rfl rfl
 obtain ⟨rfl, N5q, K6⟩ := hQ4
 have N5 := Fr.app N0 N5q
 have c7 : Kt p e below T4 st0 (mkF m 11 #[vr m_, vi 0] [(ii 0), (rr m_)]) := fun t k => by
  refine c4 t ?_
  show S_ p e below T4 m 10 #[vr m_, vi 0] [(ii 0), (rr b_), (rr m_)] t
  refine ldI X4 hx hZ K6 A4_ (v := (ii 0)) (by decide) (by decide) rfl rfl rfl (hb hby d32_10) ?_
  exact k
 obtain ⟨_, T8, L8, X8, hQ8, c8⟩ := kpriv X4 hx hZ hown (w154 hw) (w52 hw) (w156 hw) (w155 hw) (w157 hw) (w49 hw) (rm_plc_0 l Z a0 hw [] m_ h0 n0 O0 E0_ F2_) K6 E0_ c7 hml pd_pIrI [(ii 0)] [] 0 (hb hby d32_11) rfl rfl rfl rfl rfl rfl
 obtain ⟨rfl, N9q, K10⟩ := hQ8
 have N9 := Fr.app N5 N9q
 obtain ⟨fs, hr, hrun, hended, hW, hsame⟩ := X8.leave (v := some (ii 0)) (fun h => by rw [Bd.returns] at h; cases h)
 refine ⟨_, _, c8 _ ?_, hrun, hended, _, _, rfl, ?_, ⟨_, rfl⟩, hW, hsame.mono (by decide) (by decide)⟩
 ·show S_ p e below T8 m 14 #[vr m_, vi 0] [(ii 0)] _
  exact retOut X8 hx Bd.returns rfl (Or.inl ⟨rfl, Or.inl rfl, _, rfl⟩) (hb hby d32_14) hr
 ·show Q_startI_0 Z m_ s_ b_ kb_ h0 n0 _ T8.heap _
  rw [K10]
  exact ⟨rfl, N9, rfl⟩
theorem d33_0 : decode prog_18_method_6_code 0 = .ok (.aload_n 0, 1) := by decide +kernel
theorem d33_1 : decode prog_18_method_6_code 1 = .ok (.iconst 0, 1) := by decide +kernel
theorem d33_2 : decode prog_18_method_6_code 2 = .ok (.invokevirtual 65, 3) := by decide +kernel
theorem d33_5 : decode prog_18_method_6_code 5 = .ok (.ireturn, 1) := by decide +kernel
theorem ef_start_0 (m : MethodId) (m_ : Addr) : entryFrame m #[(rr m_)] 1 = mkF m 0 #[vr m_] [] := by first | (simp [entryFrame, mkF, argsToLocals, Value.category]; done) | rfl
def Q_start_0 (Z : State) (m_ : Addr) (s_ : Addr) (b_ : Addr) (kb_ : ClassId) (h0 : Heap) (n0 : Nat) (v : Option Value) (h : Heap) (L : List Loc) : Prop := v = some (ii 0) ∧ Fr n0 L ∧ h = h0
set_option maxRecDepth 65536 in
set_option maxHeartbeats 40000000 in
theorem rm_start_0 (l : Launch) (Z : State) (a0 : Array Value) (hw : HW Z a0) (ws : List Jvm.Cond) (m_ : Addr) (s_ : Addr) (b_ : Addr) (kb_ : ClassId) (h0 : Heap) (n0 : Nat) (O0 : Old Z n0 h0) (E0_ : Exa Z h0 m_ nm2) (F1_ : Fld Z h0 m_ nm2 "text" nm3 (rr s_)) (F2_ : Fld Z h0 m_ nm2 "offset" "J" (.long (0 : Int64))) (F3_ : Fld Z h0 m_ nm2 "bounds" "[I" (rr b_)) (A4_ : Arv Z h0 b_ kb_ .int (2 : Int32) [(ii 0), (ii 0)] (ii 0)) :
  MFP l Z (⟨nm2, "start", "()I"⟩ : MethodName) prog_18_method_6_code 1 (some .int) ({ frames := 3, cells := 0, slots := 0, locals := 41 } : Room) ws #[(rr m_)] h0 (Q_start_0 Z m_ s_ b_ kb_ h0 n0) := by
 refine MetFree.of_bodySF (plainFor_of_name pn_gleaner_Match) hisR ?_
 intro p e s m args below meth c s₁ Bd hml0 hP hK
 obtain ⟨rfl, hZ, hh⟩ := hP
 have hx := Bd.exec
 have hby := Bd.bytes
 have hml : c.maxLocals = 1 := hml0
 have hown : s.vm.findClass nm2 = some m.cls := findClass_of_methodNamed Bd.named
 have hnm := (name_of_methodNamed Bd.named Bd.method).1
 have X0 : Stand p l e ({ frames := 3, cells := 0, slots := 0, locals := 41 } : Room) s m #[(rr m_)] below meth c s₁ [] 0 0 := Stand.of_body Bd
 have e0 : s₁.heap = h0 := by rw [← hh, Bd.state]; rfl
 have N0 := Fr.nil n0
 have kp0 : Keep h0 h0 [] := Keep.refl _ _
 have c0 : ∀ t, S_ p e below s₁ m 0 #[vr m_] [] t → Steps p.tables e below (s₁.setTop (entryFrame m #[(rr m_)] 1)) t := fun t k => castTop (ef_start_0 m m_) k
 generalize s₁.setTop (entryFrame m #[(rr m_)] 1) = st0 at c0 ⊢
 replace c0 : Kt p e below s₁ st0 (mkF m 0 #[vr m_] []) := c0
 have c1 : Kt p e below s₁ st0 (mkF m 2 #[vr m_] [(ii 0), (rr m_)]) := fun t k => by
  refine c0 t ?_
  show S_ p e below s₁ m 0 #[vr m_] [] t
  refine XS.aloadN X0.here hx rfl (hb hby d33_0) rfl rfl ?_
  refine XS.iconst X0.here hx rfl (hb hby d33_1) ?_
  exact k
 obtain ⟨_, T2, L2, X2, hQ2, c2⟩ := kvirt X0 hx hZ hown (w149 hw) (w150 hw) (w152 hw) (w151 hw) (w153 hw) (w49 hw) (rm_startI_0 l Z a0 hw [] m_ s_ b_ kb_ h0 n0 O0 E0_ F1_ F2_ F3_ A4_) e0 E0_ c1 hml pd_pIrI [(ii 0)] [] 0 (hb hby d33_2) rfl rfl rfl rfl rfl rfl
 obtain ⟨rfl, N3q, K4⟩ := hQ2
 have N3 := Fr.app N0 N3q
 obtain ⟨fs, hr, hrun, hended, hW, hsame⟩ := X2.leave (v := some (ii 0)) (fun h => by rw [Bd.returns] at h; cases h)
 refine ⟨_, _, c2 _ ?_, hrun, hended, _, _, rfl, ?_, ⟨_, rfl⟩, hW, hsame.mono (by decide) (by decide)⟩
 ·show S_ p e below T2 m 5 #[vr m_] [(ii 0)] _
  exact retOut X2 hx Bd.returns rfl (Or.inl ⟨rfl, Or.inl rfl, _, rfl⟩) (hb hby d33_5) hr
 ·show Q_start_0 Z m_ s_ b_ kb_ h0 n0 _ T2.heap _
  rw [K4]
  exact ⟨rfl, N3, rfl⟩
theorem d34_0 : decode prog_18_method_9_code 0 = .ok (.aload_n 0, 1) := by decide +kernel
theorem d34_1 : decode prog_18_method_9_code 1 = .ok (.aload_n 0, 1) := by decide +kernel
theorem d34_2 : decode prog_18_method_9_code 2 = .ok (.getfield 17, 3) := by decide +kernel
theorem d34_5 : decode prog_18_method_9_code 5 = .ok (.aload_n 0, 1) := by decide +kernel
theorem d34_6 : decode prog_18_method_9_code 6 = .ok (.iload_n 1, 1) := by decide +kernel
theorem d34_7 : decode prog_18_method_9_code 7 = .ok (.invokevirtual 66, 3) := by decide +kernel
theorem d34_10 : decode prog_18_method_9_code 10 = .ok (.iconst 1, 1) := by decide +kernel
theorem d34_11 : decode prog_18_method_9_code 11 = .ok (.iadd, 1) := by decide +kernel
theorem d34_12 : decode prog_18_method_9_code 12 = .ok (.iaload, 1) := by decide +kernel
theorem d34_13 : decode prog_18_method_9_code 13 = .ok (.invokevirtual 69, 3) := by decide +kernel
theorem d34_16 : decode prog_18_method_9_code 16 = .ok (.ireturn, 1) := by decide +kernel
theorem ef_endI_0 (m : MethodId) (m_ : Addr) : entryFrame m #[(rr m_), (ii 0)] 2 = mkF m 0 #[vr m_, vi 0] [] := by first | (simp [entryFrame, mkF, argsToLocals, Value.category]; done) | rfl
def Q_endI_0 (Z : State) (m_ : Addr) (s_ : Addr) (b_ : Addr) (kb_ : ClassId) (h0 : Heap) (n0 : Nat) (v : Option Value) (h : Heap) (L : List Loc) : Prop := v = some (ii 0) ∧ Fr n0 L ∧ h = h0
set_option maxRecDepth 65536 in
set_option maxHeartbeats 40000000 in
theorem rm_endI_0 (l : Launch) (Z : State) (a0 : Array Value) (hw : HW Z a0) (ws : List Jvm.Cond) (m_ : Addr) (s_ : Addr) (b_ : Addr) (kb_ : ClassId) (h0 : Heap) (n0 : Nat) (O0 : Old Z n0 h0) (E0_ : Exa Z h0 m_ nm2) (F1_ : Fld Z h0 m_ nm2 "text" nm3 (rr s_)) (F2_ : Fld Z h0 m_ nm2 "offset" "J" (.long (0 : Int64))) (F3_ : Fld Z h0 m_ nm2 "bounds" "[I" (rr b_)) (A4_ : Arv Z h0 b_ kb_ .int (2 : Int32) [(ii 0), (ii 0)] (ii 0)) :
  MFP l Z (⟨nm2, "end", "(I)I"⟩ : MethodName) prog_18_method_9_code 2 (some .int) ({ frames := 2, cells := 0, slots := 0, locals := 28 } : Room) ws #[(rr m_), (ii 0)] h0 (Q_endI_0 Z m_ s_ b_ kb_ h0 n0) := by
 refine MetFree.of_bodySF (plainFor_of_name pn_gleaner_Match) hisR ?_
 intro p e s m args below meth c s₁ Bd hml0 hP hK
 obtain ⟨rfl, hZ, hh⟩ := hP
 have hx := Bd.exec
 have hby := Bd.bytes
 have hml : c.maxLocals = 2 := hml0
 have hown : s.vm.findClass nm2 = some m.cls := findClass_of_methodNamed Bd.named
 have hnm := (name_of_methodNamed Bd.named Bd.method).1
 have X0 : Stand p l e ({ frames := 2, cells := 0, slots := 0, locals := 28 } : Room) s m #[(rr m_), (ii 0)] below meth c s₁ [] 0 0 := Stand.of_body Bd
 have e0 : s₁.heap = h0 := by rw [← hh, Bd.state]; rfl
 have N0 := Fr.nil n0
 have kp0 : Keep h0 h0 [] := Keep.refl _ _
 have c0 : ∀ t, S_ p e below s₁ m 0 #[vr m_, vi 0] [] t → Steps p.tables e below (s₁.setTop (entryFrame m #[(rr m_), (ii 0)] 2)) t := fun t k => castTop (ef_endI_0 m m_) k
 generalize s₁.setTop (entryFrame m #[(rr m_), (ii 0)] 2) = st0 at c0 ⊢
 replace c0 : Kt p e below s₁ st0 (mkF m 0 #[vr m_, vi 0] []) := c0
 have c1 : Kt p e below s₁ st0 (mkF m 2 #[vr m_, vi 0] [(rr m_), (rr m_)]) := fun t k => by
  refine c0 t ?_
  show S_ p e below s₁ m 0 #[vr m_, vi 0] [] t
  refine XS.aloadN X0.here hx rfl (hb hby d34_0) rfl rfl ?_
  refine XS.aloadN X0.here hx rfl (hb hby d34_1) rfl rfl ?_
  exact k
 obtain ⟨T2, X2, e2, c2⟩ := kget X0 hx hZ hown (host := "") (Or.inl (w72 hw)) Via.refl e0 F3_ c1 rfl rfl (hb hby d34_2)
 have c3 : Kt p e below T2 st0 (mkF m 7 #[vr m_, vi 0] [(ii 0), (rr m_), (rr b_), (rr m_)]) := fun t k => by
  refine c2 t ?_
  show S_ p e below T2 m 5 #[vr m_, vi 0] [(rr b_), (rr m_)] t
  refine XS.aloadN X2.here hx rfl (hb hby d34_5) rfl rfl ?_
  refine XS.iloadN X2.here hx rfl (hb hby d34_6) rfl ?_
  exact k
 obtain ⟨_, T4, L4, X4, hQ4, c4⟩ := kpriv X2 hx hZ hown (w115 hw) (w52 hw) (w117 hw) (w116 hw) (w118 hw) (w49 hw) (rm_chk l Z a0 hw [] m_ b_ kb_ [(ii 0), (ii 0)] h0 n0 O0 E0_ F3_ A4_) e2 E0_ c3 hml pd_pIrI [(ii 0)] [(rr b_), (rr m_)] 2 (hb hby d34_7) rfl rfl rfl rfl rfl rfl
 obtain ⟨rfl, N5q, K6⟩ := hQ4
 have N5 := Fr.app N0 N5q
 have c7 : Kt p e below T4 st0 (mkF m 13 #[vr m_, vi 0] [(ii 0), (rr m_)]) := fun t k => by
  refine c4 t ?_
  show S_ p e below T4 m 10 #[vr m_, vi 0] [(ii 0), (rr b_), (rr m_)] t
  refine XS.iconst X4.here hx rfl (hb hby d34_10) ?_
  refine XS.iadd X4.here hx rfl (hb hby d34_11) rfl ?_
  refine ldI X4 hx hZ K6 A4_ (v := (ii 0)) (by decide) (by decide) rfl rfl rfl (hb hby d34_12) ?_
  exact k
 obtain ⟨_, T8, L8, X8, hQ8, c8⟩ := kpriv X4 hx hZ hown (w154 hw) (w52 hw) (w156 hw) (w155 hw) (w157 hw) (w49 hw) (rm_plc_0 l Z a0 hw [] m_ h0 n0 O0 E0_ F2_) K6 E0_ c7 hml pd_pIrI [(ii 0)] [] 0 (hb hby d34_13) rfl rfl rfl rfl rfl rfl
 obtain ⟨rfl, N9q, K10⟩ := hQ8
 have N9 := Fr.app N5 N9q
 obtain ⟨fs, hr, hrun, hended, hW, hsame⟩ := X8.leave (v := some (ii 0)) (fun h => by rw [Bd.returns] at h; cases h)
 refine ⟨_, _, c8 _ ?_, hrun, hended, _, _, rfl, ?_, ⟨_, rfl⟩, hW, hsame.mono (by decide) (by decide)⟩
 ·show S_ p e below T8 m 16 #[vr m_, vi 0] [(ii 0)] _
  exact retOut X8 hx Bd.returns rfl (Or.inl ⟨rfl, Or.inl rfl, _, rfl⟩) (hb hby d34_16) hr
 ·show Q_endI_0 Z m_ s_ b_ kb_ h0 n0 _ T8.heap _
  rw [K10]
  exact ⟨rfl, N9, rfl⟩
theorem d35_0 : decode prog_18_method_8_code 0 = .ok (.aload_n 0, 1) := by decide +kernel
theorem d35_1 : decode prog_18_method_8_code 1 = .ok (.iconst 0, 1) := by decide +kernel
theorem d35_2 : decode prog_18_method_8_code 2 = .ok (.invokevirtual 72, 3) := by decide +kernel
theorem d35_5 : decode prog_18_method_8_code 5 = .ok (.ireturn, 1) := by decide +kernel
theorem ef_end_0 (m : MethodId) (m_ : Addr) : entryFrame m #[(rr m_)] 1 = mkF m 0 #[vr m_] [] := by first | (simp [entryFrame, mkF, argsToLocals, Value.category]; done) | rfl
def Q_end_0 (Z : State) (m_ : Addr) (s_ : Addr) (b_ : Addr) (kb_ : ClassId) (h0 : Heap) (n0 : Nat) (v : Option Value) (h : Heap) (L : List Loc) : Prop := v = some (ii 0) ∧ Fr n0 L ∧ h = h0
set_option maxRecDepth 65536 in
set_option maxHeartbeats 40000000 in
theorem rm_end_0 (l : Launch) (Z : State) (a0 : Array Value) (hw : HW Z a0) (ws : List Jvm.Cond) (m_ : Addr) (s_ : Addr) (b_ : Addr) (kb_ : ClassId) (h0 : Heap) (n0 : Nat) (O0 : Old Z n0 h0) (E0_ : Exa Z h0 m_ nm2) (F1_ : Fld Z h0 m_ nm2 "text" nm3 (rr s_)) (F2_ : Fld Z h0 m_ nm2 "offset" "J" (.long (0 : Int64))) (F3_ : Fld Z h0 m_ nm2 "bounds" "[I" (rr b_)) (A4_ : Arv Z h0 b_ kb_ .int (2 : Int32) [(ii 0), (ii 0)] (ii 0)) :
  MFP l Z (⟨nm2, "end", "()I"⟩ : MethodName) prog_18_method_8_code 1 (some .int) ({ frames := 3, cells := 0, slots := 0, locals := 41 } : Room) ws #[(rr m_)] h0 (Q_end_0 Z m_ s_ b_ kb_ h0 n0) := by
 refine MetFree.of_bodySF (plainFor_of_name pn_gleaner_Match) hisR ?_
 intro p e s m args below meth c s₁ Bd hml0 hP hK
 obtain ⟨rfl, hZ, hh⟩ := hP
 have hx := Bd.exec
 have hby := Bd.bytes
 have hml : c.maxLocals = 1 := hml0
 have hown : s.vm.findClass nm2 = some m.cls := findClass_of_methodNamed Bd.named
 have hnm := (name_of_methodNamed Bd.named Bd.method).1
 have X0 : Stand p l e ({ frames := 3, cells := 0, slots := 0, locals := 41 } : Room) s m #[(rr m_)] below meth c s₁ [] 0 0 := Stand.of_body Bd
 have e0 : s₁.heap = h0 := by rw [← hh, Bd.state]; rfl
 have N0 := Fr.nil n0
 have kp0 : Keep h0 h0 [] := Keep.refl _ _
 have c0 : ∀ t, S_ p e below s₁ m 0 #[vr m_] [] t → Steps p.tables e below (s₁.setTop (entryFrame m #[(rr m_)] 1)) t := fun t k => castTop (ef_end_0 m m_) k
 generalize s₁.setTop (entryFrame m #[(rr m_)] 1) = st0 at c0 ⊢
 replace c0 : Kt p e below s₁ st0 (mkF m 0 #[vr m_] []) := c0
 have c1 : Kt p e below s₁ st0 (mkF m 2 #[vr m_] [(ii 0), (rr m_)]) := fun t k => by
  refine c0 t ?_
  show S_ p e below s₁ m 0 #[vr m_] [] t
  refine XS.aloadN X0.here hx rfl (hb hby d35_0) rfl rfl ?_
  refine XS.iconst X0.here hx rfl (hb hby d35_1) ?_
  exact k
 obtain ⟨_, T2, L2, X2, hQ2, c2⟩ := kvirt X0 hx hZ hown (w167 hw) (w168 hw) (w170 hw) (w169 hw) (w171 hw) (w49 hw) (rm_endI_0 l Z a0 hw [] m_ s_ b_ kb_ h0 n0 O0 E0_ F1_ F2_ F3_ A4_) e0 E0_ c1 hml pd_pIrI [(ii 0)] [] 0 (hb hby d35_2) rfl rfl rfl rfl rfl rfl
 obtain ⟨rfl, N3q, K4⟩ := hQ2
 have N3 := Fr.app N0 N3q
 obtain ⟨fs, hr, hrun, hended, hW, hsame⟩ := X2.leave (v := some (ii 0)) (fun h => by rw [Bd.returns] at h; cases h)
 refine ⟨_, _, c2 _ ?_, hrun, hended, _, _, rfl, ?_, ⟨_, rfl⟩, hW, hsame.mono (by decide) (by decide)⟩
 ·show S_ p e below T2 m 5 #[vr m_] [(ii 0)] _
  exact retOut X2 hx Bd.returns rfl (Or.inl ⟨rfl, Or.inl rfl, _, rfl⟩) (hb hby d35_5) hr
 ·show Q_end_0 Z m_ s_ b_ kb_ h0 n0 _ T2.heap _
  rw [K4]
  exact ⟨rfl, N3, rfl⟩
theorem ef_startI_1 (m : MethodId) (m_ : Addr) : entryFrame m #[(rr m_), (ii 0)] 2 = mkF m 0 #[vr m_, vi 0] [] := by first | (simp [entryFrame, mkF, argsToLocals, Value.category]; done) | rfl
def Q_startI_1 (Z : State) (m_ : Addr) (s_ : Addr) (b_ : Addr) (kb_ : ClassId) (h0 : Heap) (n0 : Nat) (v : Option Value) (h : Heap) (L : List Loc) : Prop := v = some (ii 0) ∧ Fr n0 L ∧ h = h0
set_option maxRecDepth 65536 in
set_option maxHeartbeats 40000000 in
theorem rm_startI_1 (l : Launch) (Z : State) (a0 : Array Value) (hw : HW Z a0) (ws : List Jvm.Cond) (m_ : Addr) (s_ : Addr) (b_ : Addr) (kb_ : ClassId) (h0 : Heap) (n0 : Nat) (O0 : Old Z n0 h0) (E0_ : Exa Z h0 m_ nm2) (F1_ : Fld Z h0 m_ nm2 "text" nm3 (rr s_)) (F2_ : Fld Z h0 m_ nm2 "offset" "J" (.long (0 : Int64))) (F3_ : Fld Z h0 m_ nm2 "bounds" "[I" (rr b_)) (A4_ : Arv Z h0 b_ kb_ .int (2 : Int32) [(ii 0), (ii 1)] (ii 0)) :
  MFP l Z (⟨nm2, "start", "(I)I"⟩ : MethodName) prog_18_method_7_code 2 (some .int) ({ frames := 2, cells := 0, slots := 0, locals := 28 } : Room) ws #[(rr m_), (ii 0)] h0 (Q_startI_1 Z m_ s_ b_ kb_ h0 n0) := by
 refine MetFree.of_bodySF (plainFor_of_name pn_gleaner_Match) hisR ?_
 intro p e s m args below meth c s₁ Bd hml0 hP hK
 obtain ⟨rfl, hZ, hh⟩ := hP
 have hx := Bd.exec
 have hby := Bd.bytes
 have hml : c.maxLocals = 2 := hml0
 have hown : s.vm.findClass nm2 = some m.cls := findClass_of_methodNamed Bd.named
 have hnm := (name_of_methodNamed Bd.named Bd.method).1
 have X0 : Stand p l e ({ frames := 2, cells := 0, slots := 0, locals := 28 } : Room) s m #[(rr m_), (ii 0)] below meth c s₁ [] 0 0 := Stand.of_body Bd
 have e0 : s₁.heap = h0 := by rw [← hh, Bd.state]; rfl
 have N0 := Fr.nil n0
 have kp0 : Keep h0 h0 [] := Keep.refl _ _
 have c0 : ∀ t, S_ p e below s₁ m 0 #[vr m_, vi 0] [] t → Steps p.tables e below (s₁.setTop (entryFrame m #[(rr m_), (ii 0)] 2)) t := fun t k => castTop (ef_startI_1 m m_) k
 generalize s₁.setTop (entryFrame m #[(rr m_), (ii 0)] 2) = st0 at c0 ⊢
 replace c0 : Kt p e below s₁ st0 (mkF m 0 #[vr m_, vi 0] []) := c0
 have c1 : Kt p e below s₁ st0 (mkF m 2 #[vr m_, vi 0] [(rr m_), (rr m_)]) := fun t k => by
  refine c0 t ?_
  show S_ p e below s₁ m 0 #[vr m_, vi 0] [] t
  refine XS.aloadN X0.here hx rfl (hb hby d32_0) rfl rfl ?_
  refine XS.aloadN X0.here hx rfl (hb hby d32_1) rfl rfl ?_
  exact k
 obtain ⟨T2, X2, e2, c2⟩ := kget X0 hx hZ hown (host := "") (Or.inl (w72 hw)) Via.refl e0 F3_ c1 rfl rfl (hb hby d32_2)
 have c3 : Kt p e below T2 st0 (mkF m 7 #[vr m_, vi 0] [(ii 0), (rr m_), (rr b_), (rr m_)]) := fun t k => by
  refine c2 t ?_
  show S_ p e below T2 m 5 #[vr m_, vi 0] [(rr b_), (rr m_)] t
  refine XS.aloadN X2.here hx rfl (hb hby d32_5) rfl rfl ?_
  refine XS.iloadN X2.here hx rfl (hb hby d32_6) rfl ?_
  exact k
 obtain ⟨_, T4, L4, X4, hQ4, c4⟩ := kpriv X2 hx hZ hown (w115 hw) (w52 hw) (w117 hw) (w116 hw) (w118 hw) (w49 hw) (rm_chk l Z a0 hw [] m_ b_ kb_ [(ii 0), (ii 1)] h0 n0 O0 E0_ F3_ A4_) e2 E0_ c3 hml pd_pIrI [(ii 0)] [(rr b_), (rr m_)] 2 (hb hby d32_7) rfl rfl rfl rfl rfl rfl
 obtain ⟨rfl, N5q, K6⟩ := hQ4
 have N5 := Fr.app N0 N5q
 have c7 : Kt p e below T4 st0 (mkF m 11 #[vr m_, vi 0] [(ii 0), (rr m_)]) := fun t k => by
  refine c4 t ?_
  show S_ p e below T4 m 10 #[vr m_, vi 0] [(ii 0), (rr b_), (rr m_)] t
  refine ldI X4 hx hZ K6 A4_ (v := (ii 0)) (by decide) (by decide) rfl rfl rfl (hb hby d32_10) ?_
  exact k
 obtain ⟨_, T8, L8, X8, hQ8, c8⟩ := kpriv X4 hx hZ hown (w154 hw) (w52 hw) (w156 hw) (w155 hw) (w157 hw) (w49 hw) (rm_plc_0 l Z a0 hw [] m_ h0 n0 O0 E0_ F2_) K6 E0_ c7 hml pd_pIrI [(ii 0)] [] 0 (hb hby d32_11) rfl rfl rfl rfl rfl rfl
 obtain ⟨rfl, N9q, K10⟩ := hQ8
 have N9 := Fr.app N5 N9q
 obtain ⟨fs, hr, hrun, hended, hW, hsame⟩ := X8.leave (v := some (ii 0)) (fun h => by rw [Bd.returns] at h; cases h)
 refine ⟨_, _, c8 _ ?_, hrun, hended, _, _, rfl, ?_, ⟨_, rfl⟩, hW, hsame.mono (by decide) (by decide)⟩
 ·show S_ p e below T8 m 14 #[vr m_, vi 0] [(ii 0)] _
  exact retOut X8 hx Bd.returns rfl (Or.inl ⟨rfl, Or.inl rfl, _, rfl⟩) (hb hby d32_14) hr
 ·show Q_startI_1 Z m_ s_ b_ kb_ h0 n0 _ T8.heap _
  rw [K10]
  exact ⟨rfl, N9, rfl⟩
theorem ef_start_1 (m : MethodId) (m_ : Addr) : entryFrame m #[(rr m_)] 1 = mkF m 0 #[vr m_] [] := by first | (simp [entryFrame, mkF, argsToLocals, Value.category]; done) | rfl
def Q_start_1 (Z : State) (m_ : Addr) (s_ : Addr) (b_ : Addr) (kb_ : ClassId) (h0 : Heap) (n0 : Nat) (v : Option Value) (h : Heap) (L : List Loc) : Prop := v = some (ii 0) ∧ Fr n0 L ∧ h = h0
set_option maxRecDepth 65536 in
set_option maxHeartbeats 40000000 in
theorem rm_start_1 (l : Launch) (Z : State) (a0 : Array Value) (hw : HW Z a0) (ws : List Jvm.Cond) (m_ : Addr) (s_ : Addr) (b_ : Addr) (kb_ : ClassId) (h0 : Heap) (n0 : Nat) (O0 : Old Z n0 h0) (E0_ : Exa Z h0 m_ nm2) (F1_ : Fld Z h0 m_ nm2 "text" nm3 (rr s_)) (F2_ : Fld Z h0 m_ nm2 "offset" "J" (.long (0 : Int64))) (F3_ : Fld Z h0 m_ nm2 "bounds" "[I" (rr b_)) (A4_ : Arv Z h0 b_ kb_ .int (2 : Int32) [(ii 0), (ii 1)] (ii 0)) :
  MFP l Z (⟨nm2, "start", "()I"⟩ : MethodName) prog_18_method_6_code 1 (some .int) ({ frames := 3, cells := 0, slots := 0, locals := 41 } : Room) ws #[(rr m_)] h0 (Q_start_1 Z m_ s_ b_ kb_ h0 n0) := by
 refine MetFree.of_bodySF (plainFor_of_name pn_gleaner_Match) hisR ?_
 intro p e s m args below meth c s₁ Bd hml0 hP hK
 obtain ⟨rfl, hZ, hh⟩ := hP
 have hx := Bd.exec
 have hby := Bd.bytes
 have hml : c.maxLocals = 1 := hml0
 have hown : s.vm.findClass nm2 = some m.cls := findClass_of_methodNamed Bd.named
 have hnm := (name_of_methodNamed Bd.named Bd.method).1
 have X0 : Stand p l e ({ frames := 3, cells := 0, slots := 0, locals := 41 } : Room) s m #[(rr m_)] below meth c s₁ [] 0 0 := Stand.of_body Bd
 have e0 : s₁.heap = h0 := by rw [← hh, Bd.state]; rfl
 have N0 := Fr.nil n0
 have kp0 : Keep h0 h0 [] := Keep.refl _ _
 have c0 : ∀ t, S_ p e below s₁ m 0 #[vr m_] [] t → Steps p.tables e below (s₁.setTop (entryFrame m #[(rr m_)] 1)) t := fun t k => castTop (ef_start_1 m m_) k
 generalize s₁.setTop (entryFrame m #[(rr m_)] 1) = st0 at c0 ⊢
 replace c0 : Kt p e below s₁ st0 (mkF m 0 #[vr m_] []) := c0
 have c1 : Kt p e below s₁ st0 (mkF m 2 #[vr m_] [(ii 0), (rr m_)]) := fun t k => by
  refine c0 t ?_
  show S_ p e below s₁ m 0 #[vr m_] [] t
  refine XS.aloadN X0.here hx rfl (hb hby d33_0) rfl rfl ?_
  refine XS.iconst X0.here hx rfl (hb hby d33_1) ?_
  exact k
 obtain ⟨_, T2, L2, X2, hQ2, c2⟩ := kvirt X0 hx hZ hown (w149 hw) (w150 hw) (w152 hw) (w151 hw) (w153 hw) (w49 hw) (rm_startI_1 l Z a0 hw [] m_ s_ b_ kb_ h0 n0 O0 E0_ F1_ F2_ F3_ A4_) e0 E0_ c1 hml pd_pIrI [(ii 0)] [] 0 (hb hby d33_2) rfl rfl rfl rfl rfl rfl
 obtain ⟨rfl, N3q, K4⟩ := hQ2
 have N3 := Fr.app N0 N3q
 obtain ⟨fs, hr, hrun, hended, hW, hsame⟩ := X2.leave (v := some (ii 0)) (fun h => by rw [Bd.returns] at h; cases h)
 refine ⟨_, _, c2 _ ?_, hrun, hended, _, _, rfl, ?_, ⟨_, rfl⟩, hW, hsame.mono (by decide) (by decide)⟩
 ·show S_ p e below T2 m 5 #[vr m_] [(ii 0)] _
  exact retOut X2 hx Bd.returns rfl (Or.inl ⟨rfl, Or.inl rfl, _, rfl⟩) (hb hby d33_5) hr
 ·show Q_start_1 Z m_ s_ b_ kb_ h0 n0 _ T2.heap _
  rw [K4]
  exact ⟨rfl, N3, rfl⟩
theorem ef_endI_1 (m : MethodId) (m_ : Addr) : entryFrame m #[(rr m_), (ii 0)] 2 = mkF m 0 #[vr m_, vi 0] [] := by first | (simp [entryFrame, mkF, argsToLocals, Value.category]; done) | rfl
def Q_endI_1 (Z : State) (m_ : Addr) (s_ : Addr) (b_ : Addr) (kb_ : ClassId) (h0 : Heap) (n0 : Nat) (v : Option Value) (h : Heap) (L : List Loc) : Prop := v = some (ii 1) ∧ Fr n0 L ∧ h = h0
set_option maxRecDepth 65536 in
set_option maxHeartbeats 40000000 in
theorem rm_endI_1 (l : Launch) (Z : State) (a0 : Array Value) (hw : HW Z a0) (ws : List Jvm.Cond) (m_ : Addr) (s_ : Addr) (b_ : Addr) (kb_ : ClassId) (h0 : Heap) (n0 : Nat) (O0 : Old Z n0 h0) (E0_ : Exa Z h0 m_ nm2) (F1_ : Fld Z h0 m_ nm2 "text" nm3 (rr s_)) (F2_ : Fld Z h0 m_ nm2 "offset" "J" (.long (0 : Int64))) (F3_ : Fld Z h0 m_ nm2 "bounds" "[I" (rr b_)) (A4_ : Arv Z h0 b_ kb_ .int (2 : Int32) [(ii 0), (ii 1)] (ii 0)) :
  MFP l Z (⟨nm2, "end", "(I)I"⟩ : MethodName) prog_18_method_9_code 2 (some .int) ({ frames := 2, cells := 0, slots := 0, locals := 28 } : Room) ws #[(rr m_), (ii 0)] h0 (Q_endI_1 Z m_ s_ b_ kb_ h0 n0) := by
 refine MetFree.of_bodySF (plainFor_of_name pn_gleaner_Match) hisR ?_
 intro p e s m args below meth c s₁ Bd hml0 hP hK
 obtain ⟨rfl, hZ, hh⟩ := hP
 have hx := Bd.exec
 have hby := Bd.bytes
 have hml : c.maxLocals = 2 := hml0
 have hown : s.vm.findClass nm2 = some m.cls := findClass_of_methodNamed Bd.named
 have hnm := (name_of_methodNamed Bd.named Bd.method).1
 have X0 : Stand p l e ({ frames := 2, cells := 0, slots := 0, locals := 28 } : Room) s m #[(rr m_), (ii 0)] below meth c s₁ [] 0 0 := Stand.of_body Bd
 have e0 : s₁.heap = h0 := by rw [← hh, Bd.state]; rfl
 have N0 := Fr.nil n0
 have kp0 : Keep h0 h0 [] := Keep.refl _ _
 have c0 : ∀ t, S_ p e below s₁ m 0 #[vr m_, vi 0] [] t → Steps p.tables e below (s₁.setTop (entryFrame m #[(rr m_), (ii 0)] 2)) t := fun t k => castTop (ef_endI_1 m m_) k
 generalize s₁.setTop (entryFrame m #[(rr m_), (ii 0)] 2) = st0 at c0 ⊢
 replace c0 : Kt p e below s₁ st0 (mkF m 0 #[vr m_, vi 0] []) := c0
 have c1 : Kt p e below s₁ st0 (mkF m 2 #[vr m_, vi 0] [(rr m_), (rr m_)]) := fun t k => by
  refine c0 t ?_
  show S_ p e below s₁ m 0 #[vr m_, vi 0] [] t
  refine XS.aloadN X0.here hx rfl (hb hby d34_0) rfl rfl ?_
  refine XS.aloadN X0.here hx rfl (hb hby d34_1) rfl rfl ?_
  exact k
 obtain ⟨T2, X2, e2, c2⟩ := kget X0 hx hZ hown (host := "") (Or.inl (w72 hw)) Via.refl e0 F3_ c1 rfl rfl (hb hby d34_2)
 have c3 : Kt p e below T2 st0 (mkF m 7 #[vr m_, vi 0] [(ii 0), (rr m_), (rr b_), (rr m_)]) := fun t k => by
  refine c2 t ?_
  show S_ p e below T2 m 5 #[vr m_, vi 0] [(rr b_), (rr m_)] t
  refine XS.aloadN X2.here hx rfl (hb hby d34_5) rfl rfl ?_
  refine XS.iloadN X2.here hx rfl (hb hby d34_6) rfl ?_
  exact k
 obtain ⟨_, T4, L4, X4, hQ4, c4⟩ := kpriv X2 hx hZ hown (w115 hw) (w52 hw) (w117 hw) (w116 hw) (w118 hw) (w49 hw) (rm_chk l Z a0 hw [] m_ b_ kb_ [(ii 0), (ii 1)] h0 n0 O0 E0_ F3_ A4_) e2 E0_ c3 hml pd_pIrI [(ii 0)] [(rr b_), (rr m_)] 2 (hb hby d34_7) rfl rfl rfl rfl rfl rfl
 obtain ⟨rfl, N5q, K6⟩ := hQ4
 have N5 := Fr.app N0 N5q
 have c7 : Kt p e below T4 st0 (mkF m 13 #[vr m_, vi 0] [(ii 1), (rr m_)]) := fun t k => by
  refine c4 t ?_
  show S_ p e below T4 m 10 #[vr m_, vi 0] [(ii 0), (rr b_), (rr m_)] t
  refine XS.iconst X4.here hx rfl (hb hby d34_10) ?_
  refine XS.iadd X4.here hx rfl (hb hby d34_11) rfl ?_
  refine ldI X4 hx hZ K6 A4_ (v := (ii 1)) (by decide) (by decide) rfl rfl rfl (hb hby d34_12) ?_
  exact k
 obtain ⟨_, T8, L8, X8, hQ8, c8⟩ := kpriv X4 hx hZ hown (w154 hw) (w52 hw) (w156 hw) (w155 hw) (w157 hw) (w49 hw) (rm_plc_1 l Z a0 hw [] m_ h0 n0 O0 E0_ F2_) K6 E0_ c7 hml pd_pIrI [(ii 1)] [] 0 (hb hby d34_13) rfl rfl rfl rfl rfl rfl
 obtain ⟨rfl, N9q, K10⟩ := hQ8
 have N9 := Fr.app N5 N9q
 obtain ⟨fs, hr, hrun, hended, hW, hsame⟩ := X8.leave (v := some (ii 1)) (fun h => by rw [Bd.returns] at h; cases h)
 refine ⟨_, _, c8 _ ?_, hrun, hended, _, _, rfl, ?_, ⟨_, rfl⟩, hW, hsame.mono (by decide) (by decide)⟩
 ·show S_ p e below T8 m 16 #[vr m_, vi 0] [(ii 1)] _
  exact retOut X8 hx Bd.returns rfl (Or.inl ⟨rfl, Or.inl rfl, _, rfl⟩) (hb hby d34_16) hr
 ·show Q_endI_1 Z m_ s_ b_ kb_ h0 n0 _ T8.heap _
  rw [K10]
  exact ⟨rfl, N9, rfl⟩
theorem ef_end_1 (m : MethodId) (m_ : Addr) : entryFrame m #[(rr m_)] 1 = mkF m 0 #[vr m_] [] := by first | (simp [entryFrame, mkF, argsToLocals, Value.category]; done) | rfl
def Q_end_1 (Z : State) (m_ : Addr) (s_ : Addr) (b_ : Addr) (kb_ : ClassId) (h0 : Heap) (n0 : Nat) (v : Option Value) (h : Heap) (L : List Loc) : Prop := v = some (ii 1) ∧ Fr n0 L ∧ h = h0
set_option maxRecDepth 65536 in
set_option maxHeartbeats 40000000 in
theorem rm_end_1 (l : Launch) (Z : State) (a0 : Array Value) (hw : HW Z a0) (ws : List Jvm.Cond) (m_ : Addr) (s_ : Addr) (b_ : Addr) (kb_ : ClassId) (h0 : Heap) (n0 : Nat) (O0 : Old Z n0 h0) (E0_ : Exa Z h0 m_ nm2) (F1_ : Fld Z h0 m_ nm2 "text" nm3 (rr s_)) (F2_ : Fld Z h0 m_ nm2 "offset" "J" (.long (0 : Int64))) (F3_ : Fld Z h0 m_ nm2 "bounds" "[I" (rr b_)) (A4_ : Arv Z h0 b_ kb_ .int (2 : Int32) [(ii 0), (ii 1)] (ii 0)) :
  MFP l Z (⟨nm2, "end", "()I"⟩ : MethodName) prog_18_method_8_code 1 (some .int) ({ frames := 3, cells := 0, slots := 0, locals := 41 } : Room) ws #[(rr m_)] h0 (Q_end_1 Z m_ s_ b_ kb_ h0 n0) := by
 refine MetFree.of_bodySF (plainFor_of_name pn_gleaner_Match) hisR ?_
 intro p e s m args below meth c s₁ Bd hml0 hP hK
 obtain ⟨rfl, hZ, hh⟩ := hP
 have hx := Bd.exec
 have hby := Bd.bytes
 have hml : c.maxLocals = 1 := hml0
 have hown : s.vm.findClass nm2 = some m.cls := findClass_of_methodNamed Bd.named
 have hnm := (name_of_methodNamed Bd.named Bd.method).1
 have X0 : Stand p l e ({ frames := 3, cells := 0, slots := 0, locals := 41 } : Room) s m #[(rr m_)] below meth c s₁ [] 0 0 := Stand.of_body Bd
 have e0 : s₁.heap = h0 := by rw [← hh, Bd.state]; rfl
 have N0 := Fr.nil n0
 have kp0 : Keep h0 h0 [] := Keep.refl _ _
 have c0 : ∀ t, S_ p e below s₁ m 0 #[vr m_] [] t → Steps p.tables e below (s₁.setTop (entryFrame m #[(rr m_)] 1)) t := fun t k => castTop (ef_end_1 m m_) k
 generalize s₁.setTop (entryFrame m #[(rr m_)] 1) = st0 at c0 ⊢
 replace c0 : Kt p e below s₁ st0 (mkF m 0 #[vr m_] []) := c0
 have c1 : Kt p e below s₁ st0 (mkF m 2 #[vr m_] [(ii 0), (rr m_)]) := fun t k => by
  refine c0 t ?_
  show S_ p e below s₁ m 0 #[vr m_] [] t
  refine XS.aloadN X0.here hx rfl (hb hby d35_0) rfl rfl ?_
  refine XS.iconst X0.here hx rfl (hb hby d35_1) ?_
  exact k
 obtain ⟨_, T2, L2, X2, hQ2, c2⟩ := kvirt X0 hx hZ hown (w167 hw) (w168 hw) (w170 hw) (w169 hw) (w171 hw) (w49 hw) (rm_endI_1 l Z a0 hw [] m_ s_ b_ kb_ h0 n0 O0 E0_ F1_ F2_ F3_ A4_) e0 E0_ c1 hml pd_pIrI [(ii 0)] [] 0 (hb hby d35_2) rfl rfl rfl rfl rfl rfl
 obtain ⟨rfl, N3q, K4⟩ := hQ2
 have N3 := Fr.app N0 N3q
 obtain ⟨fs, hr, hrun, hended, hW, hsame⟩ := X2.leave (v := some (ii 1)) (fun h => by rw [Bd.returns] at h; cases h)
 refine ⟨_, _, c2 _ ?_, hrun, hended, _, _, rfl, ?_, ⟨_, rfl⟩, hW, hsame.mono (by decide) (by decide)⟩
 ·show S_ p e below T2 m 5 #[vr m_] [(ii 1)] _
  exact retOut X2 hx Bd.returns rfl (Or.inl ⟨rfl, Or.inl rfl, _, rfl⟩) (hb hby d35_5) hr
 ·show Q_end_1 Z m_ s_ b_ kb_ h0 n0 _ T2.heap _
  rw [K4]
  exact ⟨rfl, N3, rfl⟩
theorem ef_startI_2 (m : MethodId) (m_ : Addr) : entryFrame m #[(rr m_), (ii 0)] 2 = mkF m 0 #[vr m_, vi 0] [] := by first | (simp [entryFrame, mkF, argsToLocals, Value.category]; done) | rfl
def Q_startI_2 (Z : State) (m_ : Addr) (s_ : Addr) (b_ : Addr) (kb_ : ClassId) (h0 : Heap) (n0 : Nat) (v : Option Value) (h : Heap) (L : List Loc) : Prop := v = some (ii 0) ∧ Fr n0 L ∧ h = h0
set_option maxRecDepth 65536 in
set_option maxHeartbeats 40000000 in
theorem rm_startI_2 (l : Launch) (Z : State) (a0 : Array Value) (hw : HW Z a0) (ws : List Jvm.Cond) (m_ : Addr) (s_ : Addr) (b_ : Addr) (kb_ : ClassId) (h0 : Heap) (n0 : Nat) (O0 : Old Z n0 h0) (E0_ : Exa Z h0 m_ nm2) (F1_ : Fld Z h0 m_ nm2 "text" nm3 (rr s_)) (F2_ : Fld Z h0 m_ nm2 "offset" "J" (.long (0 : Int64))) (F3_ : Fld Z h0 m_ nm2 "bounds" "[I" (rr b_)) (A4_ : Arv Z h0 b_ kb_ .int (2 : Int32) [(ii 0), (ii 2)] (ii 0)) :
  MFP l Z (⟨nm2, "start", "(I)I"⟩ : MethodName) prog_18_method_7_code 2 (some .int) ({ frames := 2, cells := 0, slots := 0, locals := 28 } : Room) ws #[(rr m_), (ii 0)] h0 (Q_startI_2 Z m_ s_ b_ kb_ h0 n0) := by
 refine MetFree.of_bodySF (plainFor_of_name pn_gleaner_Match) hisR ?_
 intro p e s m args below meth c s₁ Bd hml0 hP hK
 obtain ⟨rfl, hZ, hh⟩ := hP
 have hx := Bd.exec
 have hby := Bd.bytes
 have hml : c.maxLocals = 2 := hml0
 have hown : s.vm.findClass nm2 = some m.cls := findClass_of_methodNamed Bd.named
 have hnm := (name_of_methodNamed Bd.named Bd.method).1
 have X0 : Stand p l e ({ frames := 2, cells := 0, slots := 0, locals := 28 } : Room) s m #[(rr m_), (ii 0)] below meth c s₁ [] 0 0 := Stand.of_body Bd
 have e0 : s₁.heap = h0 := by rw [← hh, Bd.state]; rfl
 have N0 := Fr.nil n0
 have kp0 : Keep h0 h0 [] := Keep.refl _ _
 have c0 : ∀ t, S_ p e below s₁ m 0 #[vr m_, vi 0] [] t → Steps p.tables e below (s₁.setTop (entryFrame m #[(rr m_), (ii 0)] 2)) t := fun t k => castTop (ef_startI_2 m m_) k
 generalize s₁.setTop (entryFrame m #[(rr m_), (ii 0)] 2) = st0 at c0 ⊢
 replace c0 : Kt p e below s₁ st0 (mkF m 0 #[vr m_, vi 0] []) := c0
 have c1 : Kt p e below s₁ st0 (mkF m 2 #[vr m_, vi 0] [(rr m_), (rr m_)]) := fun t k => by
  refine c0 t ?_
  show S_ p e below s₁ m 0 #[vr m_, vi 0] [] t
  refine XS.aloadN X0.here hx rfl (hb hby d32_0) rfl rfl ?_
  refine XS.aloadN X0.here hx rfl (hb hby d32_1) rfl rfl ?_
  exact k
 obtain ⟨T2, X2, e2, c2⟩ := kget X0 hx hZ hown (host := "") (Or.inl (w72 hw)) Via.refl e0 F3_ c1 rfl rfl (hb hby d32_2)
 have c3 : Kt p e below T2 st0 (mkF m 7 #[vr m_, vi 0] [(ii 0), (rr m_), (rr b_), (rr m_)]) := fun t k => by
  refine c2 t ?_
  show S_ p e below T2 m 5 #[vr m_, vi 0] [(rr b_), (rr m_)] t
  refine XS.aloadN X2.here hx rfl (hb hby d32_5) rfl rfl ?_
  refine XS.iloadN X2.here hx rfl (hb hby d32_6) rfl ?_
  exact k
 obtain ⟨_, T4, L4, X4, hQ4, c4⟩ := kpriv X2 hx hZ hown (w115 hw) (w52 hw) (w117 hw) (w116 hw) (w118 hw) (w49 hw) (rm_chk l Z a0 hw [] m_ b_ kb_ [(ii 0), (ii 2)] h0 n0 O0 E0_ F3_ A4_) e2 E0_ c3 hml pd_pIrI [(ii 0)] [(rr b_), (rr m_)] 2 (hb hby d32_7) rfl rfl rfl rfl rfl rfl
 obtain ⟨rfl, N5q, K6⟩ := hQ4
 have N5 := Fr.app N0 N5q
 have c7 : Kt p e below T4 st0 (mkF m 11 #[vr m_, vi 0] [(ii 0), (rr m_)]) := fun t k => by
  refine c4 t ?_
  show S_ p e below T4 m 10 #[vr m_, vi 0] [(ii 0), (rr b_), (rr m_)] t
  refine ldI X4 hx hZ K6 A4_ (v := (ii 0)) (by decide) (by decide) rfl rfl rfl (hb hby d32_10) ?_
  exact k
 obtain ⟨_, T8, L8, X8, hQ8, c8⟩ := kpriv X4 hx hZ hown (w154 hw) (w52 hw) (w156 hw) (w155 hw) (w157 hw) (w49 hw) (rm_plc_0 l Z a0 hw [] m_ h0 n0 O0 E0_ F2_) K6 E0_ c7 hml pd_pIrI [(ii 0)] [] 0 (hb hby d32_11) rfl rfl rfl rfl rfl rfl
 obtain ⟨rfl, N9q, K10⟩ := hQ8
 have N9 := Fr.app N5 N9q
 obtain ⟨fs, hr, hrun, hended, hW, hsame⟩ := X8.leave (v := some (ii 0)) (fun h => by rw [Bd.returns] at h; cases h)
 refine ⟨_, _, c8 _ ?_, hrun, hended, _, _, rfl, ?_, ⟨_, rfl⟩, hW, hsame.mono (by decide) (by decide)⟩
 ·show S_ p e below T8 m 14 #[vr m_, vi 0] [(ii 0)] _
  exact retOut X8 hx Bd.returns rfl (Or.inl ⟨rfl, Or.inl rfl, _, rfl⟩) (hb hby d32_14) hr
 ·show Q_startI_2 Z m_ s_ b_ kb_ h0 n0 _ T8.heap _
  rw [K10]
  exact ⟨rfl, N9, rfl⟩
theorem ef_start_2 (m : MethodId) (m_ : Addr) : entryFrame m #[(rr m_)] 1 = mkF m 0 #[vr m_] [] := by first | (simp [entryFrame, mkF, argsToLocals, Value.category]; done) | rfl
def Q_start_2 (Z : State) (m_ : Addr) (s_ : Addr) (b_ : Addr) (kb_ : ClassId) (h0 : Heap) (n0 : Nat) (v : Option Value) (h : Heap) (L : List Loc) : Prop := v = some (ii 0) ∧ Fr n0 L ∧ h = h0
set_option maxRecDepth 65536 in
set_option maxHeartbeats 40000000 in
theorem rm_start_2 (l : Launch) (Z : State) (a0 : Array Value) (hw : HW Z a0) (ws : List Jvm.Cond) (m_ : Addr) (s_ : Addr) (b_ : Addr) (kb_ : ClassId) (h0 : Heap) (n0 : Nat) (O0 : Old Z n0 h0) (E0_ : Exa Z h0 m_ nm2) (F1_ : Fld Z h0 m_ nm2 "text" nm3 (rr s_)) (F2_ : Fld Z h0 m_ nm2 "offset" "J" (.long (0 : Int64))) (F3_ : Fld Z h0 m_ nm2 "bounds" "[I" (rr b_)) (A4_ : Arv Z h0 b_ kb_ .int (2 : Int32) [(ii 0), (ii 2)] (ii 0)) :
  MFP l Z (⟨nm2, "start", "()I"⟩ : MethodName) prog_18_method_6_code 1 (some .int) ({ frames := 3, cells := 0, slots := 0, locals := 41 } : Room) ws #[(rr m_)] h0 (Q_start_2 Z m_ s_ b_ kb_ h0 n0) := by
 refine MetFree.of_bodySF (plainFor_of_name pn_gleaner_Match) hisR ?_
 intro p e s m args below meth c s₁ Bd hml0 hP hK
 obtain ⟨rfl, hZ, hh⟩ := hP
 have hx := Bd.exec
 have hby := Bd.bytes
 have hml : c.maxLocals = 1 := hml0
 have hown : s.vm.findClass nm2 = some m.cls := findClass_of_methodNamed Bd.named
 have hnm := (name_of_methodNamed Bd.named Bd.method).1
 have X0 : Stand p l e ({ frames := 3, cells := 0, slots := 0, locals := 41 } : Room) s m #[(rr m_)] below meth c s₁ [] 0 0 := Stand.of_body Bd
 have e0 : s₁.heap = h0 := by rw [← hh, Bd.state]; rfl
 have N0 := Fr.nil n0
 have kp0 : Keep h0 h0 [] := Keep.refl _ _
 have c0 : ∀ t, S_ p e below s₁ m 0 #[vr m_] [] t → Steps p.tables e below (s₁.setTop (entryFrame m #[(rr m_)] 1)) t := fun t k => castTop (ef_start_2 m m_) k
 generalize s₁.setTop (entryFrame m #[(rr m_)] 1) = st0 at c0 ⊢
 replace c0 : Kt p e below s₁ st0 (mkF m 0 #[vr m_] []) := c0
 have c1 : Kt p e below s₁ st0 (mkF m 2 #[vr m_] [(ii 0), (rr m_)]) := fun t k => by
  refine c0 t ?_
  show S_ p e below s₁ m 0 #[vr m_] [] t
  refine XS.aloadN X0.here hx rfl (hb hby d33_0) rfl rfl ?_
  refine XS.iconst X0.here hx rfl (hb hby d33_1) ?_
  exact k
 obtain ⟨_, T2, L2, X2, hQ2, c2⟩ := kvirt X0 hx hZ hown (w149 hw) (w150 hw) (w152 hw) (w151 hw) (w153 hw) (w49 hw) (rm_startI_2 l Z a0 hw [] m_ s_ b_ kb_ h0 n0 O0 E0_ F1_ F2_ F3_ A4_) e0 E0_ c1 hml pd_pIrI [(ii 0)] [] 0 (hb hby d33_2) rfl rfl rfl rfl rfl rfl
 obtain ⟨rfl, N3q, K4⟩ := hQ2
 have N3 := Fr.app N0 N3q
 obtain ⟨fs, hr, hrun, hended, hW, hsame⟩ := X2.leave (v := some (ii 0)) (fun h => by rw [Bd.returns] at h; cases h)
 refine ⟨_, _, c2 _ ?_, hrun, hended, _, _, rfl, ?_, ⟨_, rfl⟩, hW, hsame.mono (by decide) (by decide)⟩
 ·show S_ p e below T2 m 5 #[vr m_] [(ii 0)] _
  exact retOut X2 hx Bd.returns rfl (Or.inl ⟨rfl, Or.inl rfl, _, rfl⟩) (hb hby d33_5) hr
 ·show Q_start_2 Z m_ s_ b_ kb_ h0 n0 _ T2.heap _
  rw [K4]
  exact ⟨rfl, N3, rfl⟩
theorem ef_endI_2 (m : MethodId) (m_ : Addr) : entryFrame m #[(rr m_), (ii 0)] 2 = mkF m 0 #[vr m_, vi 0] [] := by first | (simp [entryFrame, mkF, argsToLocals, Value.category]; done) | rfl
def Q_endI_2 (Z : State) (m_ : Addr) (s_ : Addr) (b_ : Addr) (kb_ : ClassId) (h0 : Heap) (n0 : Nat) (v : Option Value) (h : Heap) (L : List Loc) : Prop := v = some (ii 2) ∧ Fr n0 L ∧ h = h0
set_option maxRecDepth 65536 in
set_option maxHeartbeats 40000000 in
theorem rm_endI_2 (l : Launch) (Z : State) (a0 : Array Value) (hw : HW Z a0) (ws : List Jvm.Cond) (m_ : Addr) (s_ : Addr) (b_ : Addr) (kb_ : ClassId) (h0 : Heap) (n0 : Nat) (O0 : Old Z n0 h0) (E0_ : Exa Z h0 m_ nm2) (F1_ : Fld Z h0 m_ nm2 "text" nm3 (rr s_)) (F2_ : Fld Z h0 m_ nm2 "offset" "J" (.long (0 : Int64))) (F3_ : Fld Z h0 m_ nm2 "bounds" "[I" (rr b_)) (A4_ : Arv Z h0 b_ kb_ .int (2 : Int32) [(ii 0), (ii 2)] (ii 0)) :
  MFP l Z (⟨nm2, "end", "(I)I"⟩ : MethodName) prog_18_method_9_code 2 (some .int) ({ frames := 2, cells := 0, slots := 0, locals := 28 } : Room) ws #[(rr m_), (ii 0)] h0 (Q_endI_2 Z m_ s_ b_ kb_ h0 n0) := by
 refine MetFree.of_bodySF (plainFor_of_name pn_gleaner_Match) hisR ?_
 intro p e s m args below meth c s₁ Bd hml0 hP hK
 obtain ⟨rfl, hZ, hh⟩ := hP
 have hx := Bd.exec
 have hby := Bd.bytes
 have hml : c.maxLocals = 2 := hml0
 have hown : s.vm.findClass nm2 = some m.cls := findClass_of_methodNamed Bd.named
 have hnm := (name_of_methodNamed Bd.named Bd.method).1
 have X0 : Stand p l e ({ frames := 2, cells := 0, slots := 0, locals := 28 } : Room) s m #[(rr m_), (ii 0)] below meth c s₁ [] 0 0 := Stand.of_body Bd
 have e0 : s₁.heap = h0 := by rw [← hh, Bd.state]; rfl
 have N0 := Fr.nil n0
 have kp0 : Keep h0 h0 [] := Keep.refl _ _
 have c0 : ∀ t, S_ p e below s₁ m 0 #[vr m_, vi 0] [] t → Steps p.tables e below (s₁.setTop (entryFrame m #[(rr m_), (ii 0)] 2)) t := fun t k => castTop (ef_endI_2 m m_) k
 generalize s₁.setTop (entryFrame m #[(rr m_), (ii 0)] 2) = st0 at c0 ⊢
 replace c0 : Kt p e below s₁ st0 (mkF m 0 #[vr m_, vi 0] []) := c0
 have c1 : Kt p e below s₁ st0 (mkF m 2 #[vr m_, vi 0] [(rr m_), (rr m_)]) := fun t k => by
  refine c0 t ?_
  show S_ p e below s₁ m 0 #[vr m_, vi 0] [] t
  refine XS.aloadN X0.here hx rfl (hb hby d34_0) rfl rfl ?_
  refine XS.aloadN X0.here hx rfl (hb hby d34_1) rfl rfl ?_
  exact k
 obtain ⟨T2, X2, e2, c2⟩ := kget X0 hx hZ hown (host := "") (Or.inl (w72 hw)) Via.refl e0 F3_ c1 rfl rfl (hb hby d34_2)
 have c3 : Kt p e below T2 st0 (mkF m 7 #[vr m_, vi 0] [(ii 0), (rr m_), (rr b_), (rr m_)]) := fun t k => by
  refine c2 t ?_
  show S_ p e below T2 m 5 #[vr m_, vi 0] [(rr b_), (rr m_)] t
  refine XS.aloadN X2.here hx rfl (hb hby d34_5) rfl rfl ?_
  refine XS.iloadN X2.here hx rfl (hb hby d34_6) rfl ?_
  exact k
 obtain ⟨_, T4, L4, X4, hQ4, c4⟩ := kpriv X2 hx hZ hown (w115 hw) (w52 hw) (w117 hw) (w116 hw) (w118 hw) (w49 hw) (rm_chk l Z a0 hw [] m_ b_ kb_ [(ii 0), (ii 2)] h0 n0 O0 E0_ F3_ A4_) e2 E0_ c3 hml pd_pIrI [(ii 0)] [(rr b_), (rr m_)] 2 (hb hby d34_7) rfl rfl rfl rfl rfl rfl
 obtain ⟨rfl, N5q, K6⟩ := hQ4
 have N5 := Fr.app N0 N5q
 have c7 : Kt p e below T4 st0 (mkF m 13 #[vr m_, vi 0] [(ii 2), (rr m_)]) := fun t k => by
  refine c4 t ?_
  show S_ p e below T4 m 10 #[vr m_, vi 0] [(ii 0), (rr b_), (rr m_)] t
  refine XS.iconst X4.here hx rfl (hb hby d34_10) ?_
  refine XS.iadd X4.here hx rfl (hb hby d34_11) rfl ?_
  refine ldI X4 hx hZ K6 A4_ (v := (ii 2)) (by decide) (by decide) rfl rfl rfl (hb hby d34_12) ?_
  exact k
 obtain ⟨_, T8, L8, X8, hQ8, c8⟩ := kpriv X4 hx hZ hown (w154 hw) (w52 hw) (w156 hw) (w155 hw) (w157 hw) (w49 hw) (rm_plc_2 l Z a0 hw [] m_ h0 n0 O0 E0_ F2_) K6 E0_ c7 hml pd_pIrI [(ii 2)] [] 0 (hb hby d34_13) rfl rfl rfl rfl rfl rfl
 obtain ⟨rfl, N9q, K10⟩ := hQ8
 have N9 := Fr.app N5 N9q
 obtain ⟨fs, hr, hrun, hended, hW, hsame⟩ := X8.leave (v := some (ii 2)) (fun h => by rw [Bd.returns] at h; cases h)
 refine ⟨_, _, c8 _ ?_, hrun, hended, _, _, rfl, ?_, ⟨_, rfl⟩, hW, hsame.mono (by decide) (by decide)⟩
 ·show S_ p e below T8 m 16 #[vr m_, vi 0] [(ii 2)] _
  exact retOut X8 hx Bd.returns rfl (Or.inl ⟨rfl, Or.inl rfl, _, rfl⟩) (hb hby d34_16) hr
 ·show Q_endI_2 Z m_ s_ b_ kb_ h0 n0 _ T8.heap _
  rw [K10]
  exact ⟨rfl, N9, rfl⟩
theorem ef_end_2 (m : MethodId) (m_ : Addr) : entryFrame m #[(rr m_)] 1 = mkF m 0 #[vr m_] [] := by first | (simp [entryFrame, mkF, argsToLocals, Value.category]; done) | rfl
def Q_end_2 (Z : State) (m_ : Addr) (s_ : Addr) (b_ : Addr) (kb_ : ClassId) (h0 : Heap) (n0 : Nat) (v : Option Value) (h : Heap) (L : List Loc) : Prop := v = some (ii 2) ∧ Fr n0 L ∧ h = h0
set_option maxRecDepth 65536 in
set_option maxHeartbeats 40000000 in
theorem rm_end_2 (l : Launch) (Z : State) (a0 : Array Value) (hw : HW Z a0) (ws : List Jvm.Cond) (m_ : Addr) (s_ : Addr) (b_ : Addr) (kb_ : ClassId) (h0 : Heap) (n0 : Nat) (O0 : Old Z n0 h0) (E0_ : Exa Z h0 m_ nm2) (F1_ : Fld Z h0 m_ nm2 "text" nm3 (rr s_)) (F2_ : Fld Z h0 m_ nm2 "offset" "J" (.long (0 : Int64))) (F3_ : Fld Z h0 m_ nm2 "bounds" "[I" (rr b_)) (A4_ : Arv Z h0 b_ kb_ .int (2 : Int32) [(ii 0), (ii 2)] (ii 0)) :
  MFP l Z (⟨nm2, "end", "()I"⟩ : MethodName) prog_18_method_8_code 1 (some .int) ({ frames := 3, cells := 0, slots := 0, locals := 41 } : Room) ws #[(rr m_)] h0 (Q_end_2 Z m_ s_ b_ kb_ h0 n0) := by
 refine MetFree.of_bodySF (plainFor_of_name pn_gleaner_Match) hisR ?_
 intro p e s m args below meth c s₁ Bd hml0 hP hK
 obtain ⟨rfl, hZ, hh⟩ := hP
 have hx := Bd.exec
 have hby := Bd.bytes
 have hml : c.maxLocals = 1 := hml0
 have hown : s.vm.findClass nm2 = some m.cls := findClass_of_methodNamed Bd.named
 have hnm := (name_of_methodNamed Bd.named Bd.method).1
 have X0 : Stand p l e ({ frames := 3, cells := 0, slots := 0, locals := 41 } : Room) s m #[(rr m_)] below meth c s₁ [] 0 0 := Stand.of_body Bd
 have e0 : s₁.heap = h0 := by rw [← hh, Bd.state]; rfl
 have N0 := Fr.nil n0
 have kp0 : Keep h0 h0 [] := Keep.refl _ _
 have c0 : ∀ t, S_ p e below s₁ m 0 #[vr m_] [] t → Steps p.tables e below (s₁.setTop (entryFrame m #[(rr m_)] 1)) t := fun t k => castTop (ef_end_2 m m_) k
 generalize s₁.setTop (entryFrame m #[(rr m_)] 1) = st0 at c0 ⊢
 replace c0 : Kt p e below s₁ st0 (mkF m 0 #[vr m_] []) := c0
 have c1 : Kt p e below s₁ st0 (mkF m 2 #[vr m_] [(ii 0), (rr m_)]) := fun t k => by
  refine c0 t ?_
  show S_ p e below s₁ m 0 #[vr m_] [] t
  refine XS.aloadN X0.here hx rfl (hb hby d35_0) rfl rfl ?_
  refine XS.iconst X0.here hx rfl (hb hby d35_1) ?_
  exact k
 obtain ⟨_, T2, L2, X2, hQ2, c2⟩ := kvirt X0 hx hZ hown (w167 hw) (w168 hw) (w170 hw) (w169 hw) (w171 hw) (w49 hw) (rm_endI_2 l Z a0 hw [] m_ s_ b_ kb_ h0 n0 O0 E0_ F1_ F2_ F3_ A4_) e0 E0_ c1 hml pd_pIrI [(ii 0)] [] 0 (hb hby d35_2) rfl rfl rfl rfl rfl rfl
 obtain ⟨rfl, N3q, K4⟩ := hQ2
 have N3 := Fr.app N0 N3q
 obtain ⟨fs, hr, hrun, hended, hW, hsame⟩ := X2.leave (v := some (ii 2)) (fun h => by rw [Bd.returns] at h; cases h)
 refine ⟨_, _, c2 _ ?_, hrun, hended, _, _, rfl, ?_, ⟨_, rfl⟩, hW, hsame.mono (by decide) (by decide)⟩
 ·show S_ p e below T2 m 5 #[vr m_] [(ii 2)] _
  exact retOut X2 hx Bd.returns rfl (Or.inl ⟨rfl, Or.inl rfl, _, rfl⟩) (hb hby d35_5) hr
 ·show Q_end_2 Z m_ s_ b_ kb_ h0 n0 _ T2.heap _
  rw [K4]
  exact ⟨rfl, N3, rfl⟩
theorem ef_startI_3 (m : MethodId) (m_ : Addr) : entryFrame m #[(rr m_), (ii 0)] 2 = mkF m 0 #[vr m_, vi 0] [] := by first | (simp [entryFrame, mkF, argsToLocals, Value.category]; done) | rfl
def Q_startI_3 (Z : State) (m_ : Addr) (s_ : Addr) (b_ : Addr) (kb_ : ClassId) (h0 : Heap) (n0 : Nat) (v : Option Value) (h : Heap) (L : List Loc) : Prop := v = some (ii 0) ∧ Fr n0 L ∧ h = h0
set_option maxRecDepth 65536 in
set_option maxHeartbeats 40000000 in
theorem rm_startI_3 (l : Launch) (Z : State) (a0 : Array Value) (hw : HW Z a0) (ws : List Jvm.Cond) (m_ : Addr) (s_ : Addr) (b_ : Addr) (kb_ : ClassId) (h0 : Heap) (n0 : Nat) (O0 : Old Z n0 h0) (E0_ : Exa Z h0 m_ nm2) (F1_ : Fld Z h0 m_ nm2 "text" nm3 (rr s_)) (F2_ : Fld Z h0 m_ nm2 "offset" "J" (.long (0 : Int64))) (F3_ : Fld Z h0 m_ nm2 "bounds" "[I" (rr b_)) (A4_ : Arv Z h0 b_ kb_ .int (2 : Int32) [(ii 0), (ii 3)] (ii 0)) :
  MFP l Z (⟨nm2, "start", "(I)I"⟩ : MethodName) prog_18_method_7_code 2 (some .int) ({ frames := 2, cells := 0, slots := 0, locals := 28 } : Room) ws #[(rr m_), (ii 0)] h0 (Q_startI_3 Z m_ s_ b_ kb_ h0 n0) := by
 refine MetFree.of_bodySF (plainFor_of_name pn_gleaner_Match) hisR ?_
 intro p e s m args below meth c s₁ Bd hml0 hP hK
 obtain ⟨rfl, hZ, hh⟩ := hP
 have hx := Bd.exec
 have hby := Bd.bytes
 have hml : c.maxLocals = 2 := hml0
 have hown : s.vm.findClass nm2 = some m.cls := findClass_of_methodNamed Bd.named
 have hnm := (name_of_methodNamed Bd.named Bd.method).1
 have X0 : Stand p l e ({ frames := 2, cells := 0, slots := 0, locals := 28 } : Room) s m #[(rr m_), (ii 0)] below meth c s₁ [] 0 0 := Stand.of_body Bd
 have e0 : s₁.heap = h0 := by rw [← hh, Bd.state]; rfl
 have N0 := Fr.nil n0
 have kp0 : Keep h0 h0 [] := Keep.refl _ _
 have c0 : ∀ t, S_ p e below s₁ m 0 #[vr m_, vi 0] [] t → Steps p.tables e below (s₁.setTop (entryFrame m #[(rr m_), (ii 0)] 2)) t := fun t k => castTop (ef_startI_3 m m_) k
 generalize s₁.setTop (entryFrame m #[(rr m_), (ii 0)] 2) = st0 at c0 ⊢
 replace c0 : Kt p e below s₁ st0 (mkF m 0 #[vr m_, vi 0] []) := c0
 have c1 : Kt p e below s₁ st0 (mkF m 2 #[vr m_, vi 0] [(rr m_), (rr m_)]) := fun t k => by
  refine c0 t ?_
  show S_ p e below s₁ m 0 #[vr m_, vi 0] [] t
  refine XS.aloadN X0.here hx rfl (hb hby d32_0) rfl rfl ?_
  refine XS.aloadN X0.here hx rfl (hb hby d32_1) rfl rfl ?_
  exact k
 obtain ⟨T2, X2, e2, c2⟩ := kget X0 hx hZ hown (host := "") (Or.inl (w72 hw)) Via.refl e0 F3_ c1 rfl rfl (hb hby d32_2)
 have c3 : Kt p e below T2 st0 (mkF m 7 #[vr m_, vi 0] [(ii 0), (rr m_), (rr b_), (rr m_)]) := fun t k => by
  refine c2 t ?_
  show S_ p e below T2 m 5 #[vr m_, vi 0] [(rr b_), (rr m_)] t
  refine XS.aloadN X2.here hx rfl (hb hby d32_5) rfl rfl ?_
  refine XS.iloadN X2.here hx rfl (hb hby d32_6) rfl ?_
  exact k
 obtain ⟨_, T4, L4, X4, hQ4, c4⟩ := kpriv X2 hx hZ hown (w115 hw) (w52 hw) (w117 hw) (w116 hw) (w118 hw) (w49 hw) (rm_chk l Z a0 hw [] m_ b_ kb_ [(ii 0), (ii 3)] h0 n0 O0 E0_ F3_ A4_) e2 E0_ c3 hml pd_pIrI [(ii 0)] [(rr b_), (rr m_)] 2 (hb hby d32_7) rfl rfl rfl rfl rfl rfl
 obtain ⟨rfl, N5q, K6⟩ := hQ4
 have N5 := Fr.app N0 N5q
 have c7 : Kt p e below T4 st0 (mkF m 11 #[vr m_, vi 0] [(ii 0), (rr m_)]) := fun t k => by
  refine c4 t ?_
  show S_ p e below T4 m 10 #[vr m_, vi 0] [(ii 0), (rr b_), (rr m_)] t
  refine ldI X4 hx hZ K6 A4_ (v := (ii 0)) (by decide) (by decide) rfl rfl rfl (hb hby d32_10) ?_
  exact k
 obtain ⟨_, T8, L8, X8, hQ8, c8⟩ := kpriv X4 hx hZ hown (w154 hw) (w52 hw) (w156 hw) (w155 hw) (w157 hw) (w49 hw) (rm_plc_0 l Z a0 hw [] m_ h0 n0 O0 E0_ F2_) K6 E0_ c7 hml pd_pIrI [(ii 0)] [] 0 (hb hby d32_11) rfl rfl rfl rfl rfl rfl
 obtain ⟨rfl, N9q, K10⟩ := hQ8
 have N9 := Fr.app N5 N9q
 obtain ⟨fs, hr, hrun, hended, hW, hsame⟩ := X8.leave (v := some (ii 0)) (fun h => by rw [Bd.returns] at h; cases h)
 refine ⟨_, _, c8 _ ?_, hrun, hended, _, _, rfl, ?_, ⟨_, rfl⟩, hW, hsame.mono (by decide) (by decide)⟩
 ·show S_ p e below T8 m 14 #[vr m_, vi 0] [(ii 0)] _
  exact retOut X8 hx Bd.returns rfl (Or.inl ⟨rfl, Or.inl rfl, _, rfl⟩) (hb hby d32_14) hr
 ·show Q_startI_3 Z m_ s_ b_ kb_ h0 n0 _ T8.heap _
  rw [K10]
  exact ⟨rfl, N9, rfl⟩
theorem ef_start_3 (m : MethodId) (m_ : Addr) : entryFrame m #[(rr m_)] 1 = mkF m 0 #[vr m_] [] := by first | (simp [entryFrame, mkF, argsToLocals, Value.category]; done) | rfl
def Q_start_3 (Z : State) (m_ : Addr) (s_ : Addr) (b_ : Addr) (kb_ : ClassId) (h0 : Heap) (n0 : Nat) (v : Option Value) (h : Heap) (L : List Loc) : Prop := v = some (ii 0) ∧ Fr n0 L ∧ h = h0
set_option maxRecDepth 65536 in
set_option maxHeartbeats 40000000 in
theorem rm_start_3 (l : Launch) (Z : State) (a0 : Array Value) (hw : HW Z a0) (ws : List Jvm.Cond) (m_ : Addr) (s_ : Addr) (b_ : Addr) (kb_ : ClassId) (h0 : Heap) (n0 : Nat) (O0 : Old Z n0 h0) (E0_ : Exa Z h0 m_ nm2) (F1_ : Fld Z h0 m_ nm2 "text" nm3 (rr s_)) (F2_ : Fld Z h0 m_ nm2 "offset" "J" (.long (0 : Int64))) (F3_ : Fld Z h0 m_ nm2 "bounds" "[I" (rr b_)) (A4_ : Arv Z h0 b_ kb_ .int (2 : Int32) [(ii 0), (ii 3)] (ii 0)) :
  MFP l Z (⟨nm2, "start", "()I"⟩ : MethodName) prog_18_method_6_code 1 (some .int) ({ frames := 3, cells := 0, slots := 0, locals := 41 } : Room) ws #[(rr m_)] h0 (Q_start_3 Z m_ s_ b_ kb_ h0 n0) := by
 refine MetFree.of_bodySF (plainFor_of_name pn_gleaner_Match) hisR ?_
 intro p e s m args below meth c s₁ Bd hml0 hP hK
 obtain ⟨rfl, hZ, hh⟩ := hP
 have hx := Bd.exec
 have hby := Bd.bytes
 have hml : c.maxLocals = 1 := hml0
 have hown : s.vm.findClass nm2 = some m.cls := findClass_of_methodNamed Bd.named
 have hnm := (name_of_methodNamed Bd.named Bd.method).1
 have X0 : Stand p l e ({ frames := 3, cells := 0, slots := 0, locals := 41 } : Room) s m #[(rr m_)] below meth c s₁ [] 0 0 := Stand.of_body Bd
 have e0 : s₁.heap = h0 := by rw [← hh, Bd.state]; rfl
 have N0 := Fr.nil n0
 have kp0 : Keep h0 h0 [] := Keep.refl _ _
 have c0 : ∀ t, S_ p e below s₁ m 0 #[vr m_] [] t → Steps p.tables e below (s₁.setTop (entryFrame m #[(rr m_)] 1)) t := fun t k => castTop (ef_start_3 m m_) k
 generalize s₁.setTop (entryFrame m #[(rr m_)] 1) = st0 at c0 ⊢
 replace c0 : Kt p e below s₁ st0 (mkF m 0 #[vr m_] []) := c0
 have c1 : Kt p e below s₁ st0 (mkF m 2 #[vr m_] [(ii 0), (rr m_)]) := fun t k => by
  refine c0 t ?_
  show S_ p e below s₁ m 0 #[vr m_] [] t
  refine XS.aloadN X0.here hx rfl (hb hby d33_0) rfl rfl ?_
  refine XS.iconst X0.here hx rfl (hb hby d33_1) ?_
  exact k
 obtain ⟨_, T2, L2, X2, hQ2, c2⟩ := kvirt X0 hx hZ hown (w149 hw) (w150 hw) (w152 hw) (w151 hw) (w153 hw) (w49 hw) (rm_startI_3 l Z a0 hw [] m_ s_ b_ kb_ h0 n0 O0 E0_ F1_ F2_ F3_ A4_) e0 E0_ c1 hml pd_pIrI [(ii 0)] [] 0 (hb hby d33_2) rfl rfl rfl rfl rfl rfl
 obtain ⟨rfl, N3q, K4⟩ := hQ2
 have N3 := Fr.app N0 N3q
 obtain ⟨fs, hr, hrun, hended, hW, hsame⟩ := X2.leave (v := some (ii 0)) (fun h => by rw [Bd.returns] at h; cases h)
 refine ⟨_, _, c2 _ ?_, hrun, hended, _, _, rfl, ?_, ⟨_, rfl⟩, hW, hsame.mono (by decide) (by decide)⟩
 ·show S_ p e below T2 m 5 #[vr m_] [(ii 0)] _
  exact retOut X2 hx Bd.returns rfl (Or.inl ⟨rfl, Or.inl rfl, _, rfl⟩) (hb hby d33_5) hr
 ·show Q_start_3 Z m_ s_ b_ kb_ h0 n0 _ T2.heap _
  rw [K4]
  exact ⟨rfl, N3, rfl⟩
theorem ef_endI_3 (m : MethodId) (m_ : Addr) : entryFrame m #[(rr m_), (ii 0)] 2 = mkF m 0 #[vr m_, vi 0] [] := by first | (simp [entryFrame, mkF, argsToLocals, Value.category]; done) | rfl
def Q_endI_3 (Z : State) (m_ : Addr) (s_ : Addr) (b_ : Addr) (kb_ : ClassId) (h0 : Heap) (n0 : Nat) (v : Option Value) (h : Heap) (L : List Loc) : Prop := v = some (ii 3) ∧ Fr n0 L ∧ h = h0
set_option maxRecDepth 65536 in
set_option maxHeartbeats 40000000 in
theorem rm_endI_3 (l : Launch) (Z : State) (a0 : Array Value) (hw : HW Z a0) (ws : List Jvm.Cond) (m_ : Addr) (s_ : Addr) (b_ : Addr) (kb_ : ClassId) (h0 : Heap) (n0 : Nat) (O0 : Old Z n0 h0) (E0_ : Exa Z h0 m_ nm2) (F1_ : Fld Z h0 m_ nm2 "text" nm3 (rr s_)) (F2_ : Fld Z h0 m_ nm2 "offset" "J" (.long (0 : Int64))) (F3_ : Fld Z h0 m_ nm2 "bounds" "[I" (rr b_)) (A4_ : Arv Z h0 b_ kb_ .int (2 : Int32) [(ii 0), (ii 3)] (ii 0)) :
  MFP l Z (⟨nm2, "end", "(I)I"⟩ : MethodName) prog_18_method_9_code 2 (some .int) ({ frames := 2, cells := 0, slots := 0, locals := 28 } : Room) ws #[(rr m_), (ii 0)] h0 (Q_endI_3 Z m_ s_ b_ kb_ h0 n0) := by
 refine MetFree.of_bodySF (plainFor_of_name pn_gleaner_Match) hisR ?_
 intro p e s m args below meth c s₁ Bd hml0 hP hK
 obtain ⟨rfl, hZ, hh⟩ := hP
 have hx := Bd.exec
 have hby := Bd.bytes
 have hml : c.maxLocals = 2 := hml0
 have hown : s.vm.findClass nm2 = some m.cls := findClass_of_methodNamed Bd.named
 have hnm := (name_of_methodNamed Bd.named Bd.method).1
 have X0 : Stand p l e ({ frames := 2, cells := 0, slots := 0, locals := 28 } : Room) s m #[(rr m_), (ii 0)] below meth c s₁ [] 0 0 := Stand.of_body Bd
 have e0 : s₁.heap = h0 := by rw [← hh, Bd.state]; rfl
 have N0 := Fr.nil n0
 have kp0 : Keep h0 h0 [] := Keep.refl _ _
 have c0 : ∀ t, S_ p e below s₁ m 0 #[vr m_, vi 0] [] t → Steps p.tables e below (s₁.setTop (entryFrame m #[(rr m_), (ii 0)] 2)) t := fun t k => castTop (ef_endI_3 m m_) k
 generalize s₁.setTop (entryFrame m #[(rr m_), (ii 0)] 2) = st0 at c0 ⊢
 replace c0 : Kt p e below s₁ st0 (mkF m 0 #[vr m_, vi 0] []) := c0
 have c1 : Kt p e below s₁ st0 (mkF m 2 #[vr m_, vi 0] [(rr m_), (rr m_)]) := fun t k => by
  refine c0 t ?_
  show S_ p e below s₁ m 0 #[vr m_, vi 0] [] t
  refine XS.aloadN X0.here hx rfl (hb hby d34_0) rfl rfl ?_
  refine XS.aloadN X0.here hx rfl (hb hby d34_1) rfl rfl ?_
  exact k
 obtain ⟨T2, X2, e2, c2⟩ := kget X0 hx hZ hown (host := "") (Or.inl (w72 hw)) Via.refl e0 F3_ c1 rfl rfl (hb hby d34_2)
 have c3 : Kt p e below T2 st0 (mkF m 7 #[vr m_, vi 0] [(ii 0), (rr m_), (rr b_), (rr m_)]) := fun t k => by
  refine c2 t ?_
  show S_ p e below T2 m 5 #[vr m_, vi 0] [(rr b_), (rr m_)] t
  refine XS.aloadN X2.here hx rfl (hb hby d34_5) rfl rfl ?_
  refine XS.iloadN X2.here hx rfl (hb hby d34_6) rfl ?_
  exact k
 obtain ⟨_, T4, L4, X4, hQ4, c4⟩ := kpriv X2 hx hZ hown (w115 hw) (w52 hw) (w117 hw) (w116 hw) (w118 hw) (w49 hw) (rm_chk l Z a0 hw [] m_ b_ kb_ [(ii 0), (ii 3)] h0 n0 O0 E0_ F3_ A4_) e2 E0_ c3 hml pd_pIrI [(ii 0)] [(rr b_), (rr m_)] 2 (hb hby d34_7) rfl rfl rfl rfl rfl rfl
 obtain ⟨rfl, N5q, K6⟩ := hQ4
 have N5 := Fr.app N0 N5q
 have c7 : Kt p e below T4 st0 (mkF m 13 #[vr m_, vi 0] [(ii 3), (rr m_)]) := fun t k => by
  refine c4 t ?_
  show S_ p e below T4 m 10 #[vr m_, vi 0] [(ii 0), (rr b_), (rr m_)] t
  refine XS.iconst X4.here hx rfl (hb hby d34_10) ?_
  refine XS.iadd X4.here hx rfl (hb hby d34_11) rfl ?_
  refine ldI X4 hx hZ K6 A4_ (v := (ii 3)) (by decide) (by decide) rfl rfl rfl (hb hby d34_12) ?_
  exact k
 obtain ⟨_, T8, L8, X8, hQ8, c8⟩ := kpriv X4 hx hZ hown (w154 hw) (w52 hw) (w156 hw) (w155 hw) (w157 hw) (w49 hw) (rm_plc_3 l Z a0 hw [] m_ h0 n0 O0 E0_ F2_) K6 E0_ c7 hml pd_pIrI [(ii 3)] [] 0 (hb hby d34_13) rfl rfl rfl rfl rfl rfl
 obtain ⟨rfl, N9q, K10⟩ := hQ8
 have N9 := Fr.app N5 N9q
 obtain ⟨fs, hr, hrun, hended, hW, hsame⟩ := X8.leave (v := some (ii 3)) (fun h => by rw [Bd.returns] at h; cases h)
 refine ⟨_, _, c8 _ ?_, hrun, hended, _, _, rfl, ?_, ⟨_, rfl⟩, hW, hsame.mono (by decide) (by decide)⟩
 ·show S_ p e below T8 m 16 #[vr m_, vi 0] [(ii 3)] _
  exact retOut X8 hx Bd.returns rfl (Or.inl ⟨rfl, Or.inl rfl, _, rfl⟩) (hb hby d34_16) hr
 ·show Q_endI_3 Z m_ s_ b_ kb_ h0 n0 _ T8.heap _
  rw [K10]
  exact ⟨rfl, N9, rfl⟩
theorem ef_end_3 (m : MethodId) (m_ : Addr) : entryFrame m #[(rr m_)] 1 = mkF m 0 #[vr m_] [] := by first | (simp [entryFrame, mkF, argsToLocals, Value.category]; done) | rfl
def Q_end_3 (Z : State) (m_ : Addr) (s_ : Addr) (b_ : Addr) (kb_ : ClassId) (h0 : Heap) (n0 : Nat) (v : Option Value) (h : Heap) (L : List Loc) : Prop := v = some (ii 3) ∧ Fr n0 L ∧ h = h0
set_option maxRecDepth 65536 in
set_option maxHeartbeats 40000000 in
theorem rm_end_3 (l : Launch) (Z : State) (a0 : Array Value) (hw : HW Z a0) (ws : List Jvm.Cond) (m_ : Addr) (s_ : Addr) (b_ : Addr) (kb_ : ClassId) (h0 : Heap) (n0 : Nat) (O0 : Old Z n0 h0) (E0_ : Exa Z h0 m_ nm2) (F1_ : Fld Z h0 m_ nm2 "text" nm3 (rr s_)) (F2_ : Fld Z h0 m_ nm2 "offset" "J" (.long (0 : Int64))) (F3_ : Fld Z h0 m_ nm2 "bounds" "[I" (rr b_)) (A4_ : Arv Z h0 b_ kb_ .int (2 : Int32) [(ii 0), (ii 3)] (ii 0)) :
  MFP l Z (⟨nm2, "end", "()I"⟩ : MethodName) prog_18_method_8_code 1 (some .int) ({ frames := 3, cells := 0, slots := 0, locals := 41 } : Room) ws #[(rr m_)] h0 (Q_end_3 Z m_ s_ b_ kb_ h0 n0) := by
 refine MetFree.of_bodySF (plainFor_of_name pn_gleaner_Match) hisR ?_
 intro p e s m args below meth c s₁ Bd hml0 hP hK
 obtain ⟨rfl, hZ, hh⟩ := hP
 have hx := Bd.exec
 have hby := Bd.bytes
 have hml : c.maxLocals = 1 := hml0
 have hown : s.vm.findClass nm2 = some m.cls := findClass_of_methodNamed Bd.named
 have hnm := (name_of_methodNamed Bd.named Bd.method).1
 have X0 : Stand p l e ({ frames := 3, cells := 0, slots := 0, locals := 41 } : Room) s m #[(rr m_)] below meth c s₁ [] 0 0 := Stand.of_body Bd
 have e0 : s₁.heap = h0 := by rw [← hh, Bd.state]; rfl
 have N0 := Fr.nil n0
 have kp0 : Keep h0 h0 [] := Keep.refl _ _
 have c0 : ∀ t, S_ p e below s₁ m 0 #[vr m_] [] t → Steps p.tables e below (s₁.setTop (entryFrame m #[(rr m_)] 1)) t := fun t k => castTop (ef_end_3 m m_) k
 generalize s₁.setTop (entryFrame m #[(rr m_)] 1) = st0 at c0 ⊢
 replace c0 : Kt p e below s₁ st0 (mkF m 0 #[vr m_] []) := c0
 have c1 : Kt p e below s₁ st0 (mkF m 2 #[vr m_] [(ii 0), (rr m_)]) := fun t k => by
  refine c0 t ?_
  show S_ p e below s₁ m 0 #[vr m_] [] t
  refine XS.aloadN X0.here hx rfl (hb hby d35_0) rfl rfl ?_
  refine XS.iconst X0.here hx rfl (hb hby d35_1) ?_
  exact k
 obtain ⟨_, T2, L2, X2, hQ2, c2⟩ := kvirt X0 hx hZ hown (w167 hw) (w168 hw) (w170 hw) (w169 hw) (w171 hw) (w49 hw) (rm_endI_3 l Z a0 hw [] m_ s_ b_ kb_ h0 n0 O0 E0_ F1_ F2_ F3_ A4_) e0 E0_ c1 hml pd_pIrI [(ii 0)] [] 0 (hb hby d35_2) rfl rfl rfl rfl rfl rfl
 obtain ⟨rfl, N3q, K4⟩ := hQ2
 have N3 := Fr.app N0 N3q
 obtain ⟨fs, hr, hrun, hended, hW, hsame⟩ := X2.leave (v := some (ii 3)) (fun h => by rw [Bd.returns] at h; cases h)
 refine ⟨_, _, c2 _ ?_, hrun, hended, _, _, rfl, ?_, ⟨_, rfl⟩, hW, hsame.mono (by decide) (by decide)⟩
 ·show S_ p e below T2 m 5 #[vr m_] [(ii 3)] _
  exact retOut X2 hx Bd.returns rfl (Or.inl ⟨rfl, Or.inl rfl, _, rfl⟩) (hb hby d35_5) hr
 ·show Q_end_3 Z m_ s_ b_ kb_ h0 n0 _ T2.heap _
  rw [K4]
  exact ⟨rfl, N3, rfl⟩
theorem pn_gleaner_LastMatchTokenPinLaw : plainName nm5 = true := by first | (simp [plainName, overriddenIn]; done) | decide +kernel
theorem pd_pACrV : parseMethodDescriptor "([C)V" = some ⟨[(.array .char)], none⟩ := by decide +kernel
theorem pd_prV : parseMethodDescriptor "()V" = some ⟨[], none⟩ := by decide +kernel
theorem pd_pCrLjava_lang_String_ : parseMethodDescriptor "(C)Ljava/lang/String;" = some ⟨[.char], some (.object nm0)⟩ := by decide +kernel
theorem pd_pLjava_lang_String_JICrV : parseMethodDescriptor "(Ljava/lang/String;JIC)V" = some ⟨[(.object nm0), .long, .int, .char], none⟩ := by decide +kernel
theorem pd_pACIIJrV : parseMethodDescriptor "([CIIJ)V" = some ⟨[(.array .char), .int, .int, .long], none⟩ := by decide +kernel
theorem pd_pLjava_lang_String_JIrV : parseMethodDescriptor "(Ljava/lang/String;JI)V" = some ⟨[(.object nm0), .long, .int], none⟩ := by decide +kernel
theorem pd_pLjava_lang_String_JrV : parseMethodDescriptor "(Ljava/lang/String;J)V" = some ⟨[(.object nm0), .long], none⟩ := by decide +kernel
theorem pd_prLgleaner_Match_ : parseMethodDescriptor "()Lgleaner/Match;" = some ⟨[], some (.object nm2)⟩ := by decide +kernel
theorem pd_pLgleaner_Match_rLgleaner_Match_ : parseMethodDescriptor "(Lgleaner/Match;)Lgleaner/Match;" = some ⟨[(.object nm2)], some (.object nm2)⟩ := by decide +kernel
theorem pd_prLjava_lang_String_ : parseMethodDescriptor "()Ljava/lang/String;" = some ⟨[], some (.object nm0)⟩ := by decide +kernel
theorem pd_pLjava_lang_Object_rZ : parseMethodDescriptor "(Ljava/lang/Object;)Z" = some ⟨[(.object "java/lang/Object")], some .boolean⟩ := by decide +kernel
theorem ef_law (m : MethodId) (k_ : Int32) (j_ : Int64) (m_ : Int32) (p_ : Int32) (q_ : Int64) : entryFrame m #[(.int k_), (.long j_), (.int m_), (.int p_), (.long q_)] maxLocals = mkF m 0 #[vi k_, vj j_, .second, vi m_, vi p_, vj q_, .second, u_, u_, u_, u_, u_, u_, u_, u_, u_, u_, u_, u_, u_] [] := by first | (simp [entryFrame, mkF, argsToLocals, Value.category, maxLocals]; done) | rfl
def Q_law (Z : State) (k_ : Int32) (j_ : Int64) (m_ : Int32) (p_ : Int32) (q_ : Int64) (si1_ : Int32) (sv6_ : Value) (h0 : Heap) (n0 : Nat) (v : Option Value) (h : Heap) (L : List Loc) : Prop := v = some (ii 1) ∧ Fr n0 L ∧ Keep h0 h []
set_option maxRecDepth 65536 in
set_option maxHeartbeats 40000000 in
theorem rm_law (l : Launch) (Z : State) (a0 : Array Value) (hw : HW Z a0) (ws : List Jvm.Cond) (k_ : Int32) (j_ : Int64) (m_ : Int32) (p_ : Int32) (q_ : Int64) (si1_ : Int32) (sv6_ : Value) (h0 : Heap) (n0 : Nat) (O0 : Old Z n0 h0) (ZS0_ : Sta Z Z.heap nm0 "COMPACT_STRINGS" "Z" (.int si1_)) (sn4_ : ¬ (si1_ = (0 : Int32))) (sv6_r : sv6_.isRef = true) (ZS3_ : Sta Z Z.heap nm4 "SIOOBE_FORMATTER" nm11 sv6_) :
  MFL l Z consts_1 x code maxLocals ret room_1 ws #[(.int k_), (.long j_), (.int m_), (.int p_), (.long q_)] h0 (Q_law Z k_ j_ m_ p_ q_ si1_ sv6_ h0 n0) := by
 refine MetFree.of_bodySF (plainFor_of_name pn_gleaner_LastMatchTokenPinLaw) hisR ?_
 intro p e s m args below meth c s₁ Bd hml0 hP hK
 obtain ⟨rfl, hZ, hh, hCH⟩ := hP
 have hx := Bd.exec
 have hby := Bd.bytes
 have hml : c.maxLocals = 20 := hml0
 have hown : s.vm.findClass nm5 = some m.cls := findClass_of_methodNamed Bd.named
 have hnm := (name_of_methodNamed Bd.named Bd.method).1
 have X0 : Stand p l e room_1 (s.setVm s.vm) m #[(.int k_), (.long j_), (.int m_), (.int p_), (.long q_)] below meth c s₁ [] 0 0 := Stand.of_body Bd
 have e0 : s₁.heap = h0 := by rw [← hh, Bd.state]; rfl
 have N0 := Fr.nil n0
 have kp0 : Keep h0 h0 [] := Keep.refl _ _
 have ch0 : CHr Z consts_1 s.vm h0 s.vm h0 := CHr.refl hCH
 have hS0 : s.Since s.vm 0 := (State.WarmedH.refl s).since 0
 have c0 : ∀ t, S_ p e below s₁ m 0 #[vi k_, vj j_, .second, vi m_, vi p_, vj q_, .second, u_, u_, u_, u_, u_, u_, u_, u_, u_, u_, u_, u_, u_] [] t → Steps p.tables e below (s₁.setTop (entryFrame m #[(.int k_), (.long j_), (.int m_), (.int p_), (.long q_)] maxLocals)) t := fun t k => castTop (ef_law m k_ j_ m_ p_ q_) k
 generalize s₁.setTop (entryFrame m #[(.int k_), (.long j_), (.int m_), (.int p_), (.long q_)] maxLocals) = st0 at c0 ⊢
 replace c0 : Kt p e below s₁ st0 (mkF m 0 #[vi k_, vj j_, .second, vi m_, vi p_, vj q_, .second, u_, u_, u_, u_, u_, u_, u_, u_, u_, u_, u_, u_, u_] []) := c0
 have c1 : Kt p e below s₁ st0 (mkF m 38 #[vi k_, vj j_, .second, vi m_, vi p_, vj q_, .second, .val (.int (((k_.toUInt32 >>> ((24 : Int32) &&& 31).toUInt32).toInt32) &&& (3 : Int32))), .val (.int ((k_ &&& (255 : Int32)).toUInt32.toUInt16.toUInt32.toInt32)), .val (.int ((((k_.toUInt32 >>> ((8 : Int32) &&& 31).toUInt32).toInt32) &&& (255 : Int32)).toUInt32.toUInt16.toUInt32.toInt32)), .val (.int ((((k_.toUInt32 >>> ((16 : Int32) &&& 31).toUInt32).toInt32) &&& (255 : Int32)).toUInt32.toUInt16.toUInt32.toInt32)), u_, u_, u_, u_, u_, u_, u_, u_, u_] []) := fun t k => by
  refine c0 t ?_
  show S_ p e below s₁ m 0 #[vi k_, vj j_, .second, vi m_, vi p_, vj q_, .second, u_, u_, u_, u_, u_, u_, u_, u_, u_, u_, u_, u_, u_] [] t
  refine XS.iloadN X0.here hx rfl (hb hby at_0) rfl ?_
  refine XS.bipush X0.here hx rfl (hb hby at_1) ?_
  refine XS.iushr X0.here hx rfl (hb hby at_3) rfl ?_
  refine XS.iconst X0.here hx rfl (hb hby at_4) ?_
  show S_ p e below s₁ m 5 #[vi k_, vj j_, .second, vi m_, vi p_, vj q_, .second, u_, u_, u_, u_, u_, u_, u_, u_, u_, u_, u_, u_, u_] [(ii 3), (.int ((k_.toUInt32 >>> ((24 : Int32) &&& 31).toUInt32).toInt32))] t
  refine XS.iand X0.here hx rfl (hb hby at_5) rfl ?_
  refine XS.istore X0.here hx rfl (hb hby at_6) rfl (l' := #[vi k_, vj j_, .second, vi m_, vi p_, vj q_, .second, .val (.int (((k_.toUInt32 >>> ((24 : Int32) &&& 31).toUInt32).toInt32) &&& (3 : Int32))), u_, u_, u_, u_, u_, u_, u_, u_, u_, u_, u_, u_]) rfl ?_
  refine XS.iloadN X0.here hx rfl (hb hby at_8) rfl ?_
  refine XS.sipush X0.here hx rfl (hb hby at_9) ?_
  show S_ p e below s₁ m 12 #[vi k_, vj j_, .second, vi m_, vi p_, vj q_, .second, .val (.int (((k_.toUInt32 >>> ((24 : Int32) &&& 31).toUInt32).toInt32) &&& (3 : Int32))), u_, u_, u_, u_, u_, u_, u_, u_, u_, u_, u_, u_] [(ii 255), (.int k_)] t
  refine XS.iand X0.here hx rfl (hb hby at_12) rfl ?_
  refine XS.i2c X0.here hx rfl (hb hby at_13) rfl ?_
  refine XS.istore X0.here hx rfl (hb hby at_14) rfl (l' := #[vi k_, vj j_, .second, vi m_, vi p_, vj q_, .second, .val (.int (((k_.toUInt32 >>> ((24 : Int32) &&& 31).toUInt32).toInt32) &&& (3 : Int32))), .val (.int ((k_ &&& (255 : Int32)).toUInt32.toUInt16.toUInt32.toInt32)), u_, u_, u_, u_, u_, u_, u_, u_, u_, u_, u_]) rfl ?_
  refine XS.iloadN X0.here hx rfl (hb hby at_16) rfl ?_
  show S_ p e below s₁ m 17 #[vi k_, vj j_, .second, vi m_, vi p_, vj q_, .second, .val (.int (((k_.toUInt32 >>> ((24 : Int32) &&& 31).toUInt32).toInt32) &&& (3 : Int32))), .val (.int ((k_ &&& (255 : Int32)).toUInt32.toUInt16.toUInt32.toInt32)), u_, u_, u_, u_, u_, u_, u_, u_, u_, u_, u_] [(.int k_)] t
  refine XS.bipush X0.here hx rfl (hb hby at_17) ?_
  refine XS.iushr X0.here hx rfl (hb hby at_19) rfl ?_
  refine XS.sipush X0.here hx rfl (hb hby at_20) ?_
  refine XS.iand X0.here hx rfl (hb hby at_23) rfl ?_
  show S_ p e below s₁ m 24 #[vi k_, vj j_, .second, vi m_, vi p_, vj q_, .second, .val (.int (((k_.toUInt32 >>> ((24 : Int32) &&& 31).toUInt32).toInt32) &&& (3 : Int32))), .val (.int ((k_ &&& (255 : Int32)).toUInt32.toUInt16.toUInt32.toInt32)), u_, u_, u_, u_, u_, u_, u_, u_, u_, u_, u_] [(.int (((k_.toUInt32 >>> ((8 : Int32) &&& 31).toUInt32).toInt32) &&& (255 : Int32)))] t
  refine XS.i2c X0.here hx rfl (hb hby at_24) rfl ?_
  refine XS.istore X0.here hx rfl (hb hby at_25) rfl (l' := #[vi k_, vj j_, .second, vi m_, vi p_, vj q_, .second, .val (.int (((k_.toUInt32 >>> ((24 : Int32) &&& 31).toUInt32).toInt32) &&& (3 : Int32))), .val (.int ((k_ &&& (255 : Int32)).toUInt32.toUInt16.toUInt32.toInt32)), .val (.int ((((k_.toUInt32 >>> ((8 : Int32) &&& 31).toUInt32).toInt32) &&& (255 : Int32)).toUInt32.toUInt16.toUInt32.toInt32)), u_, u_, u_, u_, u_, u_, u_, u_, u_, u_]) rfl ?_
  refine XS.iloadN X0.here hx rfl (hb hby at_27) rfl ?_
  refine XS.bipush X0.here hx rfl (hb hby at_28) ?_
  show S_ p e below s₁ m 30 #[vi k_, vj j_, .second, vi m_, vi p_, vj q_, .second, .val (.int (((k_.toUInt32 >>> ((24 : Int32) &&& 31).toUInt32).toInt32) &&& (3 : Int32))), .val (.int ((k_ &&& (255 : Int32)).toUInt32.toUInt16.toUInt32.toInt32)), .val (.int ((((k_.toUInt32 >>> ((8 : Int32) &&& 31).toUInt32).toInt32) &&& (255 : Int32)).toUInt32.toUInt16.toUInt32.toInt32)), u_, u_, u_, u_, u_, u_, u_, u_, u_, u_] [(ii 16), (.int k_)] t
  refine XS.iushr X0.here hx rfl (hb hby at_30) rfl ?_
  refine XS.sipush X0.here hx rfl (hb hby at_31) ?_
  refine XS.iand X0.here hx rfl (hb hby at_34) rfl ?_
  refine XS.i2c X0.here hx rfl (hb hby at_35) rfl ?_
  show S_ p e below s₁ m 36 #[vi k_, vj j_, .second, vi m_, vi p_, vj q_, .second, .val (.int (((k_.toUInt32 >>> ((24 : Int32) &&& 31).toUInt32).toInt32) &&& (3 : Int32))), .val (.int ((k_ &&& (255 : Int32)).toUInt32.toUInt16.toUInt32.toInt32)), .val (.int ((((k_.toUInt32 >>> ((8 : Int32) &&& 31).toUInt32).toInt32) &&& (255 : Int32)).toUInt32.toUInt16.toUInt32.toInt32)), u_, u_, u_, u_, u_, u_, u_, u_, u_, u_] [(.int ((((k_.toUInt32 >>> ((16 : Int32) &&& 31).toUInt32).toInt32) &&& (255 : Int32)).toUInt32.toUInt16.toUInt32.toInt32))] t
  refine XS.istore X0.here hx rfl (hb hby at_36) rfl (l' := #[vi k_, vj j_, .second, vi m_, vi p_, vj q_, .second, .val (.int (((k_.toUInt32 >>> ((24 : Int32) &&& 31).toUInt32).toInt32) &&& (3 : Int32))), .val (.int ((k_ &&& (255 : Int32)).toUInt32.toUInt16.toUInt32.toInt32)), .val (.int ((((k_.toUInt32 >>> ((8 : Int32) &&& 31).toUInt32).toInt32) &&& (255 : Int32)).toUInt32.toUInt16.toUInt32.toInt32)), .val (.int ((((k_.toUInt32 >>> ((16 : Int32) &&& 31).toUInt32).toInt32) &&& (255 : Int32)).toUInt32.toUInt16.toUInt32.toInt32)), u_, u_, u_, u_, u_, u_, u_, u_, u_]) rfl ?_
  exact k
 obtain ⟨cx0, cx0q⟩ : ∃ z, z = ((k_ &&& (255 : Int32)).toUInt32.toUInt16.toUInt32.toInt32) := ⟨_, rfl⟩
 rw [← cx0q] at c1
 have hg2 : nar .char cx0 = cx0 := by rw [cx0q]; exact own_cc _
 have hg3 : ¬ ((255 : Int32) < cx0) := by rw [cx0q]; exact own_small2 _
 obtain ⟨cx1, cx1q⟩ : ∃ z, z = ((((k_.toUInt32 >>> ((8 : Int32) &&& 31).toUInt32).toInt32) &&& (255 : Int32)).toUInt32.toUInt16.toUInt32.toInt32) := ⟨_, rfl⟩
 rw [← cx1q] at c1
 have hg4 : nar .char cx1 = cx1 := by rw [cx1q]; exact own_cc _
 have hg5 : ¬ ((255 : Int32) < cx1) := by rw [cx1q]; exact own_small2 _
 obtain ⟨cx2, cx2q⟩ : ∃ z, z = ((((k_.toUInt32 >>> ((16 : Int32) &&& 31).toUInt32).toInt32) &&& (255 : Int32)).toUInt32.toUInt16.toUInt32.toInt32) := ⟨_, rfl⟩
 rw [← cx2q] at c1
 have hg6 : nar .char cx2 = cx2 := by rw [cx2q]; exact own_cc _
 have hg7 : ¬ ((255 : Int32) < cx2) := by rw [cx2q]; exact own_small2 _
 rcases own_and3 _ with hv8 | hv8 | hv8 | hv8
 ·rw [hv8] at c1
  have c9 : Kt p e below s₁ st0 (mkF m 44 #[vi k_, vj j_, .second, vi m_, vi p_, vj q_, .second, vi 0, vi cx0, vi cx1, vi cx2, u_, u_, u_, u_, u_, u_, u_, u_, u_] [(ii 0)]) := fun t k => by
   refine c1 t ?_
   show S_ p e below s₁ m 38 #[vi k_, vj j_, .second, vi m_, vi p_, vj q_, .second, vi 0, vi cx0, vi cx1, vi cx2, u_, u_, u_, u_, u_, u_, u_, u_, u_] [] t
   refine XS.iload X0.here hx rfl (hb hby at_38) rfl ?_
   refine XS.ifNo X0.here hx rfl (hb hby at_40) rfl rfl ?_
   refine XS.iconst X0.here hx rfl (hb hby at_43) ?_
   exact k
  obtain ⟨b10, T10, h10, k10, z10, g10, X10, e10, E10, o11, A10, c10⟩ := knewP (aty := .char) X0 hx hZ (w0 hw) e0 c9 rfl (hb hby at_44) rfl (by decide) 0 (by decide) (by decide) (by decide) (by decide) O0
  have kp13 := kp0.ext E10
  have z14 := Nat.le_trans kp0.1 z10
  have f12 : Arv Z h10 b10 k10 .char (0 : Int32) [] (ii 0) := A10
  have c15 : Kt p e below T10 st0 (mkF m 114 #[vi k_, vj j_, .second, vi m_, vi p_, vj q_, .second, vi 0, vi cx0, vi cx1, vi cx2, vr b10, u_, u_, u_, u_, u_, u_, u_, u_] []) := fun t k => by
   refine c10 t ?_
   show S_ p e below T10 m 46 #[vi k_, vj j_, .second, vi m_, vi p_, vj q_, .second, vi 0, vi cx0, vi cx1, vi cx2, u_, u_, u_, u_, u_, u_, u_, u_, u_] [(rr b10)] t
   refine XS.astore X10.here hx rfl (hb hby at_46) rfl rfl (l' := #[vi k_, vj j_, .second, vi m_, vi p_, vj q_, .second, vi 0, vi cx0, vi cx1, vi cx2, vr b10, u_, u_, u_, u_, u_, u_, u_, u_]) rfl ?_
   refine yG X10.here hx rfl 48 114 rfl (hb hby at_48) ?_
   exact k
  obtain ⟨b16, T16, h16, z16, g16, X16, e16, E16, o17, A16, D16, U16, c16⟩ := knew X10 hx hZ hown (w1 hw) (w2 hw) (w3 hw) e10 c15 rfl (hb hby at_114) (by decide) (by decide) o11
  have kp18 := kp13.ext E16
  have z19 := Nat.le_trans kp13.1 z16
  have c20 : Kt p e below T16 st0 (mkF m 120 #[vi k_, vj j_, .second, vi m_, vi p_, vj q_, .second, vi 0, vi cx0, vi cx1, vi cx2, vr b10, u_, u_, u_, u_, u_, u_, u_, u_] [(rr b10), (rr b16), (rr b16)]) := fun t k => by
   refine c16 t ?_
   show S_ p e below T16 m 117 #[vi k_, vj j_, .second, vi m_, vi p_, vj q_, .second, vi 0, vi cx0, vi cx1, vi cx2, vr b10, u_, u_, u_, u_, u_, u_, u_, u_] [(rr b16)] t
   refine XS.dup X16.here hx rfl (hb hby at_117) rfl rfl ?_
   refine XS.aload X16.here hx rfl (hb hby at_118) rfl rfl ?_
   exact k
  have ch22 : CHr Z consts_1 s.vm h0 s.vm h10 := ch0.trans (CHr.ext E10 ch0.1)
  have ch23 : CHr Z consts_1 s.vm h0 s.vm h16 := ch22.trans (CHr.ext E16 ch22.1)
  have sf24 : Safe Z consts_1 s.vm h16 b16 := own_sE (Safe.new z16) ch22.1 E16
  obtain ⟨_, T21, L21, X21, hQ21, hS21, hZ21, hown21, cr21, c21⟩ := kspecH X16 hx hZ hown hS0 (Nat.le_trans (Nat.zero_le _) (Nat.le_trans E10.1 E16.1)) (w4 hw) (w5 hw) (w6 hw) (rm := ({ frames := 2, cells := 2, slots := 4, locals := 29 } : Room)) (backOfSX (W := 1) (rm_str1_0 l Z a0 hw [] b16 b10 k10 h16 n0 o17 A16 (show Fld Z h16 b16 nm0 "value" "[B" .null from D16 (Or.inr (w16 hw)) (ty := (.array .byte)) (by decide)) (show Fld Z h16 b16 nm0 "coder" "B" (ii 0) from D16 (Or.inr (w17 hw)) (ty := .byte) (by decide)) g16 (f12.ext E16)) hZ (w6 hw) (w3 hw) (by decide) (by decide) (own_EW hw) ch23.1 A16.lt sf24) e16 c20 hml pd_pACrV b16 [(rr b10)] [(rr b16)] (hb hby at_120) rfl rfl rfl rfl rfl rfl
  obtain ⟨rfl, N25q, K26, p27, p28, b29, k30, p31, p32⟩ := hQ21
  have N25 := Fr.app N0 N25q
  have o33 := o17.keep K26 (allS g16 all0)
  have kp34 := kp18.trans K26 (allS (Or.inr z19) all0)
  have ch35 : CHr Z consts_1 s.vm h0 T21.vm T21.heap := ch23.trans cr21
  have c36 : Kt p e below T21 st0 (mkF m 134 #[vi k_, vj j_, .second, vi m_, vi p_, vj q_, .second, vi 0, vi cx0, vi cx1, vi cx2, vr b10, vr b16, .val (.int ((p_ &&& (255 : Int32)).toUInt32.toUInt16.toUInt32.toInt32)), u_, u_, u_, u_, u_, u_] []) := fun t k => by
   refine c21 t ?_
   show S_ p e below T21 m 123 #[vi k_, vj j_, .second, vi m_, vi p_, vj q_, .second, vi 0, vi cx0, vi cx1, vi cx2, vr b10, u_, u_, u_, u_, u_, u_, u_, u_] [(rr b16)] t
   refine XS.astore X21.here hx rfl (hb hby at_123) rfl rfl (l' := #[vi k_, vj j_, .second, vi m_, vi p_, vj q_, .second, vi 0, vi cx0, vi cx1, vi cx2, vr b10, vr b16, u_, u_, u_, u_, u_, u_, u_]) rfl ?_
   refine XS.iload X21.here hx rfl (hb hby at_125) rfl ?_
   refine XS.sipush X21.here hx rfl (hb hby at_127) ?_
   refine XS.iand X21.here hx rfl (hb hby at_130) rfl ?_
   show S_ p e below T21 m 131 #[vi k_, vj j_, .second, vi m_, vi p_, vj q_, .second, vi 0, vi cx0, vi cx1, vi cx2, vr b10, vr b16, u_, u_, u_, u_, u_, u_, u_] [(.int (p_ &&& (255 : Int32)))] t
   refine XS.i2c X21.here hx rfl (hb hby at_131) rfl ?_
   refine XS.istore X21.here hx rfl (hb hby at_132) rfl (l' := #[vi k_, vj j_, .second, vi m_, vi p_, vj q_, .second, vi 0, vi cx0, vi cx1, vi cx2, vr b10, vr b16, .val (.int ((p_ &&& (255 : Int32)).toUInt32.toUInt16.toUInt32.toInt32)), u_, u_, u_, u_, u_, u_]) rfl ?_
   exact k
  obtain ⟨pcv, pcvq⟩ : ∃ z, z = ((p_ &&& (255 : Int32)).toUInt32.toUInt16.toUInt32.toInt32) := ⟨_, rfl⟩
  rw [← pcvq] at c36
  have hg37 : nar .char pcv = pcv := by rw [pcvq]; exact own_cc _
  have hg38 : ¬ ((255 : Int32) < pcv) := by rw [pcvq]; exact own_small2 _
  have c39 : Kt p e below T21 st0 (mkF m 168 #[vi k_, vj j_, .second, vi m_, vi p_, vj q_, .second, vi 0, vi cx0, vi cx1, vi cx2, vr b10, vr b16, vi pcv, .val (.int ((((p_.toUInt32 >>> ((8 : Int32) &&& 31).toUInt32).toInt32) &&& (255 : Int32)) % (3 : Int32))), .val (.int ((((p_.toUInt32 >>> ((16 : Int32) &&& 31).toUInt32).toInt32) &&& (255 : Int32)).toUInt32.toUInt16.toUInt32.toInt32)), .val (.int ((m_ &&& (2147483647 : Int32)) % (6 : Int32))), u_, u_, u_] []) := fun t k => by
   refine c36 t ?_
   show S_ p e below T21 m 134 #[vi k_, vj j_, .second, vi m_, vi p_, vj q_, .second, vi 0, vi cx0, vi cx1, vi cx2, vr b10, vr b16, vi pcv, u_, u_, u_, u_, u_, u_] [] t
   refine XS.iload X21.here hx rfl (hb hby at_134) rfl ?_
   refine XS.bipush X21.here hx rfl (hb hby at_136) ?_
   refine XS.iushr X21.here hx rfl (hb hby at_138) rfl ?_
   refine XS.sipush X21.here hx rfl (hb hby at_139) ?_
   show S_ p e below T21 m 142 #[vi k_, vj j_, .second, vi m_, vi p_, vj q_, .second, vi 0, vi cx0, vi cx1, vi cx2, vr b10, vr b16, vi pcv, u_, u_, u_, u_, u_, u_] [(ii 255), (.int ((p_.toUInt32 >>> ((8 : Int32) &&& 31).toUInt32).toInt32))] t
   refine XS.iand X21.here hx rfl (hb hby at_142) rfl ?_
   refine XS.iconst X21.here hx rfl (hb hby at_143) ?_
   show S_ p e below T21 m 144 #[vi k_, vj j_, .second, vi m_, vi p_, vj q_, .second, vi 0, vi cx0, vi cx1, vi cx2, vr b10, vr b16, vi pcv, u_, u_, u_, u_, u_, u_] [(ii 3), (.int (((p_.toUInt32 >>> ((8 : Int32) &&& 31).toUInt32).toInt32) &&& (255 : Int32)))] t
   refine iremM X21 hx rfl (hb hby at_144) rfl (by decide) ?_
   refine XS.istore X21.here hx rfl (hb hby at_145) rfl (l' := #[vi k_, vj j_, .second, vi m_, vi p_, vj q_, .second, vi 0, vi cx0, vi cx1, vi cx2, vr b10, vr b16, vi pcv, .val (.int ((((p_.toUInt32 >>> ((8 : Int32) &&& 31).toUInt32).toInt32) &&& (255 : Int32)) % (3 : Int32))), u_, u_, u_, u_, u_]) rfl ?_
   refine XS.iload X21.here hx rfl (hb hby at_147) rfl ?_
   refine XS.bipush X21.here hx rfl (hb hby at_149) ?_
   show S_ p e below T21 m 151 #[vi k_, vj j_, .second, vi m_, vi p_, vj q_, .second, vi 0, vi cx0, vi cx1, vi cx2, vr b10, vr b16, vi pcv, .val (.int ((((p_.toUInt32 >>> ((8 : Int32) &&& 31).toUInt32).toInt32) &&& (255 : Int32)) % (3 : Int32))), u_, u_, u_, u_, u_] [(ii 16), (.int p_)] t
   refine XS.iushr X21.here hx rfl (hb hby at_151) rfl ?_
   refine XS.sipush X21.here hx rfl (hb hby at_152) ?_
   refine XS.iand X21.here hx rfl (hb hby at_155) rfl ?_
   refine XS.i2c X21.here hx rfl (hb hby at_156) rfl ?_
   show S_ p e below T21 m 157 #[vi k_, vj j_, .second, vi m_, vi p_, vj q_, .second, vi 0, vi cx0, vi cx1, vi cx2, vr b10, vr b16, vi pcv, .val (.int ((((p_.toUInt32 >>> ((8 : Int32) &&& 31).toUInt32).toInt32) &&& (255 : Int32)) % (3 : Int32))), u_, u_, u_, u_, u_] [(.int ((((p_.toUInt32 >>> ((16 : Int32) &&& 31).toUInt32).toInt32) &&& (255 : Int32)).toUInt32.toUInt16.toUInt32.toInt32))] t
   refine XS.istore X21.here hx rfl (hb hby at_157) rfl (l' := #[vi k_, vj j_, .second, vi m_, vi p_, vj q_, .second, vi 0, vi cx0, vi cx1, vi cx2, vr b10, vr b16, vi pcv, .val (.int ((((p_.toUInt32 >>> ((8 : Int32) &&& 31).toUInt32).toInt32) &&& (255 : Int32)) % (3 : Int32))), .val (.int ((((p_.toUInt32 >>> ((16 : Int32) &&& 31).toUInt32).toInt32) &&& (255 : Int32)).toUInt32.toUInt16.toUInt32.toInt32)), u_, u_, u_, u_]) rfl ?_
   refine XS.iloadN X21.here hx rfl (hb hby at_159) rfl ?_
   show S_ p e below T21 m 160 #[vi k_, vj j_, .second, vi m_, vi p_, vj q_, .second, vi 0, vi cx0, vi cx1, vi cx2, vr b10, vr b16, vi pcv, .val (.int ((((p_.toUInt32 >>> ((8 : Int32) &&& 31).toUInt32).toInt32) &&& (255 : Int32)) % (3 : Int32))), .val (.int ((((p_.toUInt32 >>> ((16 : Int32) &&& 31).toUInt32).toInt32) &&& (255 : Int32)).toUInt32.toUInt16.toUInt32.toInt32)), u_, u_, u_, u_] [(.int m_)] t
   refine X21.ldcInt hx hown21 (mvT hZ21 (w22 hw)) (g := (mkF m 160 #[vi k_, vj j_, .second, vi m_, vi p_, vj q_, .second, vi 0, vi cx0, vi cx1, vi cx2, vr b10, vr b16, vi pcv, .val (.int ((((p_.toUInt32 >>> ((8 : Int32) &&& 31).toUInt32).toInt32) &&& (255 : Int32)) % (3 : Int32))), .val (.int ((((p_.toUInt32 >>> ((16 : Int32) &&& 31).toUInt32).toInt32) &&& (255 : Int32)).toUInt32.toUInt16.toUInt32.toInt32)), u_, u_, u_, u_] [(.int m_)])) rfl (hb hby at_160) _ ?_
   refine XS.iand X21.here hx rfl (hb hby at_162) rfl ?_
   refine XS.bipush X21.here hx rfl (hb hby at_163) ?_
   show S_ p e below T21 m 165 #[vi k_, vj j_, .second, vi m_, vi p_, vj q_, .second, vi 0, vi cx0, vi cx1, vi cx2, vr b10, vr b16, vi pcv, .val (.int ((((p_.toUInt32 >>> ((8 : Int32) &&& 31).toUInt32).toInt32) &&& (255 : Int32)) % (3 : Int32))), .val (.int ((((p_.toUInt32 >>> ((16 : Int32) &&& 31).toUInt32).toInt32) &&& (255 : Int32)).toUInt32.toUInt16.toUInt32.toInt32)), u_, u_, u_, u_] [(ii 6), (.int (m_ &&& (2147483647 : Int32)))] t
   refine iremM X21 hx rfl (hb hby at_165) rfl (by decide) ?_
   refine XS.istore X21.here hx rfl (hb hby at_166) rfl (l' := #[vi k_, vj j_, .second, vi m_, vi p_, vj q_, .second, vi 0, vi cx0, vi cx1, vi cx2, vr b10, vr b16, vi pcv, .val (.int ((((p_.toUInt32 >>> ((8 : Int32) &&& 31).toUInt32).toInt32) &&& (255 : Int32)) % (3 : Int32))), .val (.int ((((p_.toUInt32 >>> ((16 : Int32) &&& 31).toUInt32).toInt32) &&& (255 : Int32)).toUInt32.toUInt16.toUInt32.toInt32)), .val (.int ((m_ &&& (2147483647 : Int32)) % (6 : Int32))), u_, u_, u_]) rfl ?_
   exact k
  obtain ⟨md, mdq⟩ : ∃ z, z = ((m_ &&& (2147483647 : Int32)) % (6 : Int32)) := ⟨_, rfl⟩
  rw [← mdq] at c39
  obtain ⟨tl, tlq⟩ : ∃ z, z = ((((p_.toUInt32 >>> ((8 : Int32) &&& 31).toUInt32).toInt32) &&& (255 : Int32)) % (3 : Int32)) := ⟨_, rfl⟩
  rw [← tlq] at c39
  obtain ⟨ts, tsq⟩ : ∃ z, z = ((((p_.toUInt32 >>> ((16 : Int32) &&& 31).toUInt32).toInt32) &&& (255 : Int32)).toUInt32.toUInt16.toUInt32.toInt32) := ⟨_, rfl⟩
  rw [← tsq] at c39
  obtain ⟨b40, T40, h40, z40, g40, X40, e40, E40, o41, A40, D40, U40, c40⟩ := knew X21 hx hZ21 hown21 (w23 hw) (w24 hw) (w25 hw) rfl c39 rfl (hb hby at_168) (by decide) (by decide) o33
  have kp42 := kp34.ext E40
  have z43 := Nat.le_trans kp34.1 z40
  have c44 : Kt p e below T40 st0 (mkF m 172 #[vi k_, vj j_, .second, vi m_, vi p_, vj q_, .second, vi 0, vi cx0, vi cx1, vi cx2, vr b10, vr b16, vi pcv, vi tl, vi ts, vi md, u_, u_, u_] [(rr b40), (rr b40)]) := fun t k => by
   refine c40 t ?_
   show S_ p e below T40 m 171 #[vi k_, vj j_, .second, vi m_, vi p_, vj q_, .second, vi 0, vi cx0, vi cx1, vi cx2, vr b10, vr b16, vi pcv, vi tl, vi ts, vi md, u_, u_, u_] [(rr b40)] t
   refine XS.dup X40.here hx rfl (hb hby at_171) rfl rfl ?_
   exact k
  obtain ⟨_, T45, L45, X45, hQ45, c45⟩ := kspec X40 hx hZ21 hown21 (w26 hw) (w27 hw) (w25 hw) (w28 hw) (rm_lminit l Z a0 hw [] b40 h40 n0 o41 A40 g40 (show Fld Z h40 b40 nm1 "made" nm10 .null from D40 (Or.inl (w80 hw)) (ty := (.object nm2)) (by decide)) (show Fld Z h40 b40 nm1 "read" nm3 .null from D40 (Or.inl (w82 hw)) (ty := (.object nm0)) (by decide)) (show Fld Z h40 b40 nm1 "copiedLength" "I" (ii 0) from D40 (Or.inl (w31 hw)) (ty := .int) (by decide)) (show Fld Z h40 b40 nm1 "offset" "J" (.long (0 : Int64)) from D40 (Or.inl (w90 hw)) (ty := .long) (by decide)) (show Fld Z h40 b40 nm1 "terminatorLength" "I" (ii 0) from D40 (Or.inl (w92 hw)) (ty := .int) (by decide)) (show Fld Z h40 b40 nm1 "copied" "[C" .null from D40 (Or.inl (w197 hw)) (ty := (.array .char)) (by decide)) (show Fld Z h40 b40 nm1 "terminatorStart" "C" (ii 0) from D40 (Or.inl (w178 hw)) (ty := .char) (by decide)) (show Fld Z h40 b40 nm1 "terminatorRead" "Z" (ii 0) from D40 (Or.inl (w180 hw)) (ty := .boolean) (by decide))) e40 c44 hml pd_prV b40 [] [(rr b40)] 1 (hb hby at_172) rfl rfl rfl rfl rfl rfl
  obtain ⟨rfl, N46q, K47, p48, p49, p50, p51, p52, p53, p54, p55, p56⟩ := hQ45
  have N46 := Fr.app N25 N46q
  have o57 := o41.keep K47 (allS g40 all0)
  have kp58 := kp42.trans K47 (allS (Or.inr z43) all0)
  have c59 : Kt p e below T45 st0 (mkF m 177 #[vi k_, vj j_, .second, vi m_, vi p_, vj q_, .second, vi 0, vi cx0, vi cx1, vi cx2, vr b10, vr b16, vi pcv, vi tl, vi ts, vi md, vr b40, u_, u_] []) := fun t k => by
   refine c45 t ?_
   show S_ p e below T45 m 175 #[vi k_, vj j_, .second, vi m_, vi p_, vj q_, .second, vi 0, vi cx0, vi cx1, vi cx2, vr b10, vr b16, vi pcv, vi tl, vi ts, vi md, u_, u_, u_] [(rr b40)] t
   refine XS.astore X45.here hx rfl (hb hby at_175) rfl rfl (l' := #[vi k_, vj j_, .second, vi m_, vi p_, vj q_, .second, vi 0, vi cx0, vi cx1, vi cx2, vr b10, vr b16, vi pcv, vi tl, vi ts, vi md, vr b40, u_, u_]) rfl ?_
   exact k
  obtain ⟨mv220, mv221, mv222, mv223, mv224, T225, h225, L225, X225, e225, o225, K225, kp225, N225, f226, f227, f228, f229, f230, c225⟩ : ∃ (mv220 : Int32), ∃ (mv221 : Value), ∃ (mv222 : Value), ∃ (mv223 : Int64), ∃ (mv224 : Int32), ∃ (T225 : State) (h225 : Heap) (L225 : List Loc), Stand p l e room_1 (s.setVm T21.vm) m #[(.int k_), (.long j_), (.int m_), (.int p_), (.long q_)] below meth c T225 L225 9 81 ∧ T225.heap = h225 ∧ Old Z n0 h225 ∧ Keep T45.heap h225 [b40] ∧ Keep h0 h225 [] ∧ Fr n0 L225 ∧ Fld Z h225 b40 nm1 "copiedLength" "I" (.int mv220) ∧ Fld Z h225 b40 nm1 "made" nm10 mv221 ∧ Fld Z h225 b40 nm1 "read" nm3 mv222 ∧ Fld Z h225 b40 nm1 "offset" "J" (.long mv223) ∧ Fld Z h225 b40 nm1 "terminatorLength" "I" (.int mv224) ∧ Kt p e below T225 st0 (mkF m 288 #[vi k_, vj j_, .second, vi m_, vi p_, vj q_, .second, vi 0, vi cx0, vi cx1, vi cx2, vr b10, vr b16, vi pcv, vi tl, vi ts, vi md, vr b40, u_, u_] []) := by
   have c60 : Kt p e below T45 st0 (mkF m 180 #[vi k_, vj j_, .second, vi m_, vi p_, vj q_, .second, vi 0, vi cx0, vi cx1, vi cx2, vr b10, vr b16, vi pcv, vi tl, vi ts, vi md, vr b40, u_, u_] [(ii 1), (.int md)]) := fun t k => by
    refine c59 t ?_
    show S_ p e below T45 m 177 #[vi k_, vj j_, .second, vi m_, vi p_, vj q_, .second, vi 0, vi cx0, vi cx1, vi cx2, vr b10, vr b16, vi pcv, vi tl, vi ts, vi md, vr b40, u_, u_] [] t
    refine XS.iload X45.here hx rfl (hb hby at_177) rfl ?_
    refine XS.iconst X45.here hx rfl (hb hby at_179) ?_
    exact k
   by_cases hc61 : md = (1 : Int32)
   ·have c62 : Kt p e below T45 st0 (mkF m 187 #[vi k_, vj j_, .second, vi m_, vi p_, vj q_, .second, vi 0, vi cx0, vi cx1, vi cx2, vr b10, vr b16, vi pcv, vi tl, vi ts, vi md, vr b40, u_, u_] [(.int pcv), (rr b40)]) := fun t k => by
     refine c60 t ?_
     show S_ p e below T45 m 180 #[vi k_, vj j_, .second, vi m_, vi p_, vj q_, .second, vi 0, vi cx0, vi cx1, vi cx2, vr b10, vr b16, vi pcv, vi tl, vi ts, vi md, vr b40, u_, u_] [(ii 1), (.int md)] t
     refine XS.icmpNo X45.here hx rfl (hb hby at_180) rfl (teq hc61).2 ?_
     refine XS.aload X45.here hx rfl (hb hby at_183) rfl rfl ?_
     refine XS.iload X45.here hx rfl (hb hby at_185) rfl ?_
     exact k
    obtain ⟨_, T63, L63, X63, hQ63, c63⟩ := kstat X45 hx hZ21 hown21 (w32 hw) (w33 hw) (w3 hw) (w34 hw) (rm_svo l Z a0 hw [] pcv si1_ T45.heap n0 o57 ZS0_ sn4_ hg38) rfl c62 hml pd_pCrLjava_lang_String_ [(.int pcv)] [(rr b40)] 1 (hb hby at_187) rfl rfl rfl rfl rfl rfl
    obtain ⟨b64, rfl, N65q, K66, p67, p68, b69, k70, p71, p72, p73⟩ := hQ63
    have N65 := Fr.app N46 N65q
    have o74 := o57.keep K66 all0
    have kp75 := kp58.trans K66 all0
    have z76 := Nat.le_trans kp58.1 p73
    have g77 := Nat.le_trans (Nat.le_trans (Nat.le_of_eq o57.1.symm) o57.2.1) p73
    have c78 : Kt p e below T63 st0 (mkF m 192 #[vi k_, vj j_, .second, vi m_, vi p_, vj q_, .second, vi 0, vi cx0, vi cx1, vi cx2, vr b10, vr b16, vi pcv, vi tl, vi ts, vi md, vr b40, u_, u_] [(.long q_), (rr b64), (rr b40)]) := fun t k => by
     refine c63 t ?_
     show S_ p e below T63 m 190 #[vi k_, vj j_, .second, vi m_, vi p_, vj q_, .second, vi 0, vi cx0, vi cx1, vi cx2, vr b10, vr b16, vi pcv, vi tl, vi ts, vi md, vr b40, u_, u_] [(rr b64), (rr b40)] t
     refine XS.lload X63.here hx rfl (hb hby at_190) rfl ?_
     exact k
    obtain ⟨_, T79, L79, X79, hQ79, c79⟩ := kstat X63 hx hZ21 hown21 (w47 hw) (w48 hw) (w49 hw) (w50 hw) (rm_mof_1 l Z a0 hw [] b64 b69 k70 [(.int (nar .byte (pcv.toInt8.toInt32)))] si1_ q_ T63.heap n0 o74 p67 p68 p71 p72 ZS0_ sn4_) rfl c78 hml pd_pLjava_lang_String_JrLgleaner_Match_ [(rr b64), (.long q_)] [(rr b40)] 1 (hb hby at_192) rfl rfl rfl rfl rfl rfl
    obtain ⟨b80, b81, k82, rfl, N83q, K84, p85, p86, p87, p88, p89, p90, p91, p92⟩ := hQ79
    have N83 := Fr.app N65 N83q
    have o93 := o74.keep K84 all0
    have kp94 := kp75.trans K84 all0
    have z95 := Nat.le_trans kp75.1 p91
    have g96 := Nat.le_trans (Nat.le_trans (Nat.le_of_eq o74.1.symm) o74.2.1) p91
    have z97 := Nat.le_trans kp75.1 p92
    have g98 := Nat.le_trans (Nat.le_trans (Nat.le_of_eq o74.1.symm) o74.2.1) p92
    obtain ⟨_, T99, L99, X99, hQ99, c99⟩ := kvirt X79 hx hZ21 hown21 (w74 hw) (w75 hw) (w77 hw) (w76 hw) (w78 hw) (w25 hw) (rm_set8R l Z a0 hw [] b40 b80 (.null) (.null) (-1 : Int32) (0 : Int64) (0 : Int32) (.null) (0 : Int32) (0 : Int32) T79.heap n0 o93 ((p48.keep K66).keep K84) g40 ((p49.keep K66 nin0).keep K84 nin0) ((p50.keep K66 nin0).keep K84 nin0) ((p51.keep K66 nin0).keep K84 nin0) ((p52.keep K66 nin0).keep K84 nin0) ((p53.keep K66 nin0).keep K84 nin0) ((p54.keep K66 nin0).keep K84 nin0) ((p55.keep K66 nin0).keep K84 nin0) ((p56.keep K66 nin0).keep K84 nin0)) rfl ((p48.keep K66).keep K84) c79 hml pd_pLgleaner_Match_rV [(rr b80)] [] 0 (hb hby at_195) rfl rfl rfl rfl rfl rfl
    obtain ⟨rfl, N100q, K101, p102, p103, p104, p105, p106, p107, p108, p109, p110⟩ := hQ99
    have N100 := Fr.app N83 N100q
    have o111 := o93.keep K101 (allS g40 all0)
    have kp112 := kp94.trans K101 (allS (Or.inr z43) all0)
    have c113 : Kt p e below T99 st0 (mkF m 288 #[vi k_, vj j_, .second, vi m_, vi p_, vj q_, .second, vi 0, vi cx0, vi cx1, vi cx2, vr b10, vr b16, vi pcv, vi tl, vi ts, vi md, vr b40, u_, u_] []) := fun t k => by
     refine c99 t ?_
     show S_ p e below T99 m 198 #[vi k_, vj j_, .second, vi m_, vi p_, vj q_, .second, vi 0, vi cx0, vi cx1, vi cx2, vr b10, vr b16, vi pcv, vi tl, vi ts, vi md, vr b40, u_, u_] [] t
     refine yG X99.here hx rfl 198 288 rfl (hb hby at_198) ?_
     exact k
    have K236 : Keep T45.heap T99.heap [b40] := ((((Keep.refl _ _).trans K66 all0).trans K84 all0).trans K101 (allS (Or.inl (List.mem_of_getElem? (i := 0) rfl)) all0))
    exact ⟨(-1 : Int32), (rr b80), .null, (0 : Int64), (0 : Int32), T99, _, _, X99.mono (by decide) (by decide), rfl, o111, K236, kp112, N100, p105, p103, p104, p106, p107, c113⟩
   ·have c114 : Kt p e below T45 st0 (mkF m 204 #[vi k_, vj j_, .second, vi m_, vi p_, vj q_, .second, vi 0, vi cx0, vi cx1, vi cx2, vr b10, vr b16, vi pcv, vi tl, vi ts, vi md, vr b40, u_, u_] [(ii 2), (.int md)]) := fun t k => by
     refine c60 t ?_
     show S_ p e below T45 m 180 #[vi k_, vj j_, .second, vi m_, vi p_, vj q_, .second, vi 0, vi cx0, vi cx1, vi cx2, vr b10, vr b16, vi pcv, vi tl, vi ts, vi md, vr b40, u_, u_] [(ii 1), (.int md)] t
     refine yC X45.here hx rfl 180 201 rfl (hb hby at_180) rfl (feq hc61).2 ?_
     refine XS.iload X45.here hx rfl (hb hby at_201) rfl ?_
     refine XS.iconst X45.here hx rfl (hb hby at_203) ?_
     exact k
    by_cases hc115 : md = (2 : Int32)
    ·have c116 : Kt p e below T45 st0 (mkF m 211 #[vi k_, vj j_, .second, vi m_, vi p_, vj q_, .second, vi 0, vi cx0, vi cx1, vi cx2, vr b10, vr b16, vi pcv, vi tl, vi ts, vi md, vr b40, u_, u_] [(.int pcv), (rr b40)]) := fun t k => by
      refine c114 t ?_
      show S_ p e below T45 m 204 #[vi k_, vj j_, .second, vi m_, vi p_, vj q_, .second, vi 0, vi cx0, vi cx1, vi cx2, vr b10, vr b16, vi pcv, vi tl, vi ts, vi md, vr b40, u_, u_] [(ii 2), (.int md)] t
      refine XS.icmpNo X45.here hx rfl (hb hby at_204) rfl (teq hc115).2 ?_
      refine XS.aload X45.here hx rfl (hb hby at_207) rfl rfl ?_
      refine XS.iload X45.here hx rfl (hb hby at_209) rfl ?_
      exact k
     obtain ⟨_, T117, L117, X117, hQ117, c117⟩ := kstat X45 hx hZ21 hown21 (w32 hw) (w33 hw) (w3 hw) (w34 hw) (rm_svo l Z a0 hw [] pcv si1_ T45.heap n0 o57 ZS0_ sn4_ hg38) rfl c116 hml pd_pCrLjava_lang_String_ [(.int pcv)] [(rr b40)] 1 (hb hby at_211) rfl rfl rfl rfl rfl rfl
     obtain ⟨b118, rfl, N119q, K120, p121, p122, b123, k124, p125, p126, p127⟩ := hQ117
     have N119 := Fr.app N46 N119q
     have o128 := o57.keep K120 all0
     have kp129 := kp58.trans K120 all0
     have z130 := Nat.le_trans kp58.1 p127
     have g131 := Nat.le_trans (Nat.le_trans (Nat.le_of_eq o57.1.symm) o57.2.1) p127
     have c132 : Kt p e below T117 st0 (mkF m 220 #[vi k_, vj j_, .second, vi m_, vi p_, vj q_, .second, vi 0, vi cx0, vi cx1, vi cx2, vr b10, vr b16, vi pcv, vi tl, vi ts, vi md, vr b40, u_, u_] [(.int ts), (.int tl), (.long q_), (rr b118), (rr b40)]) := fun t k => by
      refine c117 t ?_
      show S_ p e below T117 m 214 #[vi k_, vj j_, .second, vi m_, vi p_, vj q_, .second, vi 0, vi cx0, vi cx1, vi cx2, vr b10, vr b16, vi pcv, vi tl, vi ts, vi md, vr b40, u_, u_] [(rr b118), (rr b40)] t
      refine XS.lload X117.here hx rfl (hb hby at_214) rfl ?_
      refine XS.iload X117.here hx rfl (hb hby at_216) rfl ?_
      refine XS.iload X117.here hx rfl (hb hby at_218) rfl ?_
      exact k
     obtain ⟨_, T133, L133, X133, hQ133, c133⟩ := kvirt X117 hx hZ21 hown21 (w172 hw) (w173 hw) (w175 hw) (w174 hw) (w176 hw) (w25 hw) (rm_line l Z a0 hw [] b40 b118 q_ tl ts (.null) (.null) (-1 : Int32) (0 : Int64) (0 : Int32) (.null) (0 : Int32) (0 : Int32) T117.heap n0 o128 (p48.keep K120) g40 (p49.keep K120 nin0) (p50.keep K120 nin0) (p51.keep K120 nin0) (p52.keep K120 nin0) (p53.keep K120 nin0) (p54.keep K120 nin0) (p55.keep K120 nin0) (p56.keep K120 nin0)) rfl (p48.keep K120) c132 hml pd_pLjava_lang_String_JICrV [(rr b118), (.long q_), (.int tl), (.int ts)] [] 0 (hb hby at_220) rfl rfl rfl rfl rfl rfl
     obtain ⟨rfl, N134q, K135, p136, p137, p138, p139, p140, p141⟩ := hQ133
     have N134 := Fr.app N119 N134q
     have o142 := o128.keep K135 (allS g40 all0)
     have kp143 := kp129.trans K135 (allS (Or.inr z43) all0)
     have c144 : Kt p e below T133 st0 (mkF m 288 #[vi k_, vj j_, .second, vi m_, vi p_, vj q_, .second, vi 0, vi cx0, vi cx1, vi cx2, vr b10, vr b16, vi pcv, vi tl, vi ts, vi md, vr b40, u_, u_] []) := fun t k => by
      refine c133 t ?_
      show S_ p e below T133 m 223 #[vi k_, vj j_, .second, vi m_, vi p_, vj q_, .second, vi 0, vi cx0, vi cx1, vi cx2, vr b10, vr b16, vi pcv, vi tl, vi ts, vi md, vr b40, u_, u_] [] t
      refine yG X133.here hx rfl 223 288 rfl (hb hby at_223) ?_
      exact k
     have K235 : Keep T45.heap T133.heap [b40] := (((Keep.refl _ _).trans K120 all0).trans K135 (allS (Or.inl (List.mem_of_getElem? (i := 0) rfl)) all0))
     exact ⟨(-1 : Int32), .null, (rr b118), q_, tl, T133, _, _, X133.mono (by decide) (by decide), rfl, o142, K235, kp143, N134, p139, p137, p138, p140, p141, c144⟩
    ·have c145 : Kt p e below T45 st0 (mkF m 229 #[vi k_, vj j_, .second, vi m_, vi p_, vj q_, .second, vi 0, vi cx0, vi cx1, vi cx2, vr b10, vr b16, vi pcv, vi tl, vi ts, vi md, vr b40, u_, u_] [(ii 3), (.int md)]) := fun t k => by
      refine c114 t ?_
      show S_ p e below T45 m 204 #[vi k_, vj j_, .second, vi m_, vi p_, vj q_, .second, vi 0, vi cx0, vi cx1, vi cx2, vr b10, vr b16, vi pcv, vi tl, vi ts, vi md, vr b40, u_, u_] [(ii 2), (.int md)] t
      refine yC X45.here hx rfl 204 226 rfl (hb hby at_204) rfl (feq hc115).2 ?_
      refine XS.iload X45.here hx rfl (hb hby at_226) rfl ?_
      refine XS.iconst X45.here hx rfl (hb hby at_228) ?_
      exact k
     by_cases hc146 : md = (3 : Int32)
     ·have c147 : Kt p e below T45 st0 (mkF m 235 #[vi k_, vj j_, .second, vi m_, vi p_, vj q_, .second, vi 0, vi cx0, vi cx1, vi cx2, vr b10, vr b16, vi pcv, vi tl, vi ts, vi md, vr b40, u_, u_] [(ii 1), (rr b40)]) := fun t k => by
       refine c145 t ?_
       show S_ p e below T45 m 229 #[vi k_, vj j_, .second, vi m_, vi p_, vj q_, .second, vi 0, vi cx0, vi cx1, vi cx2, vr b10, vr b16, vi pcv, vi tl, vi ts, vi md, vr b40, u_, u_] [(ii 3), (.int md)] t
       refine XS.icmpNo X45.here hx rfl (hb hby at_229) rfl (teq hc146).2 ?_
       refine XS.aload X45.here hx rfl (hb hby at_232) rfl rfl ?_
       refine XS.iconst X45.here hx rfl (hb hby at_234) ?_
       exact k
      obtain ⟨b148, T148, h148, k148, z148, g148, X148, e148, E148, o149, A148, c148⟩ := knewP (aty := .char) X45 hx hZ21 (w0 hw) rfl c147 rfl (hb hby at_235) rfl (by decide) 1 (by decide) (by decide) (by decide) (by decide) o57
      have kp151 := kp58.ext E148
      have z152 := Nat.le_trans kp58.1 z148
      have f150 : Arv Z h148 b148 k148 .char (1 : Int32) [(ii 0)] (ii 0) := A148.pad (pad_rep [] (ii 0) 1)
      have c153 : Kt p e below T148 st0 (mkF m 241 #[vi k_, vj j_, .second, vi m_, vi p_, vj q_, .second, vi 0, vi cx0, vi cx1, vi cx2, vr b10, vr b16, vi pcv, vi tl, vi ts, vi md, vr b40, u_, u_] [(.int pcv), (ii 0), (rr b148), (rr b148), (rr b40)]) := fun t k => by
       refine c148 t ?_
       show S_ p e below T148 m 237 #[vi k_, vj j_, .second, vi m_, vi p_, vj q_, .second, vi 0, vi cx0, vi cx1, vi cx2, vr b10, vr b16, vi pcv, vi tl, vi ts, vi md, vr b40, u_, u_] [(rr b148), (rr b40)] t
       refine XS.dup X148.here hx rfl (hb hby at_237) rfl rfl ?_
       refine XS.iconst X148.here hx rfl (hb hby at_238) ?_
       refine XS.iload X148.here hx rfl (hb hby at_239) rfl ?_
       exact k
      obtain ⟨T154, h154, X154, e154, W154, f157, o155, N156, c154⟩ := kstC X148 hx hZ21 e148 f150 (j := (0 : Int32)) (by decide) (by decide) 0 rfl (Nat.le_of_ble_eq_true rfl) c153 rfl rfl (hb hby at_241) o149 N46 g148
      rw [hg37] at W154 f157
      have f158 : Arv Z h154 b148 k148 .char (1 : Int32) [(.int pcv)] (ii 0) := f157
      have kp159 := kp151.wr W154 (Or.inr z152)
      have q160 := Nat.ne_of_lt (Nat.lt_of_lt_of_le p48.lt z148)
      have c161 : Kt p e below T154 st0 (mkF m 246 #[vi k_, vj j_, .second, vi m_, vi p_, vj q_, .second, vi 0, vi cx0, vi cx1, vi cx2, vr b10, vr b16, vi pcv, vi tl, vi ts, vi md, vr b40, u_, u_] [(.long q_), (ii 1), (ii 0), (rr b148), (rr b40)]) := fun t k => by
       refine c154 t ?_
       show S_ p e below T154 m 242 #[vi k_, vj j_, .second, vi m_, vi p_, vj q_, .second, vi 0, vi cx0, vi cx1, vi cx2, vr b10, vr b16, vi pcv, vi tl, vi ts, vi md, vr b40, u_, u_] [(rr b148), (rr b40)] t
       refine XS.iconst X154.here hx rfl (hb hby at_242) ?_
       refine XS.iconst X154.here hx rfl (hb hby at_243) ?_
       refine XS.lload X154.here hx rfl (hb hby at_244) rfl ?_
       exact k
      obtain ⟨_, T162, L162, X162, hQ162, c162⟩ := kvirt X154 hx hZ21 hown21 (w191 hw) (w192 hw) (w194 hw) (w193 hw) (w195 hw) (w25 hw) (rm_tokC l Z a0 hw [] b40 b148 k148 [(.int pcv)] q_ (.null) (.null) (-1 : Int32) (0 : Int64) (0 : Int32) (0 : Int32) (0 : Int32) h154 n0 o155 ((p48.ext E148).wr W154) g40 ((p49.ext E148).other W154 (Or.inl q160)) ((p50.ext E148).other W154 (Or.inl q160)) ((p51.ext E148).other W154 (Or.inl q160)) ((p52.ext E148).other W154 (Or.inl q160)) ((p53.ext E148).other W154 (Or.inl q160)) ((p54.ext E148).other W154 (Or.inl q160)) ((p55.ext E148).other W154 (Or.inl q160)) ((p56.ext E148).other W154 (Or.inl q160)) f158) e154 ((p48.ext E148).wr W154) c161 hml pd_pACIIJrV [(rr b148), (ii 0), (ii 1), (.long q_)] [] 0 (hb hby at_246) rfl rfl rfl rfl rfl rfl
      obtain ⟨rfl, N163q, K164, p165, p166, p167, p168, p169, p170⟩ := hQ162
      have N163 := Fr.app N156 N163q
      have o171 := o155.keep K164 (allS g40 all0)
      have kp172 := kp159.trans K164 (allS (Or.inr z43) all0)
      have c173 : Kt p e below T162 st0 (mkF m 288 #[vi k_, vj j_, .second, vi m_, vi p_, vj q_, .second, vi 0, vi cx0, vi cx1, vi cx2, vr b10, vr b16, vi pcv, vi tl, vi ts, vi md, vr b40, u_, u_] []) := fun t k => by
       refine c162 t ?_
       show S_ p e below T162 m 249 #[vi k_, vj j_, .second, vi m_, vi p_, vj q_, .second, vi 0, vi cx0, vi cx1, vi cx2, vr b10, vr b16, vi pcv, vi tl, vi ts, vi md, vr b40, u_, u_] [] t
       refine yG X162.here hx rfl 249 288 rfl (hb hby at_249) ?_
       exact k
      have K234 : Keep T45.heap T162.heap [b40] := ((((Keep.refl _ _).ext E148).wr W154 (Or.inr (Nat.le_trans (Nat.le_refl _) z148))).trans K164 (allS (Or.inl (List.mem_of_getElem? (i := 0) rfl)) all0))
      exact ⟨(1 : Int32), .null, .null, q_, (-1 : Int32), T162, _, _, X162.mono (by decide) (by decide), rfl, o171, K234, kp172, N163, p168, p166, p167, p169, p170, c173⟩
     ·have c174 : Kt p e below T45 st0 (mkF m 255 #[vi k_, vj j_, .second, vi m_, vi p_, vj q_, .second, vi 0, vi cx0, vi cx1, vi cx2, vr b10, vr b16, vi pcv, vi tl, vi ts, vi md, vr b40, u_, u_] [(ii 4), (.int md)]) := fun t k => by
       refine c145 t ?_
       show S_ p e below T45 m 229 #[vi k_, vj j_, .second, vi m_, vi p_, vj q_, .second, vi 0, vi cx0, vi cx1, vi cx2, vr b10, vr b16, vi pcv, vi tl, vi ts, vi md, vr b40, u_, u_] [(ii 3), (.int md)] t
       refine yC X45.here hx rfl 229 252 rfl (hb hby at_229) rfl (feq hc146).2 ?_
       refine XS.iload X45.here hx rfl (hb hby at_252) rfl ?_
       refine XS.iconst X45.here hx rfl (hb hby at_254) ?_
       exact k
      by_cases hc175 : md = (4 : Int32)
      ·have c176 : Kt p e below T45 st0 (mkF m 262 #[vi k_, vj j_, .second, vi m_, vi p_, vj q_, .second, vi 0, vi cx0, vi cx1, vi cx2, vr b10, vr b16, vi pcv, vi tl, vi ts, vi md, vr b40, u_, u_] [(.int pcv), (rr b40)]) := fun t k => by
        refine c174 t ?_
        show S_ p e below T45 m 255 #[vi k_, vj j_, .second, vi m_, vi p_, vj q_, .second, vi 0, vi cx0, vi cx1, vi cx2, vr b10, vr b16, vi pcv, vi tl, vi ts, vi md, vr b40, u_, u_] [(ii 4), (.int md)] t
        refine XS.icmpNo X45.here hx rfl (hb hby at_255) rfl (teq hc175).2 ?_
        refine XS.aload X45.here hx rfl (hb hby at_258) rfl rfl ?_
        refine XS.iload X45.here hx rfl (hb hby at_260) rfl ?_
        exact k
       obtain ⟨_, T177, L177, X177, hQ177, c177⟩ := kstat X45 hx hZ21 hown21 (w32 hw) (w33 hw) (w3 hw) (w34 hw) (rm_svo l Z a0 hw [] pcv si1_ T45.heap n0 o57 ZS0_ sn4_ hg38) rfl c176 hml pd_pCrLjava_lang_String_ [(.int pcv)] [(rr b40)] 1 (hb hby at_262) rfl rfl rfl rfl rfl rfl
       obtain ⟨b178, rfl, N179q, K180, p181, p182, b183, k184, p185, p186, p187⟩ := hQ177
       have N179 := Fr.app N46 N179q
       have o188 := o57.keep K180 all0
       have kp189 := kp58.trans K180 all0
       have z190 := Nat.le_trans kp58.1 p187
       have g191 := Nat.le_trans (Nat.le_trans (Nat.le_of_eq o57.1.symm) o57.2.1) p187
       have c192 : Kt p e below T177 st0 (mkF m 271 #[vi k_, vj j_, .second, vi m_, vi p_, vj q_, .second, vi 0, vi cx0, vi cx1, vi cx2, vr b10, vr b16, vi pcv, vi tl, vi ts, vi md, vr b40, u_, u_] [(.int (tl &&& (1 : Int32))), (.long q_), (rr b178), (rr b40)]) := fun t k => by
        refine c177 t ?_
        show S_ p e below T177 m 265 #[vi k_, vj j_, .second, vi m_, vi p_, vj q_, .second, vi 0, vi cx0, vi cx1, vi cx2, vr b10, vr b16, vi pcv, vi tl, vi ts, vi md, vr b40, u_, u_] [(rr b178), (rr b40)] t
        refine XS.lload X177.here hx rfl (hb hby at_265) rfl ?_
        refine XS.iload X177.here hx rfl (hb hby at_267) rfl ?_
        refine XS.iconst X177.here hx rfl (hb hby at_269) ?_
        refine XS.iand X177.here hx rfl (hb hby at_270) rfl ?_
        exact k
       obtain ⟨_, T193, L193, X193, hQ193, c193⟩ := kvirt X177 hx hZ21 hown21 (w207 hw) (w208 hw) (w210 hw) (w209 hw) (w211 hw) (w25 hw) (rm_lwt l Z a0 hw [] b40 b178 q_ ((tl &&& (1 : Int32))) (.null) (.null) (-1 : Int32) (0 : Int64) (0 : Int32) (.null) (0 : Int32) (0 : Int32) T177.heap n0 o188 (p48.keep K180) g40 (p49.keep K180 nin0) (p50.keep K180 nin0) (p51.keep K180 nin0) (p52.keep K180 nin0) (p53.keep K180 nin0) (p54.keep K180 nin0) (p55.keep K180 nin0) (p56.keep K180 nin0)) rfl (p48.keep K180) c192 hml pd_pLjava_lang_String_JIrV [(rr b178), (.long q_), (.int (tl &&& (1 : Int32)))] [] 0 (hb hby at_271) rfl rfl rfl rfl rfl rfl
       obtain ⟨rfl, N194q, K195, p196, p197, p198, p199, p200, p201⟩ := hQ193
       have N194 := Fr.app N179 N194q
       have o202 := o188.keep K195 (allS g40 all0)
       have kp203 := kp189.trans K195 (allS (Or.inr z43) all0)
       have c204 : Kt p e below T193 st0 (mkF m 288 #[vi k_, vj j_, .second, vi m_, vi p_, vj q_, .second, vi 0, vi cx0, vi cx1, vi cx2, vr b10, vr b16, vi pcv, vi tl, vi ts, vi md, vr b40, u_, u_] []) := fun t k => by
        refine c193 t ?_
        show S_ p e below T193 m 274 #[vi k_, vj j_, .second, vi m_, vi p_, vj q_, .second, vi 0, vi cx0, vi cx1, vi cx2, vr b10, vr b16, vi pcv, vi tl, vi ts, vi md, vr b40, u_, u_] [] t
        refine yG X193.here hx rfl 274 288 rfl (hb hby at_274) ?_
        exact k
       have K233 : Keep T45.heap T193.heap [b40] := (((Keep.refl _ _).trans K180 all0).trans K195 (allS (Or.inl (List.mem_of_getElem? (i := 0) rfl)) all0))
       exact ⟨(-1 : Int32), .null, (rr b178), q_, (tl &&& (1 : Int32)), T193, _, _, X193.mono (by decide) (by decide), rfl, o202, K233, kp203, N194, p199, p197, p198, p200, p201, c204⟩
      ·have c205 : Kt p e below T45 st0 (mkF m 280 #[vi k_, vj j_, .second, vi m_, vi p_, vj q_, .second, vi 0, vi cx0, vi cx1, vi cx2, vr b10, vr b16, vi pcv, vi tl, vi ts, vi md, vr b40, u_, u_] [(ii 5), (.int md)]) := fun t k => by
        refine c174 t ?_
        show S_ p e below T45 m 255 #[vi k_, vj j_, .second, vi m_, vi p_, vj q_, .second, vi 0, vi cx0, vi cx1, vi cx2, vr b10, vr b16, vi pcv, vi tl, vi ts, vi md, vr b40, u_, u_] [(ii 4), (.int md)] t
        refine yC X45.here hx rfl 255 277 rfl (hb hby at_255) rfl (feq hc175).2 ?_
        refine XS.iload X45.here hx rfl (hb hby at_277) rfl ?_
        refine XS.iconst X45.here hx rfl (hb hby at_279) ?_
        exact k
       by_cases hc206 : md = (5 : Int32)
       ·have c207 : Kt p e below T45 st0 (mkF m 285 #[vi k_, vj j_, .second, vi m_, vi p_, vj q_, .second, vi 0, vi cx0, vi cx1, vi cx2, vr b10, vr b16, vi pcv, vi tl, vi ts, vi md, vr b40, u_, u_] [(rr b40)]) := fun t k => by
         refine c205 t ?_
         show S_ p e below T45 m 280 #[vi k_, vj j_, .second, vi m_, vi p_, vj q_, .second, vi 0, vi cx0, vi cx1, vi cx2, vr b10, vr b16, vi pcv, vi tl, vi ts, vi md, vr b40, u_, u_] [(ii 5), (.int md)] t
         refine XS.icmpNo X45.here hx rfl (hb hby at_280) rfl (teq hc206).2 ?_
         refine XS.aload X45.here hx rfl (hb hby at_283) rfl rfl ?_
         exact k
        obtain ⟨_, T208, L208, X208, hQ208, c208⟩ := kvirt X45 hx hZ21 hown21 (w202 hw) (w203 hw) (w205 hw) (w204 hw) (w206 hw) (w25 hw) (rm_clear l Z a0 hw [] b40 (.null) (.null) (-1 : Int32) (0 : Int64) (0 : Int32) T45.heap n0 o57 p48 g40 p49 p50 p51 p52 p53) rfl p48 c207 hml pd_prV [] [] 0 (hb hby at_285) rfl rfl rfl rfl rfl rfl
        obtain ⟨rfl, N209q, K210, p211, p212, p213, p214, p215, p216⟩ := hQ208
        have N209 := Fr.app N46 N209q
        have o217 := o57.keep K210 (allS g40 all0)
        have kp218 := kp58.trans K210 (allS (Or.inr z43) all0)
        have K232 : Keep T45.heap T208.heap [b40] := ((Keep.refl _ _).trans K210 (allS (Or.inl (List.mem_of_getElem? (i := 0) rfl)) all0))
        exact ⟨(-1 : Int32), .null, .null, (0 : Int64), (0 : Int32), T208, _, _, X208.mono (by decide) (by decide), rfl, o217, K232, kp218, N209, p214, p212, p213, p215, p216, c208⟩
       ·have c219 : Kt p e below T45 st0 (mkF m 288 #[vi k_, vj j_, .second, vi m_, vi p_, vj q_, .second, vi 0, vi cx0, vi cx1, vi cx2, vr b10, vr b16, vi pcv, vi tl, vi ts, vi md, vr b40, u_, u_] []) := fun t k => by
         refine c205 t ?_
         show S_ p e below T45 m 280 #[vi k_, vj j_, .second, vi m_, vi p_, vj q_, .second, vi 0, vi cx0, vi cx1, vi cx2, vr b10, vr b16, vi pcv, vi tl, vi ts, vi md, vr b40, u_, u_] [(ii 5), (.int md)] t
         refine yC X45.here hx rfl 280 288 rfl (hb hby at_280) rfl (feq hc206).2 ?_
         exact k
        have K231 : Keep T45.heap T45.heap [b40] := (Keep.refl _ _)
        exact ⟨(-1 : Int32), .null, .null, (0 : Int64), (0 : Int32), T45, _, _, X45.mono (by decide) (by decide), rfl, o57, K231, kp58, N46, p51, p49, p50, p52, p53, c219⟩
  have c237 : Kt p e below T225 st0 (mkF m 293 #[vi k_, vj j_, .second, vi m_, vi p_, vj q_, .second, vi 0, vi cx0, vi cx1, vi cx2, vr b10, vr b16, vi pcv, vi tl, vi ts, vi md, vr b40, u_, u_] [(.long j_), (rr b16), (rr b40)]) := fun t k => by
   refine c225 t ?_
   show S_ p e below T225 m 288 #[vi k_, vj j_, .second, vi m_, vi p_, vj q_, .second, vi 0, vi cx0, vi cx1, vi cx2, vr b10, vr b16, vi pcv, vi tl, vi ts, vi md, vr b40, u_, u_] [] t
   refine XS.aload X225.here hx rfl (hb hby at_288) rfl rfl ?_
   refine XS.aload X225.here hx rfl (hb hby at_290) rfl rfl ?_
   refine XS.lloadN X225.here hx rfl (hb hby at_292) rfl ?_
   exact k
  obtain ⟨_, T238, L238, X238, hQ238, c238⟩ := kvirt X225 hx hZ21 hown21 (w83 hw) (w84 hw) (w86 hw) (w85 hw) (w87 hw) (w25 hw) (rm_tokS l Z a0 hw [] b40 b16 j_ mv221 mv222 mv220 mv223 mv224 h225 n0 o225 (p48.keep K225) g40 f227 f228 f226 f229 f230) e225 (p48.keep K225) c237 hml pd_pLjava_lang_String_JrV [(rr b16), (.long j_)] [] 0 (hb hby at_293) rfl rfl rfl rfl rfl rfl
  obtain ⟨rfl, N239q, K240, p241, p242, p243, p244, p245, p246⟩ := hQ238
  have N239 := Fr.app N225 N239q
  have o247 := o225.keep K240 (allS g40 all0)
  have kp248 := kp225.trans K240 (allS (Or.inr z43) all0)
  have q249 := Nat.ne_of_lt (Nat.lt_of_lt_of_le p27.lt z40)
  have q250 := Nat.ne_of_lt (Nat.lt_of_lt_of_le p32.lt z40)
  have c251 : Kt p e below T238 st0 (mkF m 298 #[vi k_, vj j_, .second, vi m_, vi p_, vj q_, .second, vi 0, vi cx0, vi cx1, vi cx2, vr b10, vr b16, vi pcv, vi tl, vi ts, vi md, vr b40, u_, u_] [(rr b40)]) := fun t k => by
   refine c238 t ?_
   show S_ p e below T238 m 296 #[vi k_, vj j_, .second, vi m_, vi p_, vj q_, .second, vi 0, vi cx0, vi cx1, vi cx2, vr b10, vr b16, vi pcv, vi tl, vi ts, vi md, vr b40, u_, u_] [] t
   refine XS.aload X238.here hx rfl (hb hby at_296) rfl rfl ?_
   exact k
  obtain ⟨_, T252, L252, X252, hQ252, c252⟩ := kvirt X238 hx hZ21 hown21 (w93 hw) (w94 hw) (w96 hw) (w95 hw) (w97 hw) (w25 hw) (rm_get_0 l Z a0 hw [] b40 j_ b16 b29 k30 [] si1_ T238.heap n0 o247 p241 g40 p242 p243 p244 p245 p246 ((((p27.ext E40).keep K47).keep K225).keep K240) ((((p28.ext E40).keep K47 (ninS q249 nin0)).keep K225 (ninS q249 nin0)).keep K240 (ninS q249 nin0)) ((((p31.ext E40).keep K47 (ninS q249 nin0)).keep K225 (ninS q249 nin0)).keep K240 (ninS q249 nin0)) ((((p32.ext E40).keep K47 (ninS q250 nin0)).keep K225 (ninS q250 nin0)).keep K240 (ninS q250 nin0)) ZS0_ sn4_) rfl p241 c251 hml pd_prLgleaner_Match_ [] [] 0 (hb hby at_298) rfl rfl rfl rfl rfl rfl
  obtain ⟨b253, b254, k255, rfl, N256q, K257, p258, p259, p260, p261, p262, p263, p264⟩ := hQ252
  have N256 := Fr.app N239 N256q
  have o265 := o247.keep K257 (allS g40 all0)
  have kp266 := kp248.trans K257 (allS (Or.inr z43) all0)
  have z267 := Nat.le_trans kp248.1 p263
  have g268 := Nat.le_trans (Nat.le_trans (Nat.le_of_eq o247.1.symm) o247.2.1) p263
  have z269 := Nat.le_trans kp248.1 p264
  have g270 := Nat.le_trans (Nat.le_trans (Nat.le_of_eq o247.1.symm) o247.2.1) p264
  have c271 : Kt p e below T252 st0 (mkF m 312 #[vi k_, vj j_, .second, vi m_, vi p_, vj q_, .second, vi 0, vi cx0, vi cx1, vi cx2, vr b10, vr b16, vi pcv, vi tl, vi ts, vi md, vr b40, vr b253, u_] [(rr b253)]) := fun t k => by
   refine c252 t ?_
   show S_ p e below T252 m 301 #[vi k_, vj j_, .second, vi m_, vi p_, vj q_, .second, vi 0, vi cx0, vi cx1, vi cx2, vr b10, vr b16, vi pcv, vi tl, vi ts, vi md, vr b40, u_, u_] [(rr b253)] t
   refine XS.astore X252.here hx rfl (hb hby at_301) rfl rfl (l' := #[vi k_, vj j_, .second, vi m_, vi p_, vj q_, .second, vi 0, vi cx0, vi cx1, vi cx2, vr b10, vr b16, vi pcv, vi tl, vi ts, vi md, vr b40, vr b253, u_]) rfl ?_
   refine XS.aload X252.here hx rfl (hb hby at_303) rfl rfl ?_
   refine XS.ifnonnullYes X252.here hx rfl (pc0 := 305) (pc' := 310) rfl (hb hby at_305) rfl (by decide) (by decide) ?_
   refine XS.aload X252.here hx rfl (hb hby at_310) rfl rfl ?_
   exact k
  have ch274 : CHr Z consts_1 s.vm h0 T21.vm h40 := ch35.trans (CHr.ext E40 ch35.1)
  have sf275 : Safe Z consts_1 T21.vm h40 b40 := own_sE (Safe.new z40) ch35.1 E40
  have ch276 : CHr Z consts_1 s.vm h0 T21.vm T45.heap := ch274.trans (CHr.keep K47 (allS sf275 all0) ch274.1)
  have sf277 : Safe Z consts_1 T21.vm T45.heap b40 := own_sK sf275 ch274.1 K47 (allS sf275 all0)
  have ch278 : CHr Z consts_1 s.vm h0 T21.vm h225 := ch276.trans (CHr.keep K225 (allS sf277 all0) ch276.1)
  have sf279 : Safe Z consts_1 T21.vm h225 b40 := own_sK sf277 ch276.1 K225 (allS sf277 all0)
  have ch280 : CHr Z consts_1 s.vm h0 T21.vm T238.heap := ch278.trans (CHr.keep K240 (allS sf279 all0) ch278.1)
  have sf281 : Safe Z consts_1 T21.vm T238.heap b40 := own_sK sf279 ch278.1 K240 (allS sf279 all0)
  have ch282 : CHr Z consts_1 s.vm h0 T21.vm T252.heap := ch280.trans (CHr.keep K257 (allS sf281 all0) ch280.1)
  obtain ⟨a272, T272, h272, k272, b272, kb272, X272, e272, E272, o273, hS272, hk272, hZ272, hown272, fE272, fC272, fV272, fA272, Lt272, cr272, hne272, c272⟩ := kldcH X252 hx hZ21 hown21 hS21 (Nat.le_trans (Nat.le_refl _) (Nat.le_trans (Nat.le_trans (Nat.le_trans (Nat.le_trans E40.1 K47.1) K225.1) K240.1) K257.1)) (w99 hw) (own_atoms hw) (own_EW hw) (by simp [consts_1]) ch282.1 rfl c271 0 (hb hby at_312) rfl (vs := []) (z := (0 : Int32)) ⟨by decide, rfl⟩ (by decide) rfl (by decide) (by decide) (by decide) (by decide) o265
  have kp283 := kp266.ext E272
  have ch284 : CHr Z consts_1 s.vm h0 T272.vm h272 := ch282.trans cr272
  have c285 : Kt p e below T272 st0 (mkF m 316 #[vi k_, vj j_, .second, vi m_, vi p_, vj q_, .second, vi 0, vi cx0, vi cx1, vi cx2, vr b10, vr b16, vi pcv, vi tl, vi ts, vi md, vr b40, vr b253, u_] [(.long (-j_)), (rr a272), (rr b253)]) := fun t k => by
   refine c272 t ?_
   show S_ p e below T272 m 314 #[vi k_, vj j_, .second, vi m_, vi p_, vj q_, .second, vi 0, vi cx0, vi cx1, vi cx2, vr b10, vr b16, vi pcv, vi tl, vi ts, vi md, vr b40, vr b253, u_] [(rr a272), (rr b253)] t
   refine XS.lloadN X272.here hx rfl (hb hby at_314) rfl ?_
   refine XS.lneg X272.here hx rfl (hb hby at_315) rfl ?_
   exact k
  obtain ⟨_, T286, L286, X286, hQ286, c286⟩ := kstat X272 hx hZ272 hown272 (w47 hw) (w48 hw) (w49 hw) (w50 hw) (rm_mof_0 l Z a0 hw [] a272 b272 kb272 [] si1_ (-j_) h272 n0 o273 fE272 fC272 fV272 fA272 ZS0_ sn4_) e272 c285 hml pd_pLjava_lang_String_JrLgleaner_Match_ [(rr a272), (.long (-j_))] [(rr b253)] 1 (hb hby at_316) rfl rfl rfl rfl rfl rfl
  obtain ⟨b287, b288, k289, rfl, N290q, K291, p292, p293, p294, p295, p296, p297, p298, p299⟩ := hQ286
  have N290 := Fr.app N256 N290q
  have o300 := o273.keep K291 all0
  have kp301 := kp283.trans K291 all0
  have z302 := Nat.le_trans kp283.1 p298
  have g303 := Nat.le_trans (Nat.le_trans (Nat.le_of_eq o273.1.symm) o273.2.1) p298
  have z304 := Nat.le_trans kp283.1 p299
  have g305 := Nat.le_trans (Nat.le_trans (Nat.le_of_eq o273.1.symm) o273.2.1) p299
  obtain ⟨_, T306, L306, X306, hQ306, c306⟩ := kvirt X286 hx hZ272 hown272 (w100 hw) (w101 hw) (w103 hw) (w102 hw) (w104 hw) (w49 hw) (rm_within l Z a0 hw [] b253 b16 j_ b254 b287 (-j_) T286.heap n0 o300 ((p259.ext E272).keep K291 nin0) ((p260.ext E272).keep K291 nin0) ((p261.ext E272).keep K291 nin0) p294) rfl ((p258.ext E272).keep K291) c286 hml pd_pLgleaner_Match_rLgleaner_Match_ [(rr b287)] [] 0 (hb hby at_319) rfl rfl rfl rfl rfl rfl
  obtain ⟨b307, rfl, N308q, K309, p310, p311, p312, p313, p314⟩ := hQ306
  have N308 := Fr.app N290 N308q
  have o315 := o300.keep K309 all0
  have kp316 := kp301.trans K309 all0
  have z317 := Nat.le_trans kp301.1 p314
  have g318 := Nat.le_trans (Nat.le_trans (Nat.le_of_eq o300.1.symm) o300.2.1) p314
  have f319 : Fld Z T306.heap b307 nm2 "offset" "J" (.long (0 : Int64)) := by rw [← own_neg j_]; exact p312
  have f320 := (((((((p28.ext E40).keep K47 (ninS q249 nin0)).keep K225 (ninS q249 nin0)).keep K240 (ninS q249 nin0)).keep K257 (ninS q249 nin0)).ext E272).keep K291 nin0).keep K309 nin0
  have f321 := (((((((p31.ext E40).keep K47 (ninS q249 nin0)).keep K225 (ninS q249 nin0)).keep K240 (ninS q249 nin0)).keep K257 (ninS q249 nin0)).ext E272).keep K291 nin0).keep K309 nin0
  have f322 := (((((((p32.ext E40).keep K47 (ninS q250 nin0)).keep K225 (ninS q250 nin0)).keep K240 (ninS q250 nin0)).keep K257 (ninS q250 nin0)).ext E272).keep K291 nin0).keep K309 nin0
  have c323 : Kt p e below T306 st0 (mkF m 328 #[vi k_, vj j_, .second, vi m_, vi p_, vj q_, .second, vi 0, vi cx0, vi cx1, vi cx2, vr b10, vr b16, vi pcv, vi tl, vi ts, vi md, vr b40, vr b253, vr b307] [(rr b253), (rr b16)]) := fun t k => by
   refine c306 t ?_
   show S_ p e below T306 m 322 #[vi k_, vj j_, .second, vi m_, vi p_, vj q_, .second, vi 0, vi cx0, vi cx1, vi cx2, vr b10, vr b16, vi pcv, vi tl, vi ts, vi md, vr b40, vr b253, u_] [(rr b307)] t
   refine XS.astore X306.here hx rfl (hb hby at_322) rfl rfl (l' := #[vi k_, vj j_, .second, vi m_, vi p_, vj q_, .second, vi 0, vi cx0, vi cx1, vi cx2, vr b10, vr b16, vi pcv, vi tl, vi ts, vi md, vr b40, vr b253, vr b307]) rfl ?_
   refine XS.aload X306.here hx rfl (hb hby at_324) rfl rfl ?_
   refine XS.aload X306.here hx rfl (hb hby at_326) rfl rfl ?_
   exact k
  obtain ⟨_, T324, L324, X324, hQ324, c324⟩ := kvirt X306 hx hZ272 hown272 (w105 hw) (w106 hw) (w108 hw) (w107 hw) (w109 hw) (w49 hw) (rm_gr_0 l Z a0 hw [] b253 b254 k255 j_ b16 b29 k30 [] si1_ sv6_ T306.heap n0 o315 (((p258.ext E272).keep K291).keep K309) (((p259.ext E272).keep K291 nin0).keep K309 nin0) (((p260.ext E272).keep K291 nin0).keep K309 nin0) (((p261.ext E272).keep K291 nin0).keep K309 nin0) (((p262.ext E272).keep K291 nin0).keep K309 nin0) ((((((((p27.ext E40).keep K47).keep K225).keep K240).keep K257).ext E272).keep K291).keep K309) f320 f321 f322 ZS0_ sn4_ ZS3_ sv6_r) rfl (((p258.ext E272).keep K291).keep K309) c323 hml pd_prLjava_lang_String_ [] [(rr b16)] 1 (hb hby at_328) rfl rfl rfl rfl rfl rfl
  obtain ⟨rfl, N325q, K326⟩ := hQ324
  have N325 := Fr.app N308 N325q
  obtain ⟨_, T327, L327, X327, hQ327, c327⟩ := kvirt X324 hx hZ272 hown272 (w138 hw) (w139 hw) (w141 hw) (w140 hw) (w142 hw) (w3 hw) (rm_eqs l Z a0 hw [] b16 T306.heap n0 o315 ) K326 ((((((((p27.ext E40).keep K47).keep K225).keep K240).keep K257).ext E272).keep K291).keep K309) c324 hml pd_pLjava_lang_Object_rZ [(rr b16)] [] 0 (hb hby at_331) rfl rfl rfl rfl rfl rfl
  obtain ⟨rfl, N328q, K329⟩ := hQ327
  have N328 := Fr.app N325 N328q
  have c330 : Kt p e below T327 st0 (mkF m 339 #[vi k_, vj j_, .second, vi m_, vi p_, vj q_, .second, vi 0, vi cx0, vi cx1, vi cx2, vr b10, vr b16, vi pcv, vi tl, vi ts, vi md, vr b40, vr b253, vr b307] [(rr b253)]) := fun t k => by
   refine c327 t ?_
   show S_ p e below T327 m 334 #[vi k_, vj j_, .second, vi m_, vi p_, vj q_, .second, vi 0, vi cx0, vi cx1, vi cx2, vr b10, vr b16, vi pcv, vi tl, vi ts, vi md, vr b40, vr b253, vr b307] [(ii 1)] t
   refine XS.ifNo X327.here hx rfl (hb hby at_334) rfl rfl ?_
   refine XS.aload X327.here hx rfl (hb hby at_337) rfl rfl ?_
   exact k
  obtain ⟨_, T331, L331, X331, hQ331, c331⟩ := kvirt X327 hx hZ272 hown272 (w143 hw) (w120 hw) (w122 hw) (w121 hw) (w123 hw) (w49 hw) (rm_gc l Z a0 hw [] b253 b254 k255 [(ii 0), (ii 0)] T306.heap n0 o315 (((p261.ext E272).keep K291 nin0).keep K309 nin0) (((p262.ext E272).keep K291 nin0).keep K309 nin0)) K329 (((p258.ext E272).keep K291).keep K309) c330 hml pd_prI [] [] 0 (hb hby at_339) rfl rfl rfl rfl rfl rfl
  obtain ⟨rfl, N332q, K333⟩ := hQ331
  have N332 := Fr.app N328 N332q
  have c334 : Kt p e below T331 st0 (mkF m 347 #[vi k_, vj j_, .second, vi m_, vi p_, vj q_, .second, vi 0, vi cx0, vi cx1, vi cx2, vr b10, vr b16, vi pcv, vi tl, vi ts, vi md, vr b40, vr b253, vr b307] [(rr b307)]) := fun t k => by
   refine c331 t ?_
   show S_ p e below T331 m 342 #[vi k_, vj j_, .second, vi m_, vi p_, vj q_, .second, vi 0, vi cx0, vi cx1, vi cx2, vr b10, vr b16, vi pcv, vi tl, vi ts, vi md, vr b40, vr b253, vr b307] [(ii 0)] t
   refine XS.ifNo X331.here hx rfl (hb hby at_342) rfl rfl ?_
   refine XS.aload X331.here hx rfl (hb hby at_345) rfl rfl ?_
   exact k
  obtain ⟨_, T335, L335, X335, hQ335, c335⟩ := kvirt X331 hx hZ272 hown272 (w144 hw) (w145 hw) (w147 hw) (w146 hw) (w148 hw) (w49 hw) (rm_start_0 l Z a0 hw [] b307 b16 b254 k255 T306.heap n0 o315 p310 p311 f319 p313 (((p262.ext E272).keep K291 nin0).keep K309 nin0)) K333 p310 c334 hml pd_prI [] [] 0 (hb hby at_347) rfl rfl rfl rfl rfl rfl
  obtain ⟨rfl, N336q, K337⟩ := hQ335
  have N336 := Fr.app N332 N336q
  have c338 : Kt p e below T335 st0 (mkF m 355 #[vi k_, vj j_, .second, vi m_, vi p_, vj q_, .second, vi 0, vi cx0, vi cx1, vi cx2, vr b10, vr b16, vi pcv, vi tl, vi ts, vi md, vr b40, vr b253, vr b307] [(rr b307)]) := fun t k => by
   refine c335 t ?_
   show S_ p e below T335 m 350 #[vi k_, vj j_, .second, vi m_, vi p_, vj q_, .second, vi 0, vi cx0, vi cx1, vi cx2, vr b10, vr b16, vi pcv, vi tl, vi ts, vi md, vr b40, vr b253, vr b307] [(ii 0)] t
   refine XS.ifNo X335.here hx rfl (hb hby at_350) rfl rfl ?_
   refine XS.aload X335.here hx rfl (hb hby at_353) rfl rfl ?_
   exact k
  obtain ⟨_, T339, L339, X339, hQ339, c339⟩ := kvirt X335 hx hZ272 hown272 (w162 hw) (w163 hw) (w165 hw) (w164 hw) (w166 hw) (w49 hw) (rm_end_0 l Z a0 hw [] b307 b16 b254 k255 T306.heap n0 o315 p310 p311 f319 p313 (((p262.ext E272).keep K291 nin0).keep K309 nin0)) K337 p310 c338 hml pd_prI [] [] 0 (hb hby at_355) rfl rfl rfl rfl rfl rfl
  obtain ⟨rfl, N340q, K341⟩ := hQ339
  have N340 := Fr.app N336 N340q
  obtain ⟨fs, hr, hrun, hended, hRW⟩ := X339.leaveW hS272 (by first | exact (Nat.le_trans hk272 (Nat.le_trans K291.1 K309.1)) | (rw [K341]; exact (Nat.le_trans hk272 (Nat.le_trans K291.1 K309.1)))) (v := some (ii 1)) (fun h => by rw [Bd.returns] at h; cases h)
  refine ⟨_, _, c339 _ ?_, hrun, hended, _, _, rfl, ?_, hRW.1, hRW.2.1, hRW.2.2.1, hRW.2.2.2.mono (by decide) (by decide)⟩
  ·show S_ p e below T339 m 358 #[vi k_, vj j_, .second, vi m_, vi p_, vj q_, .second, vi 0, vi cx0, vi cx1, vi cx2, vr b10, vr b16, vi pcv, vi tl, vi ts, vi md, vr b40, vr b253, vr b307] [(ii 0)] _
   refine XS.iload X339.here hx rfl (hb hby at_358) rfl ?_
   refine XS.icmpNo X339.here hx rfl (hb hby at_360) rfl rfl ?_
   refine XS.iconst X339.here hx rfl (hb hby at_363) ?_
   refine yG X339.here hx rfl 364 368 rfl (hb hby at_364) ?_
   show S_ p e below T339 m 368 #[vi k_, vj j_, .second, vi m_, vi p_, vj q_, .second, vi 0, vi cx0, vi cx1, vi cx2, vr b10, vr b16, vi pcv, vi tl, vi ts, vi md, vr b40, vr b253, vr b307] [(ii 1)] _
   exact retN X339 hx (t := .boolean) Bd.returns (by simp) (hb hby at_368) hr
  ·show Q_law Z k_ j_ m_ p_ q_ si1_ sv6_ h0 n0 _ T339.heap _
   rw [K341]
   exact ⟨rfl, N340, kp316⟩
 ·rw [hv8] at c1
  have c342 : Kt p e below s₁ st0 (mkF m 58 #[vi k_, vj j_, .second, vi m_, vi p_, vj q_, .second, vi 1, vi cx0, vi cx1, vi cx2, u_, u_, u_, u_, u_, u_, u_, u_, u_] [(ii 1)]) := fun t k => by
   refine c1 t ?_
   show S_ p e below s₁ m 38 #[vi k_, vj j_, .second, vi m_, vi p_, vj q_, .second, vi 1, vi cx0, vi cx1, vi cx2, u_, u_, u_, u_, u_, u_, u_, u_, u_] [] t
   refine XS.iload X0.here hx rfl (hb hby at_38) rfl ?_
   refine yI X0.here hx rfl 40 51 rfl (hb hby at_40) rfl rfl ?_
   refine XS.iload X0.here hx rfl (hb hby at_51) rfl ?_
   refine XS.iconst X0.here hx rfl (hb hby at_53) ?_
   show S_ p e below s₁ m 54 #[vi k_, vj j_, .second, vi m_, vi p_, vj q_, .second, vi 1, vi cx0, vi cx1, vi cx2, u_, u_, u_, u_, u_, u_, u_, u_, u_] [(ii 1), (ii 1)] t
   refine XS.icmpNo X0.here hx rfl (hb hby at_54) rfl rfl ?_
   refine XS.iconst X0.here hx rfl (hb hby at_57) ?_
   exact k
  obtain ⟨b343, T343, h343, k343, z343, g343, X343, e343, E343, o344, A343, c343⟩ := knewP (aty := .char) X0 hx hZ (w0 hw) e0 c342 rfl (hb hby at_58) rfl (by decide) 1 (by decide) (by decide) (by decide) (by decide) O0
  have kp346 := kp0.ext E343
  have z347 := Nat.le_trans kp0.1 z343
  have f345 : Arv Z h343 b343 k343 .char (1 : Int32) [(ii 0)] (ii 0) := A343.pad (pad_rep [] (ii 0) 1)
  have c348 : Kt p e below T343 st0 (mkF m 64 #[vi k_, vj j_, .second, vi m_, vi p_, vj q_, .second, vi 1, vi cx0, vi cx1, vi cx2, u_, u_, u_, u_, u_, u_, u_, u_, u_] [(.int cx0), (ii 0), (rr b343), (rr b343)]) := fun t k => by
   refine c343 t ?_
   show S_ p e below T343 m 60 #[vi k_, vj j_, .second, vi m_, vi p_, vj q_, .second, vi 1, vi cx0, vi cx1, vi cx2, u_, u_, u_, u_, u_, u_, u_, u_, u_] [(rr b343)] t
   refine XS.dup X343.here hx rfl (hb hby at_60) rfl rfl ?_
   refine XS.iconst X343.here hx rfl (hb hby at_61) ?_
   refine XS.iload X343.here hx rfl (hb hby at_62) rfl ?_
   exact k
  obtain ⟨T349, h349, X349, e349, W349, f352, o350, N351, c349⟩ := kstC X343 hx hZ e343 f345 (j := (0 : Int32)) (by decide) (by decide) 0 rfl (Nat.le_of_ble_eq_true rfl) c348 rfl rfl (hb hby at_64) o344 N0 g343
  rw [hg2] at W349 f352
  have f353 : Arv Z h349 b343 k343 .char (1 : Int32) [(.int cx0)] (ii 0) := f352
  have kp354 := kp346.wr W349 (Or.inr z347)
  have c355 : Kt p e below T349 st0 (mkF m 114 #[vi k_, vj j_, .second, vi m_, vi p_, vj q_, .second, vi 1, vi cx0, vi cx1, vi cx2, vr b343, u_, u_, u_, u_, u_, u_, u_, u_] []) := fun t k => by
   refine c349 t ?_
   show S_ p e below T349 m 65 #[vi k_, vj j_, .second, vi m_, vi p_, vj q_, .second, vi 1, vi cx0, vi cx1, vi cx2, u_, u_, u_, u_, u_, u_, u_, u_, u_] [(rr b343)] t
   refine XS.astore X349.here hx rfl (hb hby at_65) rfl rfl (l' := #[vi k_, vj j_, .second, vi m_, vi p_, vj q_, .second, vi 1, vi cx0, vi cx1, vi cx2, vr b343, u_, u_, u_, u_, u_, u_, u_, u_]) rfl ?_
   refine yG X349.here hx rfl 67 114 rfl (hb hby at_67) ?_
   exact k
  obtain ⟨b356, T356, h356, z356, g356, X356, e356, E356, o357, A356, D356, U356, c356⟩ := knew X349 hx hZ hown (w1 hw) (w2 hw) (w3 hw) e349 c355 rfl (hb hby at_114) (by decide) (by decide) o350
  have kp358 := kp354.ext E356
  have z359 := Nat.le_trans kp354.1 z356
  have c360 : Kt p e below T356 st0 (mkF m 120 #[vi k_, vj j_, .second, vi m_, vi p_, vj q_, .second, vi 1, vi cx0, vi cx1, vi cx2, vr b343, u_, u_, u_, u_, u_, u_, u_, u_] [(rr b343), (rr b356), (rr b356)]) := fun t k => by
   refine c356 t ?_
   show S_ p e below T356 m 117 #[vi k_, vj j_, .second, vi m_, vi p_, vj q_, .second, vi 1, vi cx0, vi cx1, vi cx2, vr b343, u_, u_, u_, u_, u_, u_, u_, u_] [(rr b356)] t
   refine XS.dup X356.here hx rfl (hb hby at_117) rfl rfl ?_
   refine XS.aload X356.here hx rfl (hb hby at_118) rfl rfl ?_
   exact k
  obtain ⟨_, T361, L361, X361, hQ361, c361⟩ := kspec X356 hx hZ hown (w4 hw) (w5 hw) (w3 hw) (w6 hw) (rm_str1_1 l Z a0 hw [] b356 b343 k343 si1_ cx0 h356 n0 o357 A356 (show Fld Z h356 b356 nm0 "value" "[B" .null from D356 (Or.inr (w16 hw)) (ty := (.array .byte)) (by decide)) (show Fld Z h356 b356 nm0 "coder" "B" (ii 0) from D356 (Or.inr (w17 hw)) (ty := .byte) (by decide)) g356 (f353.ext E356) ZS0_ sn4_ hg3) e356 c360 hml pd_pACrV b356 [(rr b343)] [(rr b356)] 1 (hb hby at_120) rfl rfl rfl rfl rfl rfl
  obtain ⟨rfl, N362q, K363, p364, p365, b366, k367, p368, p369, p370, p371⟩ := hQ361
  have N362 := Fr.app N351 N362q
  have o372 := o357.keep K363 (allS g356 all0)
  have kp373 := kp358.trans K363 (allS (Or.inr z359) all0)
  have z374 := Nat.le_trans kp358.1 p371
  have g375 := Nat.le_trans (Nat.le_trans (Nat.le_of_eq o357.1.symm) o357.2.1) p371
  have c376 : Kt p e below T361 st0 (mkF m 134 #[vi k_, vj j_, .second, vi m_, vi p_, vj q_, .second, vi 1, vi cx0, vi cx1, vi cx2, vr b343, vr b356, .val (.int ((p_ &&& (255 : Int32)).toUInt32.toUInt16.toUInt32.toInt32)), u_, u_, u_, u_, u_, u_] []) := fun t k => by
   refine c361 t ?_
   show S_ p e below T361 m 123 #[vi k_, vj j_, .second, vi m_, vi p_, vj q_, .second, vi 1, vi cx0, vi cx1, vi cx2, vr b343, u_, u_, u_, u_, u_, u_, u_, u_] [(rr b356)] t
   refine XS.astore X361.here hx rfl (hb hby at_123) rfl rfl (l' := #[vi k_, vj j_, .second, vi m_, vi p_, vj q_, .second, vi 1, vi cx0, vi cx1, vi cx2, vr b343, vr b356, u_, u_, u_, u_, u_, u_, u_]) rfl ?_
   refine XS.iload X361.here hx rfl (hb hby at_125) rfl ?_
   refine XS.sipush X361.here hx rfl (hb hby at_127) ?_
   refine XS.iand X361.here hx rfl (hb hby at_130) rfl ?_
   show S_ p e below T361 m 131 #[vi k_, vj j_, .second, vi m_, vi p_, vj q_, .second, vi 1, vi cx0, vi cx1, vi cx2, vr b343, vr b356, u_, u_, u_, u_, u_, u_, u_] [(.int (p_ &&& (255 : Int32)))] t
   refine XS.i2c X361.here hx rfl (hb hby at_131) rfl ?_
   refine XS.istore X361.here hx rfl (hb hby at_132) rfl (l' := #[vi k_, vj j_, .second, vi m_, vi p_, vj q_, .second, vi 1, vi cx0, vi cx1, vi cx2, vr b343, vr b356, .val (.int ((p_ &&& (255 : Int32)).toUInt32.toUInt16.toUInt32.toInt32)), u_, u_, u_, u_, u_, u_]) rfl ?_
   exact k
  obtain ⟨pcv, pcvq⟩ : ∃ z, z = ((p_ &&& (255 : Int32)).toUInt32.toUInt16.toUInt32.toInt32) := ⟨_, rfl⟩
  rw [← pcvq] at c376
  have hg377 : nar .char pcv = pcv := by rw [pcvq]; exact own_cc _
  have hg378 : ¬ ((255 : Int32) < pcv) := by rw [pcvq]; exact own_small2 _
  have c379 : Kt p e below T361 st0 (mkF m 168 #[vi k_, vj j_, .second, vi m_, vi p_, vj q_, .second, vi 1, vi cx0, vi cx1, vi cx2, vr b343, vr b356, vi pcv, .val (.int ((((p_.toUInt32 >>> ((8 : Int32) &&& 31).toUInt32).toInt32) &&& (255 : Int32)) % (3 : Int32))), .val (.int ((((p_.toUInt32 >>> ((16 : Int32) &&& 31).toUInt32).toInt32) &&& (255 : Int32)).toUInt32.toUInt16.toUInt32.toInt32)), .val (.int ((m_ &&& (2147483647 : Int32)) % (6 : Int32))), u_, u_, u_] []) := fun t k => by
   refine c376 t ?_
   show S_ p e below T361 m 134 #[vi k_, vj j_, .second, vi m_, vi p_, vj q_, .second, vi 1, vi cx0, vi cx1, vi cx2, vr b343, vr b356, vi pcv, u_, u_, u_, u_, u_, u_] [] t
   refine XS.iload X361.here hx rfl (hb hby at_134) rfl ?_
   refine XS.bipush X361.here hx rfl (hb hby at_136) ?_
   refine XS.iushr X361.here hx rfl (hb hby at_138) rfl ?_
   refine XS.sipush X361.here hx rfl (hb hby at_139) ?_
   show S_ p e below T361 m 142 #[vi k_, vj j_, .second, vi m_, vi p_, vj q_, .second, vi 1, vi cx0, vi cx1, vi cx2, vr b343, vr b356, vi pcv, u_, u_, u_, u_, u_, u_] [(ii 255), (.int ((p_.toUInt32 >>> ((8 : Int32) &&& 31).toUInt32).toInt32))] t
   refine XS.iand X361.here hx rfl (hb hby at_142) rfl ?_
   refine XS.iconst X361.here hx rfl (hb hby at_143) ?_
   show S_ p e below T361 m 144 #[vi k_, vj j_, .second, vi m_, vi p_, vj q_, .second, vi 1, vi cx0, vi cx1, vi cx2, vr b343, vr b356, vi pcv, u_, u_, u_, u_, u_, u_] [(ii 3), (.int (((p_.toUInt32 >>> ((8 : Int32) &&& 31).toUInt32).toInt32) &&& (255 : Int32)))] t
   refine iremM X361 hx rfl (hb hby at_144) rfl (by decide) ?_
   refine XS.istore X361.here hx rfl (hb hby at_145) rfl (l' := #[vi k_, vj j_, .second, vi m_, vi p_, vj q_, .second, vi 1, vi cx0, vi cx1, vi cx2, vr b343, vr b356, vi pcv, .val (.int ((((p_.toUInt32 >>> ((8 : Int32) &&& 31).toUInt32).toInt32) &&& (255 : Int32)) % (3 : Int32))), u_, u_, u_, u_, u_]) rfl ?_
   refine XS.iload X361.here hx rfl (hb hby at_147) rfl ?_
   refine XS.bipush X361.here hx rfl (hb hby at_149) ?_
   show S_ p e below T361 m 151 #[vi k_, vj j_, .second, vi m_, vi p_, vj q_, .second, vi 1, vi cx0, vi cx1, vi cx2, vr b343, vr b356, vi pcv, .val (.int ((((p_.toUInt32 >>> ((8 : Int32) &&& 31).toUInt32).toInt32) &&& (255 : Int32)) % (3 : Int32))), u_, u_, u_, u_, u_] [(ii 16), (.int p_)] t
   refine XS.iushr X361.here hx rfl (hb hby at_151) rfl ?_
   refine XS.sipush X361.here hx rfl (hb hby at_152) ?_
   refine XS.iand X361.here hx rfl (hb hby at_155) rfl ?_
   refine XS.i2c X361.here hx rfl (hb hby at_156) rfl ?_
   show S_ p e below T361 m 157 #[vi k_, vj j_, .second, vi m_, vi p_, vj q_, .second, vi 1, vi cx0, vi cx1, vi cx2, vr b343, vr b356, vi pcv, .val (.int ((((p_.toUInt32 >>> ((8 : Int32) &&& 31).toUInt32).toInt32) &&& (255 : Int32)) % (3 : Int32))), u_, u_, u_, u_, u_] [(.int ((((p_.toUInt32 >>> ((16 : Int32) &&& 31).toUInt32).toInt32) &&& (255 : Int32)).toUInt32.toUInt16.toUInt32.toInt32))] t
   refine XS.istore X361.here hx rfl (hb hby at_157) rfl (l' := #[vi k_, vj j_, .second, vi m_, vi p_, vj q_, .second, vi 1, vi cx0, vi cx1, vi cx2, vr b343, vr b356, vi pcv, .val (.int ((((p_.toUInt32 >>> ((8 : Int32) &&& 31).toUInt32).toInt32) &&& (255 : Int32)) % (3 : Int32))), .val (.int ((((p_.toUInt32 >>> ((16 : Int32) &&& 31).toUInt32).toInt32) &&& (255 : Int32)).toUInt32.toUInt16.toUInt32.toInt32)), u_, u_, u_, u_]) rfl ?_
   refine XS.iloadN X361.here hx rfl (hb hby at_159) rfl ?_
   show S_ p e below T361 m 160 #[vi k_, vj j_, .second, vi m_, vi p_, vj q_, .second, vi 1, vi cx0, vi cx1, vi cx2, vr b343, vr b356, vi pcv, .val (.int ((((p_.toUInt32 >>> ((8 : Int32) &&& 31).toUInt32).toInt32) &&& (255 : Int32)) % (3 : Int32))), .val (.int ((((p_.toUInt32 >>> ((16 : Int32) &&& 31).toUInt32).toInt32) &&& (255 : Int32)).toUInt32.toUInt16.toUInt32.toInt32)), u_, u_, u_, u_] [(.int m_)] t
   refine X361.ldcInt hx hown (mvT hZ (w22 hw)) (g := (mkF m 160 #[vi k_, vj j_, .second, vi m_, vi p_, vj q_, .second, vi 1, vi cx0, vi cx1, vi cx2, vr b343, vr b356, vi pcv, .val (.int ((((p_.toUInt32 >>> ((8 : Int32) &&& 31).toUInt32).toInt32) &&& (255 : Int32)) % (3 : Int32))), .val (.int ((((p_.toUInt32 >>> ((16 : Int32) &&& 31).toUInt32).toInt32) &&& (255 : Int32)).toUInt32.toUInt16.toUInt32.toInt32)), u_, u_, u_, u_] [(.int m_)])) rfl (hb hby at_160) _ ?_
   refine XS.iand X361.here hx rfl (hb hby at_162) rfl ?_
   refine XS.bipush X361.here hx rfl (hb hby at_163) ?_
   show S_ p e below T361 m 165 #[vi k_, vj j_, .second, vi m_, vi p_, vj q_, .second, vi 1, vi cx0, vi cx1, vi cx2, vr b343, vr b356, vi pcv, .val (.int ((((p_.toUInt32 >>> ((8 : Int32) &&& 31).toUInt32).toInt32) &&& (255 : Int32)) % (3 : Int32))), .val (.int ((((p_.toUInt32 >>> ((16 : Int32) &&& 31).toUInt32).toInt32) &&& (255 : Int32)).toUInt32.toUInt16.toUInt32.toInt32)), u_, u_, u_, u_] [(ii 6), (.int (m_ &&& (2147483647 : Int32)))] t
   refine iremM X361 hx rfl (hb hby at_165) rfl (by decide) ?_
   refine XS.istore X361.here hx rfl (hb hby at_166) rfl (l' := #[vi k_, vj j_, .second, vi m_, vi p_, vj q_, .second, vi 1, vi cx0, vi cx1, vi cx2, vr b343, vr b356, vi pcv, .val (.int ((((p_.toUInt32 >>> ((8 : Int32) &&& 31).toUInt32).toInt32) &&& (255 : Int32)) % (3 : Int32))), .val (.int ((((p_.toUInt32 >>> ((16 : Int32) &&& 31).toUInt32).toInt32) &&& (255 : Int32)).toUInt32.toUInt16.toUInt32.toInt32)), .val (.int ((m_ &&& (2147483647 : Int32)) % (6 : Int32))), u_, u_, u_]) rfl ?_
   exact k
  obtain ⟨md, mdq⟩ : ∃ z, z = ((m_ &&& (2147483647 : Int32)) % (6 : Int32)) := ⟨_, rfl⟩
  rw [← mdq] at c379
  obtain ⟨tl, tlq⟩ : ∃ z, z = ((((p_.toUInt32 >>> ((8 : Int32) &&& 31).toUInt32).toInt32) &&& (255 : Int32)) % (3 : Int32)) := ⟨_, rfl⟩
  rw [← tlq] at c379
  obtain ⟨ts, tsq⟩ : ∃ z, z = ((((p_.toUInt32 >>> ((16 : Int32) &&& 31).toUInt32).toInt32) &&& (255 : Int32)).toUInt32.toUInt16.toUInt32.toInt32) := ⟨_, rfl⟩
  rw [← tsq] at c379
  obtain ⟨b380, T380, h380, z380, g380, X380, e380, E380, o381, A380, D380, U380, c380⟩ := knew X361 hx hZ hown (w23 hw) (w24 hw) (w25 hw) rfl c379 rfl (hb hby at_168) (by decide) (by decide) o372
  have kp382 := kp373.ext E380
  have z383 := Nat.le_trans kp373.1 z380
  have c384 : Kt p e below T380 st0 (mkF m 172 #[vi k_, vj j_, .second, vi m_, vi p_, vj q_, .second, vi 1, vi cx0, vi cx1, vi cx2, vr b343, vr b356, vi pcv, vi tl, vi ts, vi md, u_, u_, u_] [(rr b380), (rr b380)]) := fun t k => by
   refine c380 t ?_
   show S_ p e below T380 m 171 #[vi k_, vj j_, .second, vi m_, vi p_, vj q_, .second, vi 1, vi cx0, vi cx1, vi cx2, vr b343, vr b356, vi pcv, vi tl, vi ts, vi md, u_, u_, u_] [(rr b380)] t
   refine XS.dup X380.here hx rfl (hb hby at_171) rfl rfl ?_
   exact k
  obtain ⟨_, T385, L385, X385, hQ385, c385⟩ := kspec X380 hx hZ hown (w26 hw) (w27 hw) (w25 hw) (w28 hw) (rm_lminit l Z a0 hw [] b380 h380 n0 o381 A380 g380 (show Fld Z h380 b380 nm1 "made" nm10 .null from D380 (Or.inl (w80 hw)) (ty := (.object nm2)) (by decide)) (show Fld Z h380 b380 nm1 "read" nm3 .null from D380 (Or.inl (w82 hw)) (ty := (.object nm0)) (by decide)) (show Fld Z h380 b380 nm1 "copiedLength" "I" (ii 0) from D380 (Or.inl (w31 hw)) (ty := .int) (by decide)) (show Fld Z h380 b380 nm1 "offset" "J" (.long (0 : Int64)) from D380 (Or.inl (w90 hw)) (ty := .long) (by decide)) (show Fld Z h380 b380 nm1 "terminatorLength" "I" (ii 0) from D380 (Or.inl (w92 hw)) (ty := .int) (by decide)) (show Fld Z h380 b380 nm1 "copied" "[C" .null from D380 (Or.inl (w197 hw)) (ty := (.array .char)) (by decide)) (show Fld Z h380 b380 nm1 "terminatorStart" "C" (ii 0) from D380 (Or.inl (w178 hw)) (ty := .char) (by decide)) (show Fld Z h380 b380 nm1 "terminatorRead" "Z" (ii 0) from D380 (Or.inl (w180 hw)) (ty := .boolean) (by decide))) e380 c384 hml pd_prV b380 [] [(rr b380)] 1 (hb hby at_172) rfl rfl rfl rfl rfl rfl
  obtain ⟨rfl, N386q, K387, p388, p389, p390, p391, p392, p393, p394, p395, p396⟩ := hQ385
  have N386 := Fr.app N362 N386q
  have o397 := o381.keep K387 (allS g380 all0)
  have kp398 := kp382.trans K387 (allS (Or.inr z383) all0)
  have c399 : Kt p e below T385 st0 (mkF m 177 #[vi k_, vj j_, .second, vi m_, vi p_, vj q_, .second, vi 1, vi cx0, vi cx1, vi cx2, vr b343, vr b356, vi pcv, vi tl, vi ts, vi md, vr b380, u_, u_] []) := fun t k => by
   refine c385 t ?_
   show S_ p e below T385 m 175 #[vi k_, vj j_, .second, vi m_, vi p_, vj q_, .second, vi 1, vi cx0, vi cx1, vi cx2, vr b343, vr b356, vi pcv, vi tl, vi ts, vi md, u_, u_, u_] [(rr b380)] t
   refine XS.astore X385.here hx rfl (hb hby at_175) rfl rfl (l' := #[vi k_, vj j_, .second, vi m_, vi p_, vj q_, .second, vi 1, vi cx0, vi cx1, vi cx2, vr b343, vr b356, vi pcv, vi tl, vi ts, vi md, vr b380, u_, u_]) rfl ?_
   exact k
  obtain ⟨mv560, mv561, mv562, mv563, mv564, T565, h565, L565, X565, e565, o565, K565, kp565, N565, f566, f567, f568, f569, f570, c565⟩ : ∃ (mv560 : Int32), ∃ (mv561 : Value), ∃ (mv562 : Value), ∃ (mv563 : Int64), ∃ (mv564 : Int32), ∃ (T565 : State) (h565 : Heap) (L565 : List Loc), Stand p l e room_1 (s.setVm s.vm) m #[(.int k_), (.long j_), (.int m_), (.int p_), (.long q_)] below meth c T565 L565 8 79 ∧ T565.heap = h565 ∧ Old Z n0 h565 ∧ Keep T385.heap h565 [b380] ∧ Keep h0 h565 [] ∧ Fr n0 L565 ∧ Fld Z h565 b380 nm1 "copiedLength" "I" (.int mv560) ∧ Fld Z h565 b380 nm1 "made" nm10 mv561 ∧ Fld Z h565 b380 nm1 "read" nm3 mv562 ∧ Fld Z h565 b380 nm1 "offset" "J" (.long mv563) ∧ Fld Z h565 b380 nm1 "terminatorLength" "I" (.int mv564) ∧ Kt p e below T565 st0 (mkF m 288 #[vi k_, vj j_, .second, vi m_, vi p_, vj q_, .second, vi 1, vi cx0, vi cx1, vi cx2, vr b343, vr b356, vi pcv, vi tl, vi ts, vi md, vr b380, u_, u_] []) := by
   have c400 : Kt p e below T385 st0 (mkF m 180 #[vi k_, vj j_, .second, vi m_, vi p_, vj q_, .second, vi 1, vi cx0, vi cx1, vi cx2, vr b343, vr b356, vi pcv, vi tl, vi ts, vi md, vr b380, u_, u_] [(ii 1), (.int md)]) := fun t k => by
    refine c399 t ?_
    show S_ p e below T385 m 177 #[vi k_, vj j_, .second, vi m_, vi p_, vj q_, .second, vi 1, vi cx0, vi cx1, vi cx2, vr b343, vr b356, vi pcv, vi tl, vi ts, vi md, vr b380, u_, u_] [] t
    refine XS.iload X385.here hx rfl (hb hby at_177) rfl ?_
    refine XS.iconst X385.here hx rfl (hb hby at_179) ?_
    exact k
   by_cases hc401 : md = (1 : Int32)
   ·have c402 : Kt p e below T385 st0 (mkF m 187 #[vi k_, vj j_, .second, vi m_, vi p_, vj q_, .second, vi 1, vi cx0, vi cx1, vi cx2, vr b343, vr b356, vi pcv, vi tl, vi ts, vi md, vr b380, u_, u_] [(.int pcv), (rr b380)]) := fun t k => by
     refine c400 t ?_
     show S_ p e below T385 m 180 #[vi k_, vj j_, .second, vi m_, vi p_, vj q_, .second, vi 1, vi cx0, vi cx1, vi cx2, vr b343, vr b356, vi pcv, vi tl, vi ts, vi md, vr b380, u_, u_] [(ii 1), (.int md)] t
     refine XS.icmpNo X385.here hx rfl (hb hby at_180) rfl (teq hc401).2 ?_
     refine XS.aload X385.here hx rfl (hb hby at_183) rfl rfl ?_
     refine XS.iload X385.here hx rfl (hb hby at_185) rfl ?_
     exact k
    obtain ⟨_, T403, L403, X403, hQ403, c403⟩ := kstat X385 hx hZ hown (w32 hw) (w33 hw) (w3 hw) (w34 hw) (rm_svo l Z a0 hw [] pcv si1_ T385.heap n0 o397 ZS0_ sn4_ hg378) rfl c402 hml pd_pCrLjava_lang_String_ [(.int pcv)] [(rr b380)] 1 (hb hby at_187) rfl rfl rfl rfl rfl rfl
    obtain ⟨b404, rfl, N405q, K406, p407, p408, b409, k410, p411, p412, p413⟩ := hQ403
    have N405 := Fr.app N386 N405q
    have o414 := o397.keep K406 all0
    have kp415 := kp398.trans K406 all0
    have z416 := Nat.le_trans kp398.1 p413
    have g417 := Nat.le_trans (Nat.le_trans (Nat.le_of_eq o397.1.symm) o397.2.1) p413
    have c418 : Kt p e below T403 st0 (mkF m 192 #[vi k_, vj j_, .second, vi m_, vi p_, vj q_, .second, vi 1, vi cx0, vi cx1, vi cx2, vr b343, vr b356, vi pcv, vi tl, vi ts, vi md, vr b380, u_, u_] [(.long q_), (rr b404), (rr b380)]) := fun t k => by
     refine c403 t ?_
     show S_ p e below T403 m 190 #[vi k_, vj j_, .second, vi m_, vi p_, vj q_, .second, vi 1, vi cx0, vi cx1, vi cx2, vr b343, vr b356, vi pcv, vi tl, vi ts, vi md, vr b380, u_, u_] [(rr b404), (rr b380)] t
     refine XS.lload X403.here hx rfl (hb hby at_190) rfl ?_
     exact k
    obtain ⟨_, T419, L419, X419, hQ419, c419⟩ := kstat X403 hx hZ hown (w47 hw) (w48 hw) (w49 hw) (w50 hw) (rm_mof_1 l Z a0 hw [] b404 b409 k410 [(.int (nar .byte (pcv.toInt8.toInt32)))] si1_ q_ T403.heap n0 o414 p407 p408 p411 p412 ZS0_ sn4_) rfl c418 hml pd_pLjava_lang_String_JrLgleaner_Match_ [(rr b404), (.long q_)] [(rr b380)] 1 (hb hby at_192) rfl rfl rfl rfl rfl rfl
    obtain ⟨b420, b421, k422, rfl, N423q, K424, p425, p426, p427, p428, p429, p430, p431, p432⟩ := hQ419
    have N423 := Fr.app N405 N423q
    have o433 := o414.keep K424 all0
    have kp434 := kp415.trans K424 all0
    have z435 := Nat.le_trans kp415.1 p431
    have g436 := Nat.le_trans (Nat.le_trans (Nat.le_of_eq o414.1.symm) o414.2.1) p431
    have z437 := Nat.le_trans kp415.1 p432
    have g438 := Nat.le_trans (Nat.le_trans (Nat.le_of_eq o414.1.symm) o414.2.1) p432
    obtain ⟨_, T439, L439, X439, hQ439, c439⟩ := kvirt X419 hx hZ hown (w74 hw) (w75 hw) (w77 hw) (w76 hw) (w78 hw) (w25 hw) (rm_set8R l Z a0 hw [] b380 b420 (.null) (.null) (-1 : Int32) (0 : Int64) (0 : Int32) (.null) (0 : Int32) (0 : Int32) T419.heap n0 o433 ((p388.keep K406).keep K424) g380 ((p389.keep K406 nin0).keep K424 nin0) ((p390.keep K406 nin0).keep K424 nin0) ((p391.keep K406 nin0).keep K424 nin0) ((p392.keep K406 nin0).keep K424 nin0) ((p393.keep K406 nin0).keep K424 nin0) ((p394.keep K406 nin0).keep K424 nin0) ((p395.keep K406 nin0).keep K424 nin0) ((p396.keep K406 nin0).keep K424 nin0)) rfl ((p388.keep K406).keep K424) c419 hml pd_pLgleaner_Match_rV [(rr b420)] [] 0 (hb hby at_195) rfl rfl rfl rfl rfl rfl
    obtain ⟨rfl, N440q, K441, p442, p443, p444, p445, p446, p447, p448, p449, p450⟩ := hQ439
    have N440 := Fr.app N423 N440q
    have o451 := o433.keep K441 (allS g380 all0)
    have kp452 := kp434.trans K441 (allS (Or.inr z383) all0)
    have c453 : Kt p e below T439 st0 (mkF m 288 #[vi k_, vj j_, .second, vi m_, vi p_, vj q_, .second, vi 1, vi cx0, vi cx1, vi cx2, vr b343, vr b356, vi pcv, vi tl, vi ts, vi md, vr b380, u_, u_] []) := fun t k => by
     refine c439 t ?_
     show S_ p e below T439 m 198 #[vi k_, vj j_, .second, vi m_, vi p_, vj q_, .second, vi 1, vi cx0, vi cx1, vi cx2, vr b343, vr b356, vi pcv, vi tl, vi ts, vi md, vr b380, u_, u_] [] t
     refine yG X439.here hx rfl 198 288 rfl (hb hby at_198) ?_
     exact k
    have K576 : Keep T385.heap T439.heap [b380] := ((((Keep.refl _ _).trans K406 all0).trans K424 all0).trans K441 (allS (Or.inl (List.mem_of_getElem? (i := 0) rfl)) all0))
    exact ⟨(-1 : Int32), (rr b420), .null, (0 : Int64), (0 : Int32), T439, _, _, X439.mono (by decide) (by decide), rfl, o451, K576, kp452, N440, p445, p443, p444, p446, p447, c453⟩
   ·have c454 : Kt p e below T385 st0 (mkF m 204 #[vi k_, vj j_, .second, vi m_, vi p_, vj q_, .second, vi 1, vi cx0, vi cx1, vi cx2, vr b343, vr b356, vi pcv, vi tl, vi ts, vi md, vr b380, u_, u_] [(ii 2), (.int md)]) := fun t k => by
     refine c400 t ?_
     show S_ p e below T385 m 180 #[vi k_, vj j_, .second, vi m_, vi p_, vj q_, .second, vi 1, vi cx0, vi cx1, vi cx2, vr b343, vr b356, vi pcv, vi tl, vi ts, vi md, vr b380, u_, u_] [(ii 1), (.int md)] t
     refine yC X385.here hx rfl 180 201 rfl (hb hby at_180) rfl (feq hc401).2 ?_
     refine XS.iload X385.here hx rfl (hb hby at_201) rfl ?_
     refine XS.iconst X385.here hx rfl (hb hby at_203) ?_
     exact k
    by_cases hc455 : md = (2 : Int32)
    ·have c456 : Kt p e below T385 st0 (mkF m 211 #[vi k_, vj j_, .second, vi m_, vi p_, vj q_, .second, vi 1, vi cx0, vi cx1, vi cx2, vr b343, vr b356, vi pcv, vi tl, vi ts, vi md, vr b380, u_, u_] [(.int pcv), (rr b380)]) := fun t k => by
      refine c454 t ?_
      show S_ p e below T385 m 204 #[vi k_, vj j_, .second, vi m_, vi p_, vj q_, .second, vi 1, vi cx0, vi cx1, vi cx2, vr b343, vr b356, vi pcv, vi tl, vi ts, vi md, vr b380, u_, u_] [(ii 2), (.int md)] t
      refine XS.icmpNo X385.here hx rfl (hb hby at_204) rfl (teq hc455).2 ?_
      refine XS.aload X385.here hx rfl (hb hby at_207) rfl rfl ?_
      refine XS.iload X385.here hx rfl (hb hby at_209) rfl ?_
      exact k
     obtain ⟨_, T457, L457, X457, hQ457, c457⟩ := kstat X385 hx hZ hown (w32 hw) (w33 hw) (w3 hw) (w34 hw) (rm_svo l Z a0 hw [] pcv si1_ T385.heap n0 o397 ZS0_ sn4_ hg378) rfl c456 hml pd_pCrLjava_lang_String_ [(.int pcv)] [(rr b380)] 1 (hb hby at_211) rfl rfl rfl rfl rfl rfl
     obtain ⟨b458, rfl, N459q, K460, p461, p462, b463, k464, p465, p466, p467⟩ := hQ457
     have N459 := Fr.app N386 N459q
     have o468 := o397.keep K460 all0
     have kp469 := kp398.trans K460 all0
     have z470 := Nat.le_trans kp398.1 p467
     have g471 := Nat.le_trans (Nat.le_trans (Nat.le_of_eq o397.1.symm) o397.2.1) p467
     have c472 : Kt p e below T457 st0 (mkF m 220 #[vi k_, vj j_, .second, vi m_, vi p_, vj q_, .second, vi 1, vi cx0, vi cx1, vi cx2, vr b343, vr b356, vi pcv, vi tl, vi ts, vi md, vr b380, u_, u_] [(.int ts), (.int tl), (.long q_), (rr b458), (rr b380)]) := fun t k => by
      refine c457 t ?_
      show S_ p e below T457 m 214 #[vi k_, vj j_, .second, vi m_, vi p_, vj q_, .second, vi 1, vi cx0, vi cx1, vi cx2, vr b343, vr b356, vi pcv, vi tl, vi ts, vi md, vr b380, u_, u_] [(rr b458), (rr b380)] t
      refine XS.lload X457.here hx rfl (hb hby at_214) rfl ?_
      refine XS.iload X457.here hx rfl (hb hby at_216) rfl ?_
      refine XS.iload X457.here hx rfl (hb hby at_218) rfl ?_
      exact k
     obtain ⟨_, T473, L473, X473, hQ473, c473⟩ := kvirt X457 hx hZ hown (w172 hw) (w173 hw) (w175 hw) (w174 hw) (w176 hw) (w25 hw) (rm_line l Z a0 hw [] b380 b458 q_ tl ts (.null) (.null) (-1 : Int32) (0 : Int64) (0 : Int32) (.null) (0 : Int32) (0 : Int32) T457.heap n0 o468 (p388.keep K460) g380 (p389.keep K460 nin0) (p390.keep K460 nin0) (p391.keep K460 nin0) (p392.keep K460 nin0) (p393.keep K460 nin0) (p394.keep K460 nin0) (p395.keep K460 nin0) (p396.keep K460 nin0)) rfl (p388.keep K460) c472 hml pd_pLjava_lang_String_JICrV [(rr b458), (.long q_), (.int tl), (.int ts)] [] 0 (hb hby at_220) rfl rfl rfl rfl rfl rfl
     obtain ⟨rfl, N474q, K475, p476, p477, p478, p479, p480, p481⟩ := hQ473
     have N474 := Fr.app N459 N474q
     have o482 := o468.keep K475 (allS g380 all0)
     have kp483 := kp469.trans K475 (allS (Or.inr z383) all0)
     have c484 : Kt p e below T473 st0 (mkF m 288 #[vi k_, vj j_, .second, vi m_, vi p_, vj q_, .second, vi 1, vi cx0, vi cx1, vi cx2, vr b343, vr b356, vi pcv, vi tl, vi ts, vi md, vr b380, u_, u_] []) := fun t k => by
      refine c473 t ?_
      show S_ p e below T473 m 223 #[vi k_, vj j_, .second, vi m_, vi p_, vj q_, .second, vi 1, vi cx0, vi cx1, vi cx2, vr b343, vr b356, vi pcv, vi tl, vi ts, vi md, vr b380, u_, u_] [] t
      refine yG X473.here hx rfl 223 288 rfl (hb hby at_223) ?_
      exact k
     have K575 : Keep T385.heap T473.heap [b380] := (((Keep.refl _ _).trans K460 all0).trans K475 (allS (Or.inl (List.mem_of_getElem? (i := 0) rfl)) all0))
     exact ⟨(-1 : Int32), .null, (rr b458), q_, tl, T473, _, _, X473.mono (by decide) (by decide), rfl, o482, K575, kp483, N474, p479, p477, p478, p480, p481, c484⟩
    ·have c485 : Kt p e below T385 st0 (mkF m 229 #[vi k_, vj j_, .second, vi m_, vi p_, vj q_, .second, vi 1, vi cx0, vi cx1, vi cx2, vr b343, vr b356, vi pcv, vi tl, vi ts, vi md, vr b380, u_, u_] [(ii 3), (.int md)]) := fun t k => by
      refine c454 t ?_
      show S_ p e below T385 m 204 #[vi k_, vj j_, .second, vi m_, vi p_, vj q_, .second, vi 1, vi cx0, vi cx1, vi cx2, vr b343, vr b356, vi pcv, vi tl, vi ts, vi md, vr b380, u_, u_] [(ii 2), (.int md)] t
      refine yC X385.here hx rfl 204 226 rfl (hb hby at_204) rfl (feq hc455).2 ?_
      refine XS.iload X385.here hx rfl (hb hby at_226) rfl ?_
      refine XS.iconst X385.here hx rfl (hb hby at_228) ?_
      exact k
     by_cases hc486 : md = (3 : Int32)
     ·have c487 : Kt p e below T385 st0 (mkF m 235 #[vi k_, vj j_, .second, vi m_, vi p_, vj q_, .second, vi 1, vi cx0, vi cx1, vi cx2, vr b343, vr b356, vi pcv, vi tl, vi ts, vi md, vr b380, u_, u_] [(ii 1), (rr b380)]) := fun t k => by
       refine c485 t ?_
       show S_ p e below T385 m 229 #[vi k_, vj j_, .second, vi m_, vi p_, vj q_, .second, vi 1, vi cx0, vi cx1, vi cx2, vr b343, vr b356, vi pcv, vi tl, vi ts, vi md, vr b380, u_, u_] [(ii 3), (.int md)] t
       refine XS.icmpNo X385.here hx rfl (hb hby at_229) rfl (teq hc486).2 ?_
       refine XS.aload X385.here hx rfl (hb hby at_232) rfl rfl ?_
       refine XS.iconst X385.here hx rfl (hb hby at_234) ?_
       exact k
      obtain ⟨b488, T488, h488, k488, z488, g488, X488, e488, E488, o489, A488, c488⟩ := knewP (aty := .char) X385 hx hZ (w0 hw) rfl c487 rfl (hb hby at_235) rfl (by decide) 1 (by decide) (by decide) (by decide) (by decide) o397
      have kp491 := kp398.ext E488
      have z492 := Nat.le_trans kp398.1 z488
      have f490 : Arv Z h488 b488 k488 .char (1 : Int32) [(ii 0)] (ii 0) := A488.pad (pad_rep [] (ii 0) 1)
      have c493 : Kt p e below T488 st0 (mkF m 241 #[vi k_, vj j_, .second, vi m_, vi p_, vj q_, .second, vi 1, vi cx0, vi cx1, vi cx2, vr b343, vr b356, vi pcv, vi tl, vi ts, vi md, vr b380, u_, u_] [(.int pcv), (ii 0), (rr b488), (rr b488), (rr b380)]) := fun t k => by
       refine c488 t ?_
       show S_ p e below T488 m 237 #[vi k_, vj j_, .second, vi m_, vi p_, vj q_, .second, vi 1, vi cx0, vi cx1, vi cx2, vr b343, vr b356, vi pcv, vi tl, vi ts, vi md, vr b380, u_, u_] [(rr b488), (rr b380)] t
       refine XS.dup X488.here hx rfl (hb hby at_237) rfl rfl ?_
       refine XS.iconst X488.here hx rfl (hb hby at_238) ?_
       refine XS.iload X488.here hx rfl (hb hby at_239) rfl ?_
       exact k
      obtain ⟨T494, h494, X494, e494, W494, f497, o495, N496, c494⟩ := kstC X488 hx hZ e488 f490 (j := (0 : Int32)) (by decide) (by decide) 0 rfl (Nat.le_of_ble_eq_true rfl) c493 rfl rfl (hb hby at_241) o489 N386 g488
      rw [hg377] at W494 f497
      have f498 : Arv Z h494 b488 k488 .char (1 : Int32) [(.int pcv)] (ii 0) := f497
      have kp499 := kp491.wr W494 (Or.inr z492)
      have q500 := Nat.ne_of_lt (Nat.lt_of_lt_of_le p388.lt z488)
      have c501 : Kt p e below T494 st0 (mkF m 246 #[vi k_, vj j_, .second, vi m_, vi p_, vj q_, .second, vi 1, vi cx0, vi cx1, vi cx2, vr b343, vr b356, vi pcv, vi tl, vi ts, vi md, vr b380, u_, u_] [(.long q_), (ii 1), (ii 0), (rr b488), (rr b380)]) := fun t k => by
       refine c494 t ?_
       show S_ p e below T494 m 242 #[vi k_, vj j_, .second, vi m_, vi p_, vj q_, .second, vi 1, vi cx0, vi cx1, vi cx2, vr b343, vr b356, vi pcv, vi tl, vi ts, vi md, vr b380, u_, u_] [(rr b488), (rr b380)] t
       refine XS.iconst X494.here hx rfl (hb hby at_242) ?_
       refine XS.iconst X494.here hx rfl (hb hby at_243) ?_
       refine XS.lload X494.here hx rfl (hb hby at_244) rfl ?_
       exact k
      obtain ⟨_, T502, L502, X502, hQ502, c502⟩ := kvirt X494 hx hZ hown (w191 hw) (w192 hw) (w194 hw) (w193 hw) (w195 hw) (w25 hw) (rm_tokC l Z a0 hw [] b380 b488 k488 [(.int pcv)] q_ (.null) (.null) (-1 : Int32) (0 : Int64) (0 : Int32) (0 : Int32) (0 : Int32) h494 n0 o495 ((p388.ext E488).wr W494) g380 ((p389.ext E488).other W494 (Or.inl q500)) ((p390.ext E488).other W494 (Or.inl q500)) ((p391.ext E488).other W494 (Or.inl q500)) ((p392.ext E488).other W494 (Or.inl q500)) ((p393.ext E488).other W494 (Or.inl q500)) ((p394.ext E488).other W494 (Or.inl q500)) ((p395.ext E488).other W494 (Or.inl q500)) ((p396.ext E488).other W494 (Or.inl q500)) f498) e494 ((p388.ext E488).wr W494) c501 hml pd_pACIIJrV [(rr b488), (ii 0), (ii 1), (.long q_)] [] 0 (hb hby at_246) rfl rfl rfl rfl rfl rfl
      obtain ⟨rfl, N503q, K504, p505, p506, p507, p508, p509, p510⟩ := hQ502
      have N503 := Fr.app N496 N503q
      have o511 := o495.keep K504 (allS g380 all0)
      have kp512 := kp499.trans K504 (allS (Or.inr z383) all0)
      have c513 : Kt p e below T502 st0 (mkF m 288 #[vi k_, vj j_, .second, vi m_, vi p_, vj q_, .second, vi 1, vi cx0, vi cx1, vi cx2, vr b343, vr b356, vi pcv, vi tl, vi ts, vi md, vr b380, u_, u_] []) := fun t k => by
       refine c502 t ?_
       show S_ p e below T502 m 249 #[vi k_, vj j_, .second, vi m_, vi p_, vj q_, .second, vi 1, vi cx0, vi cx1, vi cx2, vr b343, vr b356, vi pcv, vi tl, vi ts, vi md, vr b380, u_, u_] [] t
       refine yG X502.here hx rfl 249 288 rfl (hb hby at_249) ?_
       exact k
      have K574 : Keep T385.heap T502.heap [b380] := ((((Keep.refl _ _).ext E488).wr W494 (Or.inr (Nat.le_trans (Nat.le_refl _) z488))).trans K504 (allS (Or.inl (List.mem_of_getElem? (i := 0) rfl)) all0))
      exact ⟨(1 : Int32), .null, .null, q_, (-1 : Int32), T502, _, _, X502.mono (by decide) (by decide), rfl, o511, K574, kp512, N503, p508, p506, p507, p509, p510, c513⟩
     ·have c514 : Kt p e below T385 st0 (mkF m 255 #[vi k_, vj j_, .second, vi m_, vi p_, vj q_, .second, vi 1, vi cx0, vi cx1, vi cx2, vr b343, vr b356, vi pcv, vi tl, vi ts, vi md, vr b380, u_, u_] [(ii 4), (.int md)]) := fun t k => by
       refine c485 t ?_
       show S_ p e below T385 m 229 #[vi k_, vj j_, .second, vi m_, vi p_, vj q_, .second, vi 1, vi cx0, vi cx1, vi cx2, vr b343, vr b356, vi pcv, vi tl, vi ts, vi md, vr b380, u_, u_] [(ii 3), (.int md)] t
       refine yC X385.here hx rfl 229 252 rfl (hb hby at_229) rfl (feq hc486).2 ?_
       refine XS.iload X385.here hx rfl (hb hby at_252) rfl ?_
       refine XS.iconst X385.here hx rfl (hb hby at_254) ?_
       exact k
      by_cases hc515 : md = (4 : Int32)
      ·have c516 : Kt p e below T385 st0 (mkF m 262 #[vi k_, vj j_, .second, vi m_, vi p_, vj q_, .second, vi 1, vi cx0, vi cx1, vi cx2, vr b343, vr b356, vi pcv, vi tl, vi ts, vi md, vr b380, u_, u_] [(.int pcv), (rr b380)]) := fun t k => by
        refine c514 t ?_
        show S_ p e below T385 m 255 #[vi k_, vj j_, .second, vi m_, vi p_, vj q_, .second, vi 1, vi cx0, vi cx1, vi cx2, vr b343, vr b356, vi pcv, vi tl, vi ts, vi md, vr b380, u_, u_] [(ii 4), (.int md)] t
        refine XS.icmpNo X385.here hx rfl (hb hby at_255) rfl (teq hc515).2 ?_
        refine XS.aload X385.here hx rfl (hb hby at_258) rfl rfl ?_
        refine XS.iload X385.here hx rfl (hb hby at_260) rfl ?_
        exact k
       obtain ⟨_, T517, L517, X517, hQ517, c517⟩ := kstat X385 hx hZ hown (w32 hw) (w33 hw) (w3 hw) (w34 hw) (rm_svo l Z a0 hw [] pcv si1_ T385.heap n0 o397 ZS0_ sn4_ hg378) rfl c516 hml pd_pCrLjava_lang_String_ [(.int pcv)] [(rr b380)] 1 (hb hby at_262) rfl rfl rfl rfl rfl rfl
       obtain ⟨b518, rfl, N519q, K520, p521, p522, b523, k524, p525, p526, p527⟩ := hQ517
       have N519 := Fr.app N386 N519q
       have o528 := o397.keep K520 all0
       have kp529 := kp398.trans K520 all0
       have z530 := Nat.le_trans kp398.1 p527
       have g531 := Nat.le_trans (Nat.le_trans (Nat.le_of_eq o397.1.symm) o397.2.1) p527
       have c532 : Kt p e below T517 st0 (mkF m 271 #[vi k_, vj j_, .second, vi m_, vi p_, vj q_, .second, vi 1, vi cx0, vi cx1, vi cx2, vr b343, vr b356, vi pcv, vi tl, vi ts, vi md, vr b380, u_, u_] [(.int (tl &&& (1 : Int32))), (.long q_), (rr b518), (rr b380)]) := fun t k => by
        refine c517 t ?_
        show S_ p e below T517 m 265 #[vi k_, vj j_, .second, vi m_, vi p_, vj q_, .second, vi 1, vi cx0, vi cx1, vi cx2, vr b343, vr b356, vi pcv, vi tl, vi ts, vi md, vr b380, u_, u_] [(rr b518), (rr b380)] t
        refine XS.lload X517.here hx rfl (hb hby at_265) rfl ?_
        refine XS.iload X517.here hx rfl (hb hby at_267) rfl ?_
        refine XS.iconst X517.here hx rfl (hb hby at_269) ?_
        refine XS.iand X517.here hx rfl (hb hby at_270) rfl ?_
        exact k
       obtain ⟨_, T533, L533, X533, hQ533, c533⟩ := kvirt X517 hx hZ hown (w207 hw) (w208 hw) (w210 hw) (w209 hw) (w211 hw) (w25 hw) (rm_lwt l Z a0 hw [] b380 b518 q_ ((tl &&& (1 : Int32))) (.null) (.null) (-1 : Int32) (0 : Int64) (0 : Int32) (.null) (0 : Int32) (0 : Int32) T517.heap n0 o528 (p388.keep K520) g380 (p389.keep K520 nin0) (p390.keep K520 nin0) (p391.keep K520 nin0) (p392.keep K520 nin0) (p393.keep K520 nin0) (p394.keep K520 nin0) (p395.keep K520 nin0) (p396.keep K520 nin0)) rfl (p388.keep K520) c532 hml pd_pLjava_lang_String_JIrV [(rr b518), (.long q_), (.int (tl &&& (1 : Int32)))] [] 0 (hb hby at_271) rfl rfl rfl rfl rfl rfl
       obtain ⟨rfl, N534q, K535, p536, p537, p538, p539, p540, p541⟩ := hQ533
       have N534 := Fr.app N519 N534q
       have o542 := o528.keep K535 (allS g380 all0)
       have kp543 := kp529.trans K535 (allS (Or.inr z383) all0)
       have c544 : Kt p e below T533 st0 (mkF m 288 #[vi k_, vj j_, .second, vi m_, vi p_, vj q_, .second, vi 1, vi cx0, vi cx1, vi cx2, vr b343, vr b356, vi pcv, vi tl, vi ts, vi md, vr b380, u_, u_] []) := fun t k => by
        refine c533 t ?_
        show S_ p e below T533 m 274 #[vi k_, vj j_, .second, vi m_, vi p_, vj q_, .second, vi 1, vi cx0, vi cx1, vi cx2, vr b343, vr b356, vi pcv, vi tl, vi ts, vi md, vr b380, u_, u_] [] t
        refine yG X533.here hx rfl 274 288 rfl (hb hby at_274) ?_
        exact k
       have K573 : Keep T385.heap T533.heap [b380] := (((Keep.refl _ _).trans K520 all0).trans K535 (allS (Or.inl (List.mem_of_getElem? (i := 0) rfl)) all0))
       exact ⟨(-1 : Int32), .null, (rr b518), q_, (tl &&& (1 : Int32)), T533, _, _, X533.mono (by decide) (by decide), rfl, o542, K573, kp543, N534, p539, p537, p538, p540, p541, c544⟩
      ·have c545 : Kt p e below T385 st0 (mkF m 280 #[vi k_, vj j_, .second, vi m_, vi p_, vj q_, .second, vi 1, vi cx0, vi cx1, vi cx2, vr b343, vr b356, vi pcv, vi tl, vi ts, vi md, vr b380, u_, u_] [(ii 5), (.int md)]) := fun t k => by
        refine c514 t ?_
        show S_ p e below T385 m 255 #[vi k_, vj j_, .second, vi m_, vi p_, vj q_, .second, vi 1, vi cx0, vi cx1, vi cx2, vr b343, vr b356, vi pcv, vi tl, vi ts, vi md, vr b380, u_, u_] [(ii 4), (.int md)] t
        refine yC X385.here hx rfl 255 277 rfl (hb hby at_255) rfl (feq hc515).2 ?_
        refine XS.iload X385.here hx rfl (hb hby at_277) rfl ?_
        refine XS.iconst X385.here hx rfl (hb hby at_279) ?_
        exact k
       by_cases hc546 : md = (5 : Int32)
       ·have c547 : Kt p e below T385 st0 (mkF m 285 #[vi k_, vj j_, .second, vi m_, vi p_, vj q_, .second, vi 1, vi cx0, vi cx1, vi cx2, vr b343, vr b356, vi pcv, vi tl, vi ts, vi md, vr b380, u_, u_] [(rr b380)]) := fun t k => by
         refine c545 t ?_
         show S_ p e below T385 m 280 #[vi k_, vj j_, .second, vi m_, vi p_, vj q_, .second, vi 1, vi cx0, vi cx1, vi cx2, vr b343, vr b356, vi pcv, vi tl, vi ts, vi md, vr b380, u_, u_] [(ii 5), (.int md)] t
         refine XS.icmpNo X385.here hx rfl (hb hby at_280) rfl (teq hc546).2 ?_
         refine XS.aload X385.here hx rfl (hb hby at_283) rfl rfl ?_
         exact k
        obtain ⟨_, T548, L548, X548, hQ548, c548⟩ := kvirt X385 hx hZ hown (w202 hw) (w203 hw) (w205 hw) (w204 hw) (w206 hw) (w25 hw) (rm_clear l Z a0 hw [] b380 (.null) (.null) (-1 : Int32) (0 : Int64) (0 : Int32) T385.heap n0 o397 p388 g380 p389 p390 p391 p392 p393) rfl p388 c547 hml pd_prV [] [] 0 (hb hby at_285) rfl rfl rfl rfl rfl rfl
        obtain ⟨rfl, N549q, K550, p551, p552, p553, p554, p555, p556⟩ := hQ548
        have N549 := Fr.app N386 N549q
        have o557 := o397.keep K550 (allS g380 all0)
        have kp558 := kp398.trans K550 (allS (Or.inr z383) all0)
        have K572 : Keep T385.heap T548.heap [b380] := ((Keep.refl _ _).trans K550 (allS (Or.inl (List.mem_of_getElem? (i := 0) rfl)) all0))
        exact ⟨(-1 : Int32), .null, .null, (0 : Int64), (0 : Int32), T548, _, _, X548.mono (by decide) (by decide), rfl, o557, K572, kp558, N549, p554, p552, p553, p555, p556, c548⟩
       ·have c559 : Kt p e below T385 st0 (mkF m 288 #[vi k_, vj j_, .second, vi m_, vi p_, vj q_, .second, vi 1, vi cx0, vi cx1, vi cx2, vr b343, vr b356, vi pcv, vi tl, vi ts, vi md, vr b380, u_, u_] []) := fun t k => by
         refine c545 t ?_
         show S_ p e below T385 m 280 #[vi k_, vj j_, .second, vi m_, vi p_, vj q_, .second, vi 1, vi cx0, vi cx1, vi cx2, vr b343, vr b356, vi pcv, vi tl, vi ts, vi md, vr b380, u_, u_] [(ii 5), (.int md)] t
         refine yC X385.here hx rfl 280 288 rfl (hb hby at_280) rfl (feq hc546).2 ?_
         exact k
        have K571 : Keep T385.heap T385.heap [b380] := (Keep.refl _ _)
        exact ⟨(-1 : Int32), .null, .null, (0 : Int64), (0 : Int32), T385, _, _, X385.mono (by decide) (by decide), rfl, o397, K571, kp398, N386, p391, p389, p390, p392, p393, c559⟩
  have c577 : Kt p e below T565 st0 (mkF m 293 #[vi k_, vj j_, .second, vi m_, vi p_, vj q_, .second, vi 1, vi cx0, vi cx1, vi cx2, vr b343, vr b356, vi pcv, vi tl, vi ts, vi md, vr b380, u_, u_] [(.long j_), (rr b356), (rr b380)]) := fun t k => by
   refine c565 t ?_
   show S_ p e below T565 m 288 #[vi k_, vj j_, .second, vi m_, vi p_, vj q_, .second, vi 1, vi cx0, vi cx1, vi cx2, vr b343, vr b356, vi pcv, vi tl, vi ts, vi md, vr b380, u_, u_] [] t
   refine XS.aload X565.here hx rfl (hb hby at_288) rfl rfl ?_
   refine XS.aload X565.here hx rfl (hb hby at_290) rfl rfl ?_
   refine XS.lloadN X565.here hx rfl (hb hby at_292) rfl ?_
   exact k
  obtain ⟨_, T578, L578, X578, hQ578, c578⟩ := kvirt X565 hx hZ hown (w83 hw) (w84 hw) (w86 hw) (w85 hw) (w87 hw) (w25 hw) (rm_tokS l Z a0 hw [] b380 b356 j_ mv561 mv562 mv560 mv563 mv564 h565 n0 o565 (p388.keep K565) g380 f567 f568 f566 f569 f570) e565 (p388.keep K565) c577 hml pd_pLjava_lang_String_JrV [(rr b356), (.long j_)] [] 0 (hb hby at_293) rfl rfl rfl rfl rfl rfl
  obtain ⟨rfl, N579q, K580, p581, p582, p583, p584, p585, p586⟩ := hQ578
  have N579 := Fr.app N565 N579q
  have o587 := o565.keep K580 (allS g380 all0)
  have kp588 := kp565.trans K580 (allS (Or.inr z383) all0)
  have q589 := Nat.ne_of_lt (Nat.lt_of_lt_of_le p364.lt z380)
  have q590 := Nat.ne_of_lt (Nat.lt_of_lt_of_le p369.lt z380)
  have c591 : Kt p e below T578 st0 (mkF m 298 #[vi k_, vj j_, .second, vi m_, vi p_, vj q_, .second, vi 1, vi cx0, vi cx1, vi cx2, vr b343, vr b356, vi pcv, vi tl, vi ts, vi md, vr b380, u_, u_] [(rr b380)]) := fun t k => by
   refine c578 t ?_
   show S_ p e below T578 m 296 #[vi k_, vj j_, .second, vi m_, vi p_, vj q_, .second, vi 1, vi cx0, vi cx1, vi cx2, vr b343, vr b356, vi pcv, vi tl, vi ts, vi md, vr b380, u_, u_] [] t
   refine XS.aload X578.here hx rfl (hb hby at_296) rfl rfl ?_
   exact k
  obtain ⟨_, T592, L592, X592, hQ592, c592⟩ := kvirt X578 hx hZ hown (w93 hw) (w94 hw) (w96 hw) (w95 hw) (w97 hw) (w25 hw) (rm_get_1 l Z a0 hw [] b380 j_ b356 b366 k367 [(.int (nar .byte (cx0.toInt8.toInt32)))] si1_ T578.heap n0 o587 p581 g380 p582 p583 p584 p585 p586 ((((p364.ext E380).keep K387).keep K565).keep K580) ((((p365.ext E380).keep K387 (ninS q589 nin0)).keep K565 (ninS q589 nin0)).keep K580 (ninS q589 nin0)) ((((p368.ext E380).keep K387 (ninS q589 nin0)).keep K565 (ninS q589 nin0)).keep K580 (ninS q589 nin0)) ((((p369.ext E380).keep K387 (ninS q590 nin0)).keep K565 (ninS q590 nin0)).keep K580 (ninS q590 nin0)) ZS0_ sn4_) rfl p581 c591 hml pd_prLgleaner_Match_ [] [] 0 (hb hby at_298) rfl rfl rfl rfl rfl rfl
  obtain ⟨b593, b594, k595, rfl, N596q, K597, p598, p599, p600, p601, p602, p603, p604⟩ := hQ592
  have N596 := Fr.app N579 N596q
  have o605 := o587.keep K597 (allS g380 all0)
  have kp606 := kp588.trans K597 (allS (Or.inr z383) all0)
  have z607 := Nat.le_trans kp588.1 p603
  have g608 := Nat.le_trans (Nat.le_trans (Nat.le_of_eq o587.1.symm) o587.2.1) p603
  have z609 := Nat.le_trans kp588.1 p604
  have g610 := Nat.le_trans (Nat.le_trans (Nat.le_of_eq o587.1.symm) o587.2.1) p604
  have c611 : Kt p e below T592 st0 (mkF m 312 #[vi k_, vj j_, .second, vi m_, vi p_, vj q_, .second, vi 1, vi cx0, vi cx1, vi cx2, vr b343, vr b356, vi pcv, vi tl, vi ts, vi md, vr b380, vr b593, u_] [(rr b593)]) := fun t k => by
   refine c592 t ?_
   show S_ p e below T592 m 301 #[vi k_, vj j_, .second, vi m_, vi p_, vj q_, .second, vi 1, vi cx0, vi cx1, vi cx2, vr b343, vr b356, vi pcv, vi tl, vi ts, vi md, vr b380, u_, u_] [(rr b593)] t
   refine XS.astore X592.here hx rfl (hb hby at_301) rfl rfl (l' := #[vi k_, vj j_, .second, vi m_, vi p_, vj q_, .second, vi 1, vi cx0, vi cx1, vi cx2, vr b343, vr b356, vi pcv, vi tl, vi ts, vi md, vr b380, vr b593, u_]) rfl ?_
   refine XS.aload X592.here hx rfl (hb hby at_303) rfl rfl ?_
   refine XS.ifnonnullYes X592.here hx rfl (pc0 := 305) (pc' := 310) rfl (hb hby at_305) rfl (by decide) (by decide) ?_
   refine XS.aload X592.here hx rfl (hb hby at_310) rfl rfl ?_
   exact k
  have ch614 : CHr Z consts_1 s.vm h0 s.vm h343 := ch0.trans (CHr.ext E343 ch0.1)
  have sf615 : Safe Z consts_1 s.vm h343 b343 := own_sE (Safe.new z343) ch0.1 E343
  have ch616 : CHr Z consts_1 s.vm h0 s.vm h349 := ch614.trans (CHr.wr W349 sf615 ch614.1)
  have ch617 : CHr Z consts_1 s.vm h0 s.vm h356 := ch616.trans (CHr.ext E356 ch616.1)
  have sf618 : Safe Z consts_1 s.vm h356 b356 := own_sE (Safe.new z356) ch616.1 E356
  have ch619 : CHr Z consts_1 s.vm h0 s.vm T361.heap := ch617.trans (CHr.keep K363 (allS sf618 all0) ch617.1)
  have ch620 : CHr Z consts_1 s.vm h0 s.vm h380 := ch619.trans (CHr.ext E380 ch619.1)
  have sf621 : Safe Z consts_1 s.vm h380 b380 := own_sE (Safe.new z380) ch619.1 E380
  have ch622 : CHr Z consts_1 s.vm h0 s.vm T385.heap := ch620.trans (CHr.keep K387 (allS sf621 all0) ch620.1)
  have sf623 : Safe Z consts_1 s.vm T385.heap b380 := own_sK sf621 ch620.1 K387 (allS sf621 all0)
  have ch624 : CHr Z consts_1 s.vm h0 s.vm h565 := ch622.trans (CHr.keep K565 (allS sf623 all0) ch622.1)
  have sf625 : Safe Z consts_1 s.vm h565 b380 := own_sK sf623 ch622.1 K565 (allS sf623 all0)
  have ch626 : CHr Z consts_1 s.vm h0 s.vm T578.heap := ch624.trans (CHr.keep K580 (allS sf625 all0) ch624.1)
  have sf627 : Safe Z consts_1 s.vm T578.heap b380 := own_sK sf625 ch624.1 K580 (allS sf625 all0)
  have ch628 : CHr Z consts_1 s.vm h0 s.vm T592.heap := ch626.trans (CHr.keep K597 (allS sf627 all0) ch626.1)
  obtain ⟨a612, T612, h612, k612, b612, kb612, X612, e612, E612, o613, hS612, hk612, hZ612, hown612, fE612, fC612, fV612, fA612, Lt612, cr612, hne612, c612⟩ := kldcH X592 hx hZ hown hS0 (Nat.le_trans (Nat.zero_le _) (Nat.le_trans (Nat.le_trans (Nat.le_trans (Nat.le_trans (Nat.le_trans (Nat.le_trans (Nat.le_trans (Nat.le_trans E343.1 (Keep.of_wr W349).1) E356.1) K363.1) E380.1) K387.1) K565.1) K580.1) K597.1)) (w99 hw) (own_atoms hw) (own_EW hw) (by simp [consts_1]) ch628.1 rfl c611 0 (hb hby at_312) rfl (vs := []) (z := (0 : Int32)) ⟨by decide, rfl⟩ (by decide) rfl (by decide) (by decide) (by decide) (by decide) o605
  have kp629 := kp606.ext E612
  have ch630 : CHr Z consts_1 s.vm h0 T612.vm h612 := ch628.trans cr612
  have c631 : Kt p e below T612 st0 (mkF m 316 #[vi k_, vj j_, .second, vi m_, vi p_, vj q_, .second, vi 1, vi cx0, vi cx1, vi cx2, vr b343, vr b356, vi pcv, vi tl, vi ts, vi md, vr b380, vr b593, u_] [(.long (-j_)), (rr a612), (rr b593)]) := fun t k => by
   refine c612 t ?_
   show S_ p e below T612 m 314 #[vi k_, vj j_, .second, vi m_, vi p_, vj q_, .second, vi 1, vi cx0, vi cx1, vi cx2, vr b343, vr b356, vi pcv, vi tl, vi ts, vi md, vr b380, vr b593, u_] [(rr a612), (rr b593)] t
   refine XS.lloadN X612.here hx rfl (hb hby at_314) rfl ?_
   refine XS.lneg X612.here hx rfl (hb hby at_315) rfl ?_
   exact k
  obtain ⟨_, T632, L632, X632, hQ632, c632⟩ := kstat X612 hx hZ612 hown612 (w47 hw) (w48 hw) (w49 hw) (w50 hw) (rm_mof_0 l Z a0 hw [] a612 b612 kb612 [] si1_ (-j_) h612 n0 o613 fE612 fC612 fV612 fA612 ZS0_ sn4_) e612 c631 hml pd_pLjava_lang_String_JrLgleaner_Match_ [(rr a612), (.long (-j_))] [(rr b593)] 1 (hb hby at_316) rfl rfl rfl rfl rfl rfl
  obtain ⟨b633, b634, k635, rfl, N636q, K637, p638, p639, p640, p641, p642, p643, p644, p645⟩ := hQ632
  have N636 := Fr.app N596 N636q
  have o646 := o613.keep K637 all0
  have kp647 := kp629.trans K637 all0
  have z648 := Nat.le_trans kp629.1 p644
  have g649 := Nat.le_trans (Nat.le_trans (Nat.le_of_eq o613.1.symm) o613.2.1) p644
  have z650 := Nat.le_trans kp629.1 p645
  have g651 := Nat.le_trans (Nat.le_trans (Nat.le_of_eq o613.1.symm) o613.2.1) p645
  obtain ⟨_, T652, L652, X652, hQ652, c652⟩ := kvirt X632 hx hZ612 hown612 (w100 hw) (w101 hw) (w103 hw) (w102 hw) (w104 hw) (w49 hw) (rm_within l Z a0 hw [] b593 b356 j_ b594 b633 (-j_) T632.heap n0 o646 ((p599.ext E612).keep K637 nin0) ((p600.ext E612).keep K637 nin0) ((p601.ext E612).keep K637 nin0) p640) rfl ((p598.ext E612).keep K637) c632 hml pd_pLgleaner_Match_rLgleaner_Match_ [(rr b633)] [] 0 (hb hby at_319) rfl rfl rfl rfl rfl rfl
  obtain ⟨b653, rfl, N654q, K655, p656, p657, p658, p659, p660⟩ := hQ652
  have N654 := Fr.app N636 N654q
  have o661 := o646.keep K655 all0
  have kp662 := kp647.trans K655 all0
  have z663 := Nat.le_trans kp647.1 p660
  have g664 := Nat.le_trans (Nat.le_trans (Nat.le_of_eq o646.1.symm) o646.2.1) p660
  have f665 : Fld Z T652.heap b653 nm2 "offset" "J" (.long (0 : Int64)) := by rw [← own_neg j_]; exact p658
  have f666 := (((((((p365.ext E380).keep K387 (ninS q589 nin0)).keep K565 (ninS q589 nin0)).keep K580 (ninS q589 nin0)).keep K597 (ninS q589 nin0)).ext E612).keep K637 nin0).keep K655 nin0
  have f667 := (((((((p368.ext E380).keep K387 (ninS q589 nin0)).keep K565 (ninS q589 nin0)).keep K580 (ninS q589 nin0)).keep K597 (ninS q589 nin0)).ext E612).keep K637 nin0).keep K655 nin0
  have f668 := (((((((p369.ext E380).keep K387 (ninS q590 nin0)).keep K565 (ninS q590 nin0)).keep K580 (ninS q590 nin0)).keep K597 (ninS q590 nin0)).ext E612).keep K637 nin0).keep K655 nin0
  have c669 : Kt p e below T652 st0 (mkF m 328 #[vi k_, vj j_, .second, vi m_, vi p_, vj q_, .second, vi 1, vi cx0, vi cx1, vi cx2, vr b343, vr b356, vi pcv, vi tl, vi ts, vi md, vr b380, vr b593, vr b653] [(rr b593), (rr b356)]) := fun t k => by
   refine c652 t ?_
   show S_ p e below T652 m 322 #[vi k_, vj j_, .second, vi m_, vi p_, vj q_, .second, vi 1, vi cx0, vi cx1, vi cx2, vr b343, vr b356, vi pcv, vi tl, vi ts, vi md, vr b380, vr b593, u_] [(rr b653)] t
   refine XS.astore X652.here hx rfl (hb hby at_322) rfl rfl (l' := #[vi k_, vj j_, .second, vi m_, vi p_, vj q_, .second, vi 1, vi cx0, vi cx1, vi cx2, vr b343, vr b356, vi pcv, vi tl, vi ts, vi md, vr b380, vr b593, vr b653]) rfl ?_
   refine XS.aload X652.here hx rfl (hb hby at_324) rfl rfl ?_
   refine XS.aload X652.here hx rfl (hb hby at_326) rfl rfl ?_
   exact k
  obtain ⟨_, T670, L670, X670, hQ670, c670⟩ := kvirt X652 hx hZ612 hown612 (w105 hw) (w106 hw) (w108 hw) (w107 hw) (w109 hw) (w49 hw) (rm_gr_1 l Z a0 hw [] b593 b594 k595 j_ b356 b366 k367 [(.int (nar .byte (cx0.toInt8.toInt32)))] si1_ sv6_ T652.heap n0 o661 (((p598.ext E612).keep K637).keep K655) (((p599.ext E612).keep K637 nin0).keep K655 nin0) (((p600.ext E612).keep K637 nin0).keep K655 nin0) (((p601.ext E612).keep K637 nin0).keep K655 nin0) (((p602.ext E612).keep K637 nin0).keep K655 nin0) ((((((((p364.ext E380).keep K387).keep K565).keep K580).keep K597).ext E612).keep K637).keep K655) f666 f667 f668 ZS0_ sn4_ ZS3_ sv6_r) rfl (((p598.ext E612).keep K637).keep K655) c669 hml pd_prLjava_lang_String_ [] [(rr b356)] 1 (hb hby at_328) rfl rfl rfl rfl rfl rfl
  obtain ⟨rfl, N671q, K672⟩ := hQ670
  have N671 := Fr.app N654 N671q
  obtain ⟨_, T673, L673, X673, hQ673, c673⟩ := kvirt X670 hx hZ612 hown612 (w138 hw) (w139 hw) (w141 hw) (w140 hw) (w142 hw) (w3 hw) (rm_eqs l Z a0 hw [] b356 T652.heap n0 o661 ) K672 ((((((((p364.ext E380).keep K387).keep K565).keep K580).keep K597).ext E612).keep K637).keep K655) c670 hml pd_pLjava_lang_Object_rZ [(rr b356)] [] 0 (hb hby at_331) rfl rfl rfl rfl rfl rfl
  obtain ⟨rfl, N674q, K675⟩ := hQ673
  have N674 := Fr.app N671 N674q
  have c676 : Kt p e below T673 st0 (mkF m 339 #[vi k_, vj j_, .second, vi m_, vi p_, vj q_, .second, vi 1, vi cx0, vi cx1, vi cx2, vr b343, vr b356, vi pcv, vi tl, vi ts, vi md, vr b380, vr b593, vr b653] [(rr b593)]) := fun t k => by
   refine c673 t ?_
   show S_ p e below T673 m 334 #[vi k_, vj j_, .second, vi m_, vi p_, vj q_, .second, vi 1, vi cx0, vi cx1, vi cx2, vr b343, vr b356, vi pcv, vi tl, vi ts, vi md, vr b380, vr b593, vr b653] [(ii 1)] t
   refine XS.ifNo X673.here hx rfl (hb hby at_334) rfl rfl ?_
   refine XS.aload X673.here hx rfl (hb hby at_337) rfl rfl ?_
   exact k
  obtain ⟨_, T677, L677, X677, hQ677, c677⟩ := kvirt X673 hx hZ612 hown612 (w143 hw) (w120 hw) (w122 hw) (w121 hw) (w123 hw) (w49 hw) (rm_gc l Z a0 hw [] b593 b594 k595 [(ii 0), (ii 1)] T652.heap n0 o661 (((p601.ext E612).keep K637 nin0).keep K655 nin0) (((p602.ext E612).keep K637 nin0).keep K655 nin0)) K675 (((p598.ext E612).keep K637).keep K655) c676 hml pd_prI [] [] 0 (hb hby at_339) rfl rfl rfl rfl rfl rfl
  obtain ⟨rfl, N678q, K679⟩ := hQ677
  have N678 := Fr.app N674 N678q
  have c680 : Kt p e below T677 st0 (mkF m 347 #[vi k_, vj j_, .second, vi m_, vi p_, vj q_, .second, vi 1, vi cx0, vi cx1, vi cx2, vr b343, vr b356, vi pcv, vi tl, vi ts, vi md, vr b380, vr b593, vr b653] [(rr b653)]) := fun t k => by
   refine c677 t ?_
   show S_ p e below T677 m 342 #[vi k_, vj j_, .second, vi m_, vi p_, vj q_, .second, vi 1, vi cx0, vi cx1, vi cx2, vr b343, vr b356, vi pcv, vi tl, vi ts, vi md, vr b380, vr b593, vr b653] [(ii 0)] t
   refine XS.ifNo X677.here hx rfl (hb hby at_342) rfl rfl ?_
   refine XS.aload X677.here hx rfl (hb hby at_345) rfl rfl ?_
   exact k
  obtain ⟨_, T681, L681, X681, hQ681, c681⟩ := kvirt X677 hx hZ612 hown612 (w144 hw) (w145 hw) (w147 hw) (w146 hw) (w148 hw) (w49 hw) (rm_start_1 l Z a0 hw [] b653 b356 b594 k595 T652.heap n0 o661 p656 p657 f665 p659 (((p602.ext E612).keep K637 nin0).keep K655 nin0)) K679 p656 c680 hml pd_prI [] [] 0 (hb hby at_347) rfl rfl rfl rfl rfl rfl
  obtain ⟨rfl, N682q, K683⟩ := hQ681
  have N682 := Fr.app N678 N682q
  have c684 : Kt p e below T681 st0 (mkF m 355 #[vi k_, vj j_, .second, vi m_, vi p_, vj q_, .second, vi 1, vi cx0, vi cx1, vi cx2, vr b343, vr b356, vi pcv, vi tl, vi ts, vi md, vr b380, vr b593, vr b653] [(rr b653)]) := fun t k => by
   refine c681 t ?_
   show S_ p e below T681 m 350 #[vi k_, vj j_, .second, vi m_, vi p_, vj q_, .second, vi 1, vi cx0, vi cx1, vi cx2, vr b343, vr b356, vi pcv, vi tl, vi ts, vi md, vr b380, vr b593, vr b653] [(ii 0)] t
   refine XS.ifNo X681.here hx rfl (hb hby at_350) rfl rfl ?_
   refine XS.aload X681.here hx rfl (hb hby at_353) rfl rfl ?_
   exact k
  obtain ⟨_, T685, L685, X685, hQ685, c685⟩ := kvirt X681 hx hZ612 hown612 (w162 hw) (w163 hw) (w165 hw) (w164 hw) (w166 hw) (w49 hw) (rm_end_1 l Z a0 hw [] b653 b356 b594 k595 T652.heap n0 o661 p656 p657 f665 p659 (((p602.ext E612).keep K637 nin0).keep K655 nin0)) K683 p656 c684 hml pd_prI [] [] 0 (hb hby at_355) rfl rfl rfl rfl rfl rfl
  obtain ⟨rfl, N686q, K687⟩ := hQ685
  have N686 := Fr.app N682 N686q
  obtain ⟨fs, hr, hrun, hended, hRW⟩ := X685.leaveW hS612 (by first | exact (Nat.le_trans hk612 (Nat.le_trans K637.1 K655.1)) | (rw [K687]; exact (Nat.le_trans hk612 (Nat.le_trans K637.1 K655.1)))) (v := some (ii 1)) (fun h => by rw [Bd.returns] at h; cases h)
  refine ⟨_, _, c685 _ ?_, hrun, hended, _, _, rfl, ?_, hRW.1, hRW.2.1, hRW.2.2.1, hRW.2.2.2.mono (by decide) (by decide)⟩
  ·show S_ p e below T685 m 358 #[vi k_, vj j_, .second, vi m_, vi p_, vj q_, .second, vi 1, vi cx0, vi cx1, vi cx2, vr b343, vr b356, vi pcv, vi tl, vi ts, vi md, vr b380, vr b593, vr b653] [(ii 1)] _
   refine XS.iload X685.here hx rfl (hb hby at_358) rfl ?_
   refine XS.icmpNo X685.here hx rfl (hb hby at_360) rfl rfl ?_
   refine XS.iconst X685.here hx rfl (hb hby at_363) ?_
   refine yG X685.here hx rfl 364 368 rfl (hb hby at_364) ?_
   show S_ p e below T685 m 368 #[vi k_, vj j_, .second, vi m_, vi p_, vj q_, .second, vi 1, vi cx0, vi cx1, vi cx2, vr b343, vr b356, vi pcv, vi tl, vi ts, vi md, vr b380, vr b593, vr b653] [(ii 1)] _
   exact retN X685 hx (t := .boolean) Bd.returns (by simp) (hb hby at_368) hr
  ·show Q_law Z k_ j_ m_ p_ q_ si1_ sv6_ h0 n0 _ T685.heap _
   rw [K687]
   exact ⟨rfl, N686, kp662⟩
 ·rw [hv8] at c1
  have c688 : Kt p e below s₁ st0 (mkF m 77 #[vi k_, vj j_, .second, vi m_, vi p_, vj q_, .second, vi 2, vi cx0, vi cx1, vi cx2, u_, u_, u_, u_, u_, u_, u_, u_, u_] [(ii 2)]) := fun t k => by
   refine c1 t ?_
   show S_ p e below s₁ m 38 #[vi k_, vj j_, .second, vi m_, vi p_, vj q_, .second, vi 2, vi cx0, vi cx1, vi cx2, u_, u_, u_, u_, u_, u_, u_, u_, u_] [] t
   refine XS.iload X0.here hx rfl (hb hby at_38) rfl ?_
   refine yI X0.here hx rfl 40 51 rfl (hb hby at_40) rfl rfl ?_
   refine XS.iload X0.here hx rfl (hb hby at_51) rfl ?_
   refine XS.iconst X0.here hx rfl (hb hby at_53) ?_
   show S_ p e below s₁ m 54 #[vi k_, vj j_, .second, vi m_, vi p_, vj q_, .second, vi 2, vi cx0, vi cx1, vi cx2, u_, u_, u_, u_, u_, u_, u_, u_, u_] [(ii 1), (ii 2)] t
   refine yC X0.here hx rfl 54 70 rfl (hb hby at_54) rfl rfl ?_
   refine XS.iload X0.here hx rfl (hb hby at_70) rfl ?_
   refine XS.iconst X0.here hx rfl (hb hby at_72) ?_
   refine XS.icmpNo X0.here hx rfl (hb hby at_73) rfl rfl ?_
   show S_ p e below s₁ m 76 #[vi k_, vj j_, .second, vi m_, vi p_, vj q_, .second, vi 2, vi cx0, vi cx1, vi cx2, u_, u_, u_, u_, u_, u_, u_, u_, u_] [] t
   refine XS.iconst X0.here hx rfl (hb hby at_76) ?_
   exact k
  obtain ⟨b689, T689, h689, k689, z689, g689, X689, e689, E689, o690, A689, c689⟩ := knewP (aty := .char) X0 hx hZ (w0 hw) e0 c688 rfl (hb hby at_77) rfl (by decide) 2 (by decide) (by decide) (by decide) (by decide) O0
  have kp692 := kp0.ext E689
  have z693 := Nat.le_trans kp0.1 z689
  have f691 : Arv Z h689 b689 k689 .char (2 : Int32) [(ii 0), (ii 0)] (ii 0) := A689.pad (pad_rep [] (ii 0) 2)
  have c694 : Kt p e below T689 st0 (mkF m 83 #[vi k_, vj j_, .second, vi m_, vi p_, vj q_, .second, vi 2, vi cx0, vi cx1, vi cx2, u_, u_, u_, u_, u_, u_, u_, u_, u_] [(.int cx0), (ii 0), (rr b689), (rr b689)]) := fun t k => by
   refine c689 t ?_
   show S_ p e below T689 m 79 #[vi k_, vj j_, .second, vi m_, vi p_, vj q_, .second, vi 2, vi cx0, vi cx1, vi cx2, u_, u_, u_, u_, u_, u_, u_, u_, u_] [(rr b689)] t
   refine XS.dup X689.here hx rfl (hb hby at_79) rfl rfl ?_
   refine XS.iconst X689.here hx rfl (hb hby at_80) ?_
   refine XS.iload X689.here hx rfl (hb hby at_81) rfl ?_
   exact k
  obtain ⟨T695, h695, X695, e695, W695, f698, o696, N697, c695⟩ := kstC X689 hx hZ e689 f691 (j := (0 : Int32)) (by decide) (by decide) 0 rfl (Nat.le_of_ble_eq_true rfl) c694 rfl rfl (hb hby at_83) o690 N0 g689
  rw [hg2] at W695 f698
  have f699 : Arv Z h695 b689 k689 .char (2 : Int32) [(.int cx0), (ii 0)] (ii 0) := f698
  have kp700 := kp692.wr W695 (Or.inr z693)
  have c701 : Kt p e below T695 st0 (mkF m 88 #[vi k_, vj j_, .second, vi m_, vi p_, vj q_, .second, vi 2, vi cx0, vi cx1, vi cx2, u_, u_, u_, u_, u_, u_, u_, u_, u_] [(.int cx1), (ii 1), (rr b689), (rr b689)]) := fun t k => by
   refine c695 t ?_
   show S_ p e below T695 m 84 #[vi k_, vj j_, .second, vi m_, vi p_, vj q_, .second, vi 2, vi cx0, vi cx1, vi cx2, u_, u_, u_, u_, u_, u_, u_, u_, u_] [(rr b689)] t
   refine XS.dup X695.here hx rfl (hb hby at_84) rfl rfl ?_
   refine XS.iconst X695.here hx rfl (hb hby at_85) ?_
   refine XS.iload X695.here hx rfl (hb hby at_86) rfl ?_
   exact k
  obtain ⟨T702, h702, X702, e702, W702, f705, o703, N704, c702⟩ := kstC X695 hx hZ e695 f699 (j := (1 : Int32)) (by decide) (by decide) 1 rfl (Nat.le_of_ble_eq_true rfl) c701 rfl rfl (hb hby at_88) o696 N697 g689
  rw [hg4] at W702 f705
  have f706 : Arv Z h702 b689 k689 .char (2 : Int32) [(.int cx0), (.int cx1)] (ii 0) := f705
  have kp707 := kp700.wr W702 (Or.inr z693)
  have c708 : Kt p e below T702 st0 (mkF m 114 #[vi k_, vj j_, .second, vi m_, vi p_, vj q_, .second, vi 2, vi cx0, vi cx1, vi cx2, vr b689, u_, u_, u_, u_, u_, u_, u_, u_] []) := fun t k => by
   refine c702 t ?_
   show S_ p e below T702 m 89 #[vi k_, vj j_, .second, vi m_, vi p_, vj q_, .second, vi 2, vi cx0, vi cx1, vi cx2, u_, u_, u_, u_, u_, u_, u_, u_, u_] [(rr b689)] t
   refine XS.astore X702.here hx rfl (hb hby at_89) rfl rfl (l' := #[vi k_, vj j_, .second, vi m_, vi p_, vj q_, .second, vi 2, vi cx0, vi cx1, vi cx2, vr b689, u_, u_, u_, u_, u_, u_, u_, u_]) rfl ?_
   refine yG X702.here hx rfl 91 114 rfl (hb hby at_91) ?_
   exact k
  obtain ⟨b709, T709, h709, z709, g709, X709, e709, E709, o710, A709, D709, U709, c709⟩ := knew X702 hx hZ hown (w1 hw) (w2 hw) (w3 hw) e702 c708 rfl (hb hby at_114) (by decide) (by decide) o703
  have kp711 := kp707.ext E709
  have z712 := Nat.le_trans kp707.1 z709
  have c713 : Kt p e below T709 st0 (mkF m 120 #[vi k_, vj j_, .second, vi m_, vi p_, vj q_, .second, vi 2, vi cx0, vi cx1, vi cx2, vr b689, u_, u_, u_, u_, u_, u_, u_, u_] [(rr b689), (rr b709), (rr b709)]) := fun t k => by
   refine c709 t ?_
   show S_ p e below T709 m 117 #[vi k_, vj j_, .second, vi m_, vi p_, vj q_, .second, vi 2, vi cx0, vi cx1, vi cx2, vr b689, u_, u_, u_, u_, u_, u_, u_, u_] [(rr b709)] t
   refine XS.dup X709.here hx rfl (hb hby at_117) rfl rfl ?_
   refine XS.aload X709.here hx rfl (hb hby at_118) rfl rfl ?_
   exact k
  obtain ⟨_, T714, L714, X714, hQ714, c714⟩ := kspec X709 hx hZ hown (w4 hw) (w5 hw) (w3 hw) (w6 hw) (rm_str1_2 l Z a0 hw [] b709 b689 k689 si1_ cx0 cx1 h709 n0 o710 A709 (show Fld Z h709 b709 nm0 "value" "[B" .null from D709 (Or.inr (w16 hw)) (ty := (.array .byte)) (by decide)) (show Fld Z h709 b709 nm0 "coder" "B" (ii 0) from D709 (Or.inr (w17 hw)) (ty := .byte) (by decide)) g709 (f706.ext E709) ZS0_ sn4_ hg3 hg5) e709 c713 hml pd_pACrV b709 [(rr b689)] [(rr b709)] 1 (hb hby at_120) rfl rfl rfl rfl rfl rfl
  obtain ⟨rfl, N715q, K716, p717, p718, b719, k720, p721, p722, p723, p724⟩ := hQ714
  have N715 := Fr.app N704 N715q
  have o725 := o710.keep K716 (allS g709 all0)
  have kp726 := kp711.trans K716 (allS (Or.inr z712) all0)
  have z727 := Nat.le_trans kp711.1 p724
  have g728 := Nat.le_trans (Nat.le_trans (Nat.le_of_eq o710.1.symm) o710.2.1) p724
  have c729 : Kt p e below T714 st0 (mkF m 134 #[vi k_, vj j_, .second, vi m_, vi p_, vj q_, .second, vi 2, vi cx0, vi cx1, vi cx2, vr b689, vr b709, .val (.int ((p_ &&& (255 : Int32)).toUInt32.toUInt16.toUInt32.toInt32)), u_, u_, u_, u_, u_, u_] []) := fun t k => by
   refine c714 t ?_
   show S_ p e below T714 m 123 #[vi k_, vj j_, .second, vi m_, vi p_, vj q_, .second, vi 2, vi cx0, vi cx1, vi cx2, vr b689, u_, u_, u_, u_, u_, u_, u_, u_] [(rr b709)] t
   refine XS.astore X714.here hx rfl (hb hby at_123) rfl rfl (l' := #[vi k_, vj j_, .second, vi m_, vi p_, vj q_, .second, vi 2, vi cx0, vi cx1, vi cx2, vr b689, vr b709, u_, u_, u_, u_, u_, u_, u_]) rfl ?_
   refine XS.iload X714.here hx rfl (hb hby at_125) rfl ?_
   refine XS.sipush X714.here hx rfl (hb hby at_127) ?_
   refine XS.iand X714.here hx rfl (hb hby at_130) rfl ?_
   show S_ p e below T714 m 131 #[vi k_, vj j_, .second, vi m_, vi p_, vj q_, .second, vi 2, vi cx0, vi cx1, vi cx2, vr b689, vr b709, u_, u_, u_, u_, u_, u_, u_] [(.int (p_ &&& (255 : Int32)))] t
   refine XS.i2c X714.here hx rfl (hb hby at_131) rfl ?_
   refine XS.istore X714.here hx rfl (hb hby at_132) rfl (l' := #[vi k_, vj j_, .second, vi m_, vi p_, vj q_, .second, vi 2, vi cx0, vi cx1, vi cx2, vr b689, vr b709, .val (.int ((p_ &&& (255 : Int32)).toUInt32.toUInt16.toUInt32.toInt32)), u_, u_, u_, u_, u_, u_]) rfl ?_
   exact k
  obtain ⟨pcv, pcvq⟩ : ∃ z, z = ((p_ &&& (255 : Int32)).toUInt32.toUInt16.toUInt32.toInt32) := ⟨_, rfl⟩
  rw [← pcvq] at c729
  have hg730 : nar .char pcv = pcv := by rw [pcvq]; exact own_cc _
  have hg731 : ¬ ((255 : Int32) < pcv) := by rw [pcvq]; exact own_small2 _
  have c732 : Kt p e below T714 st0 (mkF m 168 #[vi k_, vj j_, .second, vi m_, vi p_, vj q_, .second, vi 2, vi cx0, vi cx1, vi cx2, vr b689, vr b709, vi pcv, .val (.int ((((p_.toUInt32 >>> ((8 : Int32) &&& 31).toUInt32).toInt32) &&& (255 : Int32)) % (3 : Int32))), .val (.int ((((p_.toUInt32 >>> ((16 : Int32) &&& 31).toUInt32).toInt32) &&& (255 : Int32)).toUInt32.toUInt16.toUInt32.toInt32)), .val (.int ((m_ &&& (2147483647 : Int32)) % (6 : Int32))), u_, u_, u_] []) := fun t k => by
   refine c729 t ?_
   show S_ p e below T714 m 134 #[vi k_, vj j_, .second, vi m_, vi p_, vj q_, .second, vi 2, vi cx0, vi cx1, vi cx2, vr b689, vr b709, vi pcv, u_, u_, u_, u_, u_, u_] [] t
   refine XS.iload X714.here hx rfl (hb hby at_134) rfl ?_
   refine XS.bipush X714.here hx rfl (hb hby at_136) ?_
   refine XS.iushr X714.here hx rfl (hb hby at_138) rfl ?_
   refine XS.sipush X714.here hx rfl (hb hby at_139) ?_
   show S_ p e below T714 m 142 #[vi k_, vj j_, .second, vi m_, vi p_, vj q_, .second, vi 2, vi cx0, vi cx1, vi cx2, vr b689, vr b709, vi pcv, u_, u_, u_, u_, u_, u_] [(ii 255), (.int ((p_.toUInt32 >>> ((8 : Int32) &&& 31).toUInt32).toInt32))] t
   refine XS.iand X714.here hx rfl (hb hby at_142) rfl ?_
   refine XS.iconst X714.here hx rfl (hb hby at_143) ?_
   show S_ p e below T714 m 144 #[vi k_, vj j_, .second, vi m_, vi p_, vj q_, .second, vi 2, vi cx0, vi cx1, vi cx2, vr b689, vr b709, vi pcv, u_, u_, u_, u_, u_, u_] [(ii 3), (.int (((p_.toUInt32 >>> ((8 : Int32) &&& 31).toUInt32).toInt32) &&& (255 : Int32)))] t
   refine iremM X714 hx rfl (hb hby at_144) rfl (by decide) ?_
   refine XS.istore X714.here hx rfl (hb hby at_145) rfl (l' := #[vi k_, vj j_, .second, vi m_, vi p_, vj q_, .second, vi 2, vi cx0, vi cx1, vi cx2, vr b689, vr b709, vi pcv, .val (.int ((((p_.toUInt32 >>> ((8 : Int32) &&& 31).toUInt32).toInt32) &&& (255 : Int32)) % (3 : Int32))), u_, u_, u_, u_, u_]) rfl ?_
   refine XS.iload X714.here hx rfl (hb hby at_147) rfl ?_
   refine XS.bipush X714.here hx rfl (hb hby at_149) ?_
   show S_ p e below T714 m 151 #[vi k_, vj j_, .second, vi m_, vi p_, vj q_, .second, vi 2, vi cx0, vi cx1, vi cx2, vr b689, vr b709, vi pcv, .val (.int ((((p_.toUInt32 >>> ((8 : Int32) &&& 31).toUInt32).toInt32) &&& (255 : Int32)) % (3 : Int32))), u_, u_, u_, u_, u_] [(ii 16), (.int p_)] t
   refine XS.iushr X714.here hx rfl (hb hby at_151) rfl ?_
   refine XS.sipush X714.here hx rfl (hb hby at_152) ?_
   refine XS.iand X714.here hx rfl (hb hby at_155) rfl ?_
   refine XS.i2c X714.here hx rfl (hb hby at_156) rfl ?_
   show S_ p e below T714 m 157 #[vi k_, vj j_, .second, vi m_, vi p_, vj q_, .second, vi 2, vi cx0, vi cx1, vi cx2, vr b689, vr b709, vi pcv, .val (.int ((((p_.toUInt32 >>> ((8 : Int32) &&& 31).toUInt32).toInt32) &&& (255 : Int32)) % (3 : Int32))), u_, u_, u_, u_, u_] [(.int ((((p_.toUInt32 >>> ((16 : Int32) &&& 31).toUInt32).toInt32) &&& (255 : Int32)).toUInt32.toUInt16.toUInt32.toInt32))] t
   refine XS.istore X714.here hx rfl (hb hby at_157) rfl (l' := #[vi k_, vj j_, .second, vi m_, vi p_, vj q_, .second, vi 2, vi cx0, vi cx1, vi cx2, vr b689, vr b709, vi pcv, .val (.int ((((p_.toUInt32 >>> ((8 : Int32) &&& 31).toUInt32).toInt32) &&& (255 : Int32)) % (3 : Int32))), .val (.int ((((p_.toUInt32 >>> ((16 : Int32) &&& 31).toUInt32).toInt32) &&& (255 : Int32)).toUInt32.toUInt16.toUInt32.toInt32)), u_, u_, u_, u_]) rfl ?_
   refine XS.iloadN X714.here hx rfl (hb hby at_159) rfl ?_
   show S_ p e below T714 m 160 #[vi k_, vj j_, .second, vi m_, vi p_, vj q_, .second, vi 2, vi cx0, vi cx1, vi cx2, vr b689, vr b709, vi pcv, .val (.int ((((p_.toUInt32 >>> ((8 : Int32) &&& 31).toUInt32).toInt32) &&& (255 : Int32)) % (3 : Int32))), .val (.int ((((p_.toUInt32 >>> ((16 : Int32) &&& 31).toUInt32).toInt32) &&& (255 : Int32)).toUInt32.toUInt16.toUInt32.toInt32)), u_, u_, u_, u_] [(.int m_)] t
   refine X714.ldcInt hx hown (mvT hZ (w22 hw)) (g := (mkF m 160 #[vi k_, vj j_, .second, vi m_, vi p_, vj q_, .second, vi 2, vi cx0, vi cx1, vi cx2, vr b689, vr b709, vi pcv, .val (.int ((((p_.toUInt32 >>> ((8 : Int32) &&& 31).toUInt32).toInt32) &&& (255 : Int32)) % (3 : Int32))), .val (.int ((((p_.toUInt32 >>> ((16 : Int32) &&& 31).toUInt32).toInt32) &&& (255 : Int32)).toUInt32.toUInt16.toUInt32.toInt32)), u_, u_, u_, u_] [(.int m_)])) rfl (hb hby at_160) _ ?_
   refine XS.iand X714.here hx rfl (hb hby at_162) rfl ?_
   refine XS.bipush X714.here hx rfl (hb hby at_163) ?_
   show S_ p e below T714 m 165 #[vi k_, vj j_, .second, vi m_, vi p_, vj q_, .second, vi 2, vi cx0, vi cx1, vi cx2, vr b689, vr b709, vi pcv, .val (.int ((((p_.toUInt32 >>> ((8 : Int32) &&& 31).toUInt32).toInt32) &&& (255 : Int32)) % (3 : Int32))), .val (.int ((((p_.toUInt32 >>> ((16 : Int32) &&& 31).toUInt32).toInt32) &&& (255 : Int32)).toUInt32.toUInt16.toUInt32.toInt32)), u_, u_, u_, u_] [(ii 6), (.int (m_ &&& (2147483647 : Int32)))] t
   refine iremM X714 hx rfl (hb hby at_165) rfl (by decide) ?_
   refine XS.istore X714.here hx rfl (hb hby at_166) rfl (l' := #[vi k_, vj j_, .second, vi m_, vi p_, vj q_, .second, vi 2, vi cx0, vi cx1, vi cx2, vr b689, vr b709, vi pcv, .val (.int ((((p_.toUInt32 >>> ((8 : Int32) &&& 31).toUInt32).toInt32) &&& (255 : Int32)) % (3 : Int32))), .val (.int ((((p_.toUInt32 >>> ((16 : Int32) &&& 31).toUInt32).toInt32) &&& (255 : Int32)).toUInt32.toUInt16.toUInt32.toInt32)), .val (.int ((m_ &&& (2147483647 : Int32)) % (6 : Int32))), u_, u_, u_]) rfl ?_
   exact k
  obtain ⟨md, mdq⟩ : ∃ z, z = ((m_ &&& (2147483647 : Int32)) % (6 : Int32)) := ⟨_, rfl⟩
  rw [← mdq] at c732
  obtain ⟨tl, tlq⟩ : ∃ z, z = ((((p_.toUInt32 >>> ((8 : Int32) &&& 31).toUInt32).toInt32) &&& (255 : Int32)) % (3 : Int32)) := ⟨_, rfl⟩
  rw [← tlq] at c732
  obtain ⟨ts, tsq⟩ : ∃ z, z = ((((p_.toUInt32 >>> ((16 : Int32) &&& 31).toUInt32).toInt32) &&& (255 : Int32)).toUInt32.toUInt16.toUInt32.toInt32) := ⟨_, rfl⟩
  rw [← tsq] at c732
  obtain ⟨b733, T733, h733, z733, g733, X733, e733, E733, o734, A733, D733, U733, c733⟩ := knew X714 hx hZ hown (w23 hw) (w24 hw) (w25 hw) rfl c732 rfl (hb hby at_168) (by decide) (by decide) o725
  have kp735 := kp726.ext E733
  have z736 := Nat.le_trans kp726.1 z733
  have c737 : Kt p e below T733 st0 (mkF m 172 #[vi k_, vj j_, .second, vi m_, vi p_, vj q_, .second, vi 2, vi cx0, vi cx1, vi cx2, vr b689, vr b709, vi pcv, vi tl, vi ts, vi md, u_, u_, u_] [(rr b733), (rr b733)]) := fun t k => by
   refine c733 t ?_
   show S_ p e below T733 m 171 #[vi k_, vj j_, .second, vi m_, vi p_, vj q_, .second, vi 2, vi cx0, vi cx1, vi cx2, vr b689, vr b709, vi pcv, vi tl, vi ts, vi md, u_, u_, u_] [(rr b733)] t
   refine XS.dup X733.here hx rfl (hb hby at_171) rfl rfl ?_
   exact k
  obtain ⟨_, T738, L738, X738, hQ738, c738⟩ := kspec X733 hx hZ hown (w26 hw) (w27 hw) (w25 hw) (w28 hw) (rm_lminit l Z a0 hw [] b733 h733 n0 o734 A733 g733 (show Fld Z h733 b733 nm1 "made" nm10 .null from D733 (Or.inl (w80 hw)) (ty := (.object nm2)) (by decide)) (show Fld Z h733 b733 nm1 "read" nm3 .null from D733 (Or.inl (w82 hw)) (ty := (.object nm0)) (by decide)) (show Fld Z h733 b733 nm1 "copiedLength" "I" (ii 0) from D733 (Or.inl (w31 hw)) (ty := .int) (by decide)) (show Fld Z h733 b733 nm1 "offset" "J" (.long (0 : Int64)) from D733 (Or.inl (w90 hw)) (ty := .long) (by decide)) (show Fld Z h733 b733 nm1 "terminatorLength" "I" (ii 0) from D733 (Or.inl (w92 hw)) (ty := .int) (by decide)) (show Fld Z h733 b733 nm1 "copied" "[C" .null from D733 (Or.inl (w197 hw)) (ty := (.array .char)) (by decide)) (show Fld Z h733 b733 nm1 "terminatorStart" "C" (ii 0) from D733 (Or.inl (w178 hw)) (ty := .char) (by decide)) (show Fld Z h733 b733 nm1 "terminatorRead" "Z" (ii 0) from D733 (Or.inl (w180 hw)) (ty := .boolean) (by decide))) e733 c737 hml pd_prV b733 [] [(rr b733)] 1 (hb hby at_172) rfl rfl rfl rfl rfl rfl
  obtain ⟨rfl, N739q, K740, p741, p742, p743, p744, p745, p746, p747, p748, p749⟩ := hQ738
  have N739 := Fr.app N715 N739q
  have o750 := o734.keep K740 (allS g733 all0)
  have kp751 := kp735.trans K740 (allS (Or.inr z736) all0)
  have c752 : Kt p e below T738 st0 (mkF m 177 #[vi k_, vj j_, .second, vi m_, vi p_, vj q_, .second, vi 2, vi cx0, vi cx1, vi cx2, vr b689, vr b709, vi pcv, vi tl, vi ts, vi md, vr b733, u_, u_] []) := fun t k => by
   refine c738 t ?_
   show S_ p e below T738 m 175 #[vi k_, vj j_, .second, vi m_, vi p_, vj q_, .second, vi 2, vi cx0, vi cx1, vi cx2, vr b689, vr b709, vi pcv, vi tl, vi ts, vi md, u_, u_, u_] [(rr b733)] t
   refine XS.astore X738.here hx rfl (hb hby at_175) rfl rfl (l' := #[vi k_, vj j_, .second, vi m_, vi p_, vj q_, .second, vi 2, vi cx0, vi cx1, vi cx2, vr b689, vr b709, vi pcv, vi tl, vi ts, vi md, vr b733, u_, u_]) rfl ?_
   exact k
  obtain ⟨mv913, mv914, mv915, mv916, mv917, T918, h918, L918, X918, e918, o918, K918, kp918, N918, f919, f920, f921, f922, f923, c918⟩ : ∃ (mv913 : Int32), ∃ (mv914 : Value), ∃ (mv915 : Value), ∃ (mv916 : Int64), ∃ (mv917 : Int32), ∃ (T918 : State) (h918 : Heap) (L918 : List Loc), Stand p l e room_1 (s.setVm s.vm) m #[(.int k_), (.long j_), (.int m_), (.int p_), (.long q_)] below meth c T918 L918 8 81 ∧ T918.heap = h918 ∧ Old Z n0 h918 ∧ Keep T738.heap h918 [b733] ∧ Keep h0 h918 [] ∧ Fr n0 L918 ∧ Fld Z h918 b733 nm1 "copiedLength" "I" (.int mv913) ∧ Fld Z h918 b733 nm1 "made" nm10 mv914 ∧ Fld Z h918 b733 nm1 "read" nm3 mv915 ∧ Fld Z h918 b733 nm1 "offset" "J" (.long mv916) ∧ Fld Z h918 b733 nm1 "terminatorLength" "I" (.int mv917) ∧ Kt p e below T918 st0 (mkF m 288 #[vi k_, vj j_, .second, vi m_, vi p_, vj q_, .second, vi 2, vi cx0, vi cx1, vi cx2, vr b689, vr b709, vi pcv, vi tl, vi ts, vi md, vr b733, u_, u_] []) := by
   have c753 : Kt p e below T738 st0 (mkF m 180 #[vi k_, vj j_, .second, vi m_, vi p_, vj q_, .second, vi 2, vi cx0, vi cx1, vi cx2, vr b689, vr b709, vi pcv, vi tl, vi ts, vi md, vr b733, u_, u_] [(ii 1), (.int md)]) := fun t k => by
    refine c752 t ?_
    show S_ p e below T738 m 177 #[vi k_, vj j_, .second, vi m_, vi p_, vj q_, .second, vi 2, vi cx0, vi cx1, vi cx2, vr b689, vr b709, vi pcv, vi tl, vi ts, vi md, vr b733, u_, u_] [] t
    refine XS.iload X738.here hx rfl (hb hby at_177) rfl ?_
    refine XS.iconst X738.here hx rfl (hb hby at_179) ?_
    exact k
   by_cases hc754 : md = (1 : Int32)
   ·have c755 : Kt p e below T738 st0 (mkF m 187 #[vi k_, vj j_, .second, vi m_, vi p_, vj q_, .second, vi 2, vi cx0, vi cx1, vi cx2, vr b689, vr b709, vi pcv, vi tl, vi ts, vi md, vr b733, u_, u_] [(.int pcv), (rr b733)]) := fun t k => by
     refine c753 t ?_
     show S_ p e below T738 m 180 #[vi k_, vj j_, .second, vi m_, vi p_, vj q_, .second, vi 2, vi cx0, vi cx1, vi cx2, vr b689, vr b709, vi pcv, vi tl, vi ts, vi md, vr b733, u_, u_] [(ii 1), (.int md)] t
     refine XS.icmpNo X738.here hx rfl (hb hby at_180) rfl (teq hc754).2 ?_
     refine XS.aload X738.here hx rfl (hb hby at_183) rfl rfl ?_
     refine XS.iload X738.here hx rfl (hb hby at_185) rfl ?_
     exact k
    obtain ⟨_, T756, L756, X756, hQ756, c756⟩ := kstat X738 hx hZ hown (w32 hw) (w33 hw) (w3 hw) (w34 hw) (rm_svo l Z a0 hw [] pcv si1_ T738.heap n0 o750 ZS0_ sn4_ hg731) rfl c755 hml pd_pCrLjava_lang_String_ [(.int pcv)] [(rr b733)] 1 (hb hby at_187) rfl rfl rfl rfl rfl rfl
    obtain ⟨b757, rfl, N758q, K759, p760, p761, b762, k763, p764, p765, p766⟩ := hQ756
    have N758 := Fr.app N739 N758q
    have o767 := o750.keep K759 all0
    have kp768 := kp751.trans K759 all0
    have z769 := Nat.le_trans kp751.1 p766
    have g770 := Nat.le_trans (Nat.le_trans (Nat.le_of_eq o750.1.symm) o750.2.1) p766
    have c771 : Kt p e below T756 st0 (mkF m 192 #[vi k_, vj j_, .second, vi m_, vi p_, vj q_, .second, vi 2, vi cx0, vi cx1, vi cx2, vr b689, vr b709, vi pcv, vi tl, vi ts, vi md, vr b733, u_, u_] [(.long q_), (rr b757), (rr b733)]) := fun t k => by
     refine c756 t ?_
     show S_ p e below T756 m 190 #[vi k_, vj j_, .second, vi m_, vi p_, vj q_, .second, vi 2, vi cx0, vi cx1, vi cx2, vr b689, vr b709, vi pcv, vi tl, vi ts, vi md, vr b733, u_, u_] [(rr b757), (rr b733)] t
     refine XS.lload X756.here hx rfl (hb hby at_190) rfl ?_
     exact k
    obtain ⟨_, T772, L772, X772, hQ772, c772⟩ := kstat X756 hx hZ hown (w47 hw) (w48 hw) (w49 hw) (w50 hw) (rm_mof_1 l Z a0 hw [] b757 b762 k763 [(.int (nar .byte (pcv.toInt8.toInt32)))] si1_ q_ T756.heap n0 o767 p760 p761 p764 p765 ZS0_ sn4_) rfl c771 hml pd_pLjava_lang_String_JrLgleaner_Match_ [(rr b757), (.long q_)] [(rr b733)] 1 (hb hby at_192) rfl rfl rfl rfl rfl rfl
    obtain ⟨b773, b774, k775, rfl, N776q, K777, p778, p779, p780, p781, p782, p783, p784, p785⟩ := hQ772
    have N776 := Fr.app N758 N776q
    have o786 := o767.keep K777 all0
    have kp787 := kp768.trans K777 all0
    have z788 := Nat.le_trans kp768.1 p784
    have g789 := Nat.le_trans (Nat.le_trans (Nat.le_of_eq o767.1.symm) o767.2.1) p784
    have z790 := Nat.le_trans kp768.1 p785
    have g791 := Nat.le_trans (Nat.le_trans (Nat.le_of_eq o767.1.symm) o767.2.1) p785
    obtain ⟨_, T792, L792, X792, hQ792, c792⟩ := kvirt X772 hx hZ hown (w74 hw) (w75 hw) (w77 hw) (w76 hw) (w78 hw) (w25 hw) (rm_set8R l Z a0 hw [] b733 b773 (.null) (.null) (-1 : Int32) (0 : Int64) (0 : Int32) (.null) (0 : Int32) (0 : Int32) T772.heap n0 o786 ((p741.keep K759).keep K777) g733 ((p742.keep K759 nin0).keep K777 nin0) ((p743.keep K759 nin0).keep K777 nin0) ((p744.keep K759 nin0).keep K777 nin0) ((p745.keep K759 nin0).keep K777 nin0) ((p746.keep K759 nin0).keep K777 nin0) ((p747.keep K759 nin0).keep K777 nin0) ((p748.keep K759 nin0).keep K777 nin0) ((p749.keep K759 nin0).keep K777 nin0)) rfl ((p741.keep K759).keep K777) c772 hml pd_pLgleaner_Match_rV [(rr b773)] [] 0 (hb hby at_195) rfl rfl rfl rfl rfl rfl
    obtain ⟨rfl, N793q, K794, p795, p796, p797, p798, p799, p800, p801, p802, p803⟩ := hQ792
    have N793 := Fr.app N776 N793q
    have o804 := o786.keep K794 (allS g733 all0)
    have kp805 := kp787.trans K794 (allS (Or.inr z736) all0)
    have c806 : Kt p e below T792 st0 (mkF m 288 #[vi k_, vj j_, .second, vi m_, vi p_, vj q_, .second, vi 2, vi cx0, vi cx1, vi cx2, vr b689, vr b709, vi pcv, vi tl, vi ts, vi md, vr b733, u_, u_] []) := fun t k => by
     refine c792 t ?_
     show S_ p e below T792 m 198 #[vi k_, vj j_, .second, vi m_, vi p_, vj q_, .second, vi 2, vi cx0, vi cx1, vi cx2, vr b689, vr b709, vi pcv, vi tl, vi ts, vi md, vr b733, u_, u_] [] t
     refine yG X792.here hx rfl 198 288 rfl (hb hby at_198) ?_
     exact k
    have K929 : Keep T738.heap T792.heap [b733] := ((((Keep.refl _ _).trans K759 all0).trans K777 all0).trans K794 (allS (Or.inl (List.mem_of_getElem? (i := 0) rfl)) all0))
    exact ⟨(-1 : Int32), (rr b773), .null, (0 : Int64), (0 : Int32), T792, _, _, X792.mono (by decide) (by decide), rfl, o804, K929, kp805, N793, p798, p796, p797, p799, p800, c806⟩
   ·have c807 : Kt p e below T738 st0 (mkF m 204 #[vi k_, vj j_, .second, vi m_, vi p_, vj q_, .second, vi 2, vi cx0, vi cx1, vi cx2, vr b689, vr b709, vi pcv, vi tl, vi ts, vi md, vr b733, u_, u_] [(ii 2), (.int md)]) := fun t k => by
     refine c753 t ?_
     show S_ p e below T738 m 180 #[vi k_, vj j_, .second, vi m_, vi p_, vj q_, .second, vi 2, vi cx0, vi cx1, vi cx2, vr b689, vr b709, vi pcv, vi tl, vi ts, vi md, vr b733, u_, u_] [(ii 1), (.int md)] t
     refine yC X738.here hx rfl 180 201 rfl (hb hby at_180) rfl (feq hc754).2 ?_
     refine XS.iload X738.here hx rfl (hb hby at_201) rfl ?_
     refine XS.iconst X738.here hx rfl (hb hby at_203) ?_
     exact k
    by_cases hc808 : md = (2 : Int32)
    ·have c809 : Kt p e below T738 st0 (mkF m 211 #[vi k_, vj j_, .second, vi m_, vi p_, vj q_, .second, vi 2, vi cx0, vi cx1, vi cx2, vr b689, vr b709, vi pcv, vi tl, vi ts, vi md, vr b733, u_, u_] [(.int pcv), (rr b733)]) := fun t k => by
      refine c807 t ?_
      show S_ p e below T738 m 204 #[vi k_, vj j_, .second, vi m_, vi p_, vj q_, .second, vi 2, vi cx0, vi cx1, vi cx2, vr b689, vr b709, vi pcv, vi tl, vi ts, vi md, vr b733, u_, u_] [(ii 2), (.int md)] t
      refine XS.icmpNo X738.here hx rfl (hb hby at_204) rfl (teq hc808).2 ?_
      refine XS.aload X738.here hx rfl (hb hby at_207) rfl rfl ?_
      refine XS.iload X738.here hx rfl (hb hby at_209) rfl ?_
      exact k
     obtain ⟨_, T810, L810, X810, hQ810, c810⟩ := kstat X738 hx hZ hown (w32 hw) (w33 hw) (w3 hw) (w34 hw) (rm_svo l Z a0 hw [] pcv si1_ T738.heap n0 o750 ZS0_ sn4_ hg731) rfl c809 hml pd_pCrLjava_lang_String_ [(.int pcv)] [(rr b733)] 1 (hb hby at_211) rfl rfl rfl rfl rfl rfl
     obtain ⟨b811, rfl, N812q, K813, p814, p815, b816, k817, p818, p819, p820⟩ := hQ810
     have N812 := Fr.app N739 N812q
     have o821 := o750.keep K813 all0
     have kp822 := kp751.trans K813 all0
     have z823 := Nat.le_trans kp751.1 p820
     have g824 := Nat.le_trans (Nat.le_trans (Nat.le_of_eq o750.1.symm) o750.2.1) p820
     have c825 : Kt p e below T810 st0 (mkF m 220 #[vi k_, vj j_, .second, vi m_, vi p_, vj q_, .second, vi 2, vi cx0, vi cx1, vi cx2, vr b689, vr b709, vi pcv, vi tl, vi ts, vi md, vr b733, u_, u_] [(.int ts), (.int tl), (.long q_), (rr b811), (rr b733)]) := fun t k => by
      refine c810 t ?_
      show S_ p e below T810 m 214 #[vi k_, vj j_, .second, vi m_, vi p_, vj q_, .second, vi 2, vi cx0, vi cx1, vi cx2, vr b689, vr b709, vi pcv, vi tl, vi ts, vi md, vr b733, u_, u_] [(rr b811), (rr b733)] t
      refine XS.lload X810.here hx rfl (hb hby at_214) rfl ?_
      refine XS.iload X810.here hx rfl (hb hby at_216) rfl ?_
      refine XS.iload X810.here hx rfl (hb hby at_218) rfl ?_
      exact k
     obtain ⟨_, T826, L826, X826, hQ826, c826⟩ := kvirt X810 hx hZ hown (w172 hw) (w173 hw) (w175 hw) (w174 hw) (w176 hw) (w25 hw) (rm_line l Z a0 hw [] b733 b811 q_ tl ts (.null) (.null) (-1 : Int32) (0 : Int64) (0 : Int32) (.null) (0 : Int32) (0 : Int32) T810.heap n0 o821 (p741.keep K813) g733 (p742.keep K813 nin0) (p743.keep K813 nin0) (p744.keep K813 nin0) (p745.keep K813 nin0) (p746.keep K813 nin0) (p747.keep K813 nin0) (p748.keep K813 nin0) (p749.keep K813 nin0)) rfl (p741.keep K813) c825 hml pd_pLjava_lang_String_JICrV [(rr b811), (.long q_), (.int tl), (.int ts)] [] 0 (hb hby at_220) rfl rfl rfl rfl rfl rfl
     obtain ⟨rfl, N827q, K828, p829, p830, p831, p832, p833, p834⟩ := hQ826
     have N827 := Fr.app N812 N827q
     have o835 := o821.keep K828 (allS g733 all0)
     have kp836 := kp822.trans K828 (allS (Or.inr z736) all0)
     have c837 : Kt p e below T826 st0 (mkF m 288 #[vi k_, vj j_, .second, vi m_, vi p_, vj q_, .second, vi 2, vi cx0, vi cx1, vi cx2, vr b689, vr b709, vi pcv, vi tl, vi ts, vi md, vr b733, u_, u_] []) := fun t k => by
      refine c826 t ?_
      show S_ p e below T826 m 223 #[vi k_, vj j_, .second, vi m_, vi p_, vj q_, .second, vi 2, vi cx0, vi cx1, vi cx2, vr b689, vr b709, vi pcv, vi tl, vi ts, vi md, vr b733, u_, u_] [] t
      refine yG X826.here hx rfl 223 288 rfl (hb hby at_223) ?_
      exact k
     have K928 : Keep T738.heap T826.heap [b733] := (((Keep.refl _ _).trans K813 all0).trans K828 (allS (Or.inl (List.mem_of_getElem? (i := 0) rfl)) all0))
     exact ⟨(-1 : Int32), .null, (rr b811), q_, tl, T826, _, _, X826.mono (by decide) (by decide), rfl, o835, K928, kp836, N827, p832, p830, p831, p833, p834, c837⟩
    ·have c838 : Kt p e below T738 st0 (mkF m 229 #[vi k_, vj j_, .second, vi m_, vi p_, vj q_, .second, vi 2, vi cx0, vi cx1, vi cx2, vr b689, vr b709, vi pcv, vi tl, vi ts, vi md, vr b733, u_, u_] [(ii 3), (.int md)]) := fun t k => by
      refine c807 t ?_
      show S_ p e below T738 m 204 #[vi k_, vj j_, .second, vi m_, vi p_, vj q_, .second, vi 2, vi cx0, vi cx1, vi cx2, vr b689, vr b709, vi pcv, vi tl, vi ts, vi md, vr b733, u_, u_] [(ii 2), (.int md)] t
      refine yC X738.here hx rfl 204 226 rfl (hb hby at_204) rfl (feq hc808).2 ?_
      refine XS.iload X738.here hx rfl (hb hby at_226) rfl ?_
      refine XS.iconst X738.here hx rfl (hb hby at_228) ?_
      exact k
     by_cases hc839 : md = (3 : Int32)
     ·have c840 : Kt p e below T738 st0 (mkF m 235 #[vi k_, vj j_, .second, vi m_, vi p_, vj q_, .second, vi 2, vi cx0, vi cx1, vi cx2, vr b689, vr b709, vi pcv, vi tl, vi ts, vi md, vr b733, u_, u_] [(ii 1), (rr b733)]) := fun t k => by
       refine c838 t ?_
       show S_ p e below T738 m 229 #[vi k_, vj j_, .second, vi m_, vi p_, vj q_, .second, vi 2, vi cx0, vi cx1, vi cx2, vr b689, vr b709, vi pcv, vi tl, vi ts, vi md, vr b733, u_, u_] [(ii 3), (.int md)] t
       refine XS.icmpNo X738.here hx rfl (hb hby at_229) rfl (teq hc839).2 ?_
       refine XS.aload X738.here hx rfl (hb hby at_232) rfl rfl ?_
       refine XS.iconst X738.here hx rfl (hb hby at_234) ?_
       exact k
      obtain ⟨b841, T841, h841, k841, z841, g841, X841, e841, E841, o842, A841, c841⟩ := knewP (aty := .char) X738 hx hZ (w0 hw) rfl c840 rfl (hb hby at_235) rfl (by decide) 1 (by decide) (by decide) (by decide) (by decide) o750
      have kp844 := kp751.ext E841
      have z845 := Nat.le_trans kp751.1 z841
      have f843 : Arv Z h841 b841 k841 .char (1 : Int32) [(ii 0)] (ii 0) := A841.pad (pad_rep [] (ii 0) 1)
      have c846 : Kt p e below T841 st0 (mkF m 241 #[vi k_, vj j_, .second, vi m_, vi p_, vj q_, .second, vi 2, vi cx0, vi cx1, vi cx2, vr b689, vr b709, vi pcv, vi tl, vi ts, vi md, vr b733, u_, u_] [(.int pcv), (ii 0), (rr b841), (rr b841), (rr b733)]) := fun t k => by
       refine c841 t ?_
       show S_ p e below T841 m 237 #[vi k_, vj j_, .second, vi m_, vi p_, vj q_, .second, vi 2, vi cx0, vi cx1, vi cx2, vr b689, vr b709, vi pcv, vi tl, vi ts, vi md, vr b733, u_, u_] [(rr b841), (rr b733)] t
       refine XS.dup X841.here hx rfl (hb hby at_237) rfl rfl ?_
       refine XS.iconst X841.here hx rfl (hb hby at_238) ?_
       refine XS.iload X841.here hx rfl (hb hby at_239) rfl ?_
       exact k
      obtain ⟨T847, h847, X847, e847, W847, f850, o848, N849, c847⟩ := kstC X841 hx hZ e841 f843 (j := (0 : Int32)) (by decide) (by decide) 0 rfl (Nat.le_of_ble_eq_true rfl) c846 rfl rfl (hb hby at_241) o842 N739 g841
      rw [hg730] at W847 f850
      have f851 : Arv Z h847 b841 k841 .char (1 : Int32) [(.int pcv)] (ii 0) := f850
      have kp852 := kp844.wr W847 (Or.inr z845)
      have q853 := Nat.ne_of_lt (Nat.lt_of_lt_of_le p741.lt z841)
      have c854 : Kt p e below T847 st0 (mkF m 246 #[vi k_, vj j_, .second, vi m_, vi p_, vj q_, .second, vi 2, vi cx0, vi cx1, vi cx2, vr b689, vr b709, vi pcv, vi tl, vi ts, vi md, vr b733, u_, u_] [(.long q_), (ii 1), (ii 0), (rr b841), (rr b733)]) := fun t k => by
       refine c847 t ?_
       show S_ p e below T847 m 242 #[vi k_, vj j_, .second, vi m_, vi p_, vj q_, .second, vi 2, vi cx0, vi cx1, vi cx2, vr b689, vr b709, vi pcv, vi tl, vi ts, vi md, vr b733, u_, u_] [(rr b841), (rr b733)] t
       refine XS.iconst X847.here hx rfl (hb hby at_242) ?_
       refine XS.iconst X847.here hx rfl (hb hby at_243) ?_
       refine XS.lload X847.here hx rfl (hb hby at_244) rfl ?_
       exact k
      obtain ⟨_, T855, L855, X855, hQ855, c855⟩ := kvirt X847 hx hZ hown (w191 hw) (w192 hw) (w194 hw) (w193 hw) (w195 hw) (w25 hw) (rm_tokC l Z a0 hw [] b733 b841 k841 [(.int pcv)] q_ (.null) (.null) (-1 : Int32) (0 : Int64) (0 : Int32) (0 : Int32) (0 : Int32) h847 n0 o848 ((p741.ext E841).wr W847) g733 ((p742.ext E841).other W847 (Or.inl q853)) ((p743.ext E841).other W847 (Or.inl q853)) ((p744.ext E841).other W847 (Or.inl q853)) ((p745.ext E841).other W847 (Or.inl q853)) ((p746.ext E841).other W847 (Or.inl q853)) ((p747.ext E841).other W847 (Or.inl q853)) ((p748.ext E841).other W847 (Or.inl q853)) ((p749.ext E841).other W847 (Or.inl q853)) f851) e847 ((p741.ext E841).wr W847) c854 hml pd_pACIIJrV [(rr b841), (ii 0), (ii 1), (.long q_)] [] 0 (hb hby at_246) rfl rfl rfl rfl rfl rfl
      obtain ⟨rfl, N856q, K857, p858, p859, p860, p861, p862, p863⟩ := hQ855
      have N856 := Fr.app N849 N856q
      have o864 := o848.keep K857 (allS g733 all0)
      have kp865 := kp852.trans K857 (allS (Or.inr z736) all0)
      have c866 : Kt p e below T855 st0 (mkF m 288 #[vi k_, vj j_, .second, vi m_, vi p_, vj q_, .second, vi 2, vi cx0, vi cx1, vi cx2, vr b689, vr b709, vi pcv, vi tl, vi ts, vi md, vr b733, u_, u_] []) := fun t k => by
       refine c855 t ?_
       show S_ p e below T855 m 249 #[vi k_, vj j_, .second, vi m_, vi p_, vj q_, .second, vi 2, vi cx0, vi cx1, vi cx2, vr b689, vr b709, vi pcv, vi tl, vi ts, vi md, vr b733, u_, u_] [] t
       refine yG X855.here hx rfl 249 288 rfl (hb hby at_249) ?_
       exact k
      have K927 : Keep T738.heap T855.heap [b733] := ((((Keep.refl _ _).ext E841).wr W847 (Or.inr (Nat.le_trans (Nat.le_refl _) z841))).trans K857 (allS (Or.inl (List.mem_of_getElem? (i := 0) rfl)) all0))
      exact ⟨(1 : Int32), .null, .null, q_, (-1 : Int32), T855, _, _, X855.mono (by decide) (by decide), rfl, o864, K927, kp865, N856, p861, p859, p860, p862, p863, c866⟩
     ·have c867 : Kt p e below T738 st0 (mkF m 255 #[vi k_, vj j_, .second, vi m_, vi p_, vj q_, .second, vi 2, vi cx0, vi cx1, vi cx2, vr b689, vr b709, vi pcv, vi tl, vi ts, vi md, vr b733, u_, u_] [(ii 4), (.int md)]) := fun t k => by
       refine c838 t ?_
       show S_ p e below T738 m 229 #[vi k_, vj j_, .second, vi m_, vi p_, vj q_, .second, vi 2, vi cx0, vi cx1, vi cx2, vr b689, vr b709, vi pcv, vi tl, vi ts, vi md, vr b733, u_, u_] [(ii 3), (.int md)] t
       refine yC X738.here hx rfl 229 252 rfl (hb hby at_229) rfl (feq hc839).2 ?_
       refine XS.iload X738.here hx rfl (hb hby at_252) rfl ?_
       refine XS.iconst X738.here hx rfl (hb hby at_254) ?_
       exact k
      by_cases hc868 : md = (4 : Int32)
      ·have c869 : Kt p e below T738 st0 (mkF m 262 #[vi k_, vj j_, .second, vi m_, vi p_, vj q_, .second, vi 2, vi cx0, vi cx1, vi cx2, vr b689, vr b709, vi pcv, vi tl, vi ts, vi md, vr b733, u_, u_] [(.int pcv), (rr b733)]) := fun t k => by
        refine c867 t ?_
        show S_ p e below T738 m 255 #[vi k_, vj j_, .second, vi m_, vi p_, vj q_, .second, vi 2, vi cx0, vi cx1, vi cx2, vr b689, vr b709, vi pcv, vi tl, vi ts, vi md, vr b733, u_, u_] [(ii 4), (.int md)] t
        refine XS.icmpNo X738.here hx rfl (hb hby at_255) rfl (teq hc868).2 ?_
        refine XS.aload X738.here hx rfl (hb hby at_258) rfl rfl ?_
        refine XS.iload X738.here hx rfl (hb hby at_260) rfl ?_
        exact k
       obtain ⟨_, T870, L870, X870, hQ870, c870⟩ := kstat X738 hx hZ hown (w32 hw) (w33 hw) (w3 hw) (w34 hw) (rm_svo l Z a0 hw [] pcv si1_ T738.heap n0 o750 ZS0_ sn4_ hg731) rfl c869 hml pd_pCrLjava_lang_String_ [(.int pcv)] [(rr b733)] 1 (hb hby at_262) rfl rfl rfl rfl rfl rfl
       obtain ⟨b871, rfl, N872q, K873, p874, p875, b876, k877, p878, p879, p880⟩ := hQ870
       have N872 := Fr.app N739 N872q
       have o881 := o750.keep K873 all0
       have kp882 := kp751.trans K873 all0
       have z883 := Nat.le_trans kp751.1 p880
       have g884 := Nat.le_trans (Nat.le_trans (Nat.le_of_eq o750.1.symm) o750.2.1) p880
       have c885 : Kt p e below T870 st0 (mkF m 271 #[vi k_, vj j_, .second, vi m_, vi p_, vj q_, .second, vi 2, vi cx0, vi cx1, vi cx2, vr b689, vr b709, vi pcv, vi tl, vi ts, vi md, vr b733, u_, u_] [(.int (tl &&& (1 : Int32))), (.long q_), (rr b871), (rr b733)]) := fun t k => by
        refine c870 t ?_
        show S_ p e below T870 m 265 #[vi k_, vj j_, .second, vi m_, vi p_, vj q_, .second, vi 2, vi cx0, vi cx1, vi cx2, vr b689, vr b709, vi pcv, vi tl, vi ts, vi md, vr b733, u_, u_] [(rr b871), (rr b733)] t
        refine XS.lload X870.here hx rfl (hb hby at_265) rfl ?_
        refine XS.iload X870.here hx rfl (hb hby at_267) rfl ?_
        refine XS.iconst X870.here hx rfl (hb hby at_269) ?_
        refine XS.iand X870.here hx rfl (hb hby at_270) rfl ?_
        exact k
       obtain ⟨_, T886, L886, X886, hQ886, c886⟩ := kvirt X870 hx hZ hown (w207 hw) (w208 hw) (w210 hw) (w209 hw) (w211 hw) (w25 hw) (rm_lwt l Z a0 hw [] b733 b871 q_ ((tl &&& (1 : Int32))) (.null) (.null) (-1 : Int32) (0 : Int64) (0 : Int32) (.null) (0 : Int32) (0 : Int32) T870.heap n0 o881 (p741.keep K873) g733 (p742.keep K873 nin0) (p743.keep K873 nin0) (p744.keep K873 nin0) (p745.keep K873 nin0) (p746.keep K873 nin0) (p747.keep K873 nin0) (p748.keep K873 nin0) (p749.keep K873 nin0)) rfl (p741.keep K873) c885 hml pd_pLjava_lang_String_JIrV [(rr b871), (.long q_), (.int (tl &&& (1 : Int32)))] [] 0 (hb hby at_271) rfl rfl rfl rfl rfl rfl
       obtain ⟨rfl, N887q, K888, p889, p890, p891, p892, p893, p894⟩ := hQ886
       have N887 := Fr.app N872 N887q
       have o895 := o881.keep K888 (allS g733 all0)
       have kp896 := kp882.trans K888 (allS (Or.inr z736) all0)
       have c897 : Kt p e below T886 st0 (mkF m 288 #[vi k_, vj j_, .second, vi m_, vi p_, vj q_, .second, vi 2, vi cx0, vi cx1, vi cx2, vr b689, vr b709, vi pcv, vi tl, vi ts, vi md, vr b733, u_, u_] []) := fun t k => by
        refine c886 t ?_
        show S_ p e below T886 m 274 #[vi k_, vj j_, .second, vi m_, vi p_, vj q_, .second, vi 2, vi cx0, vi cx1, vi cx2, vr b689, vr b709, vi pcv, vi tl, vi ts, vi md, vr b733, u_, u_] [] t
        refine yG X886.here hx rfl 274 288 rfl (hb hby at_274) ?_
        exact k
       have K926 : Keep T738.heap T886.heap [b733] := (((Keep.refl _ _).trans K873 all0).trans K888 (allS (Or.inl (List.mem_of_getElem? (i := 0) rfl)) all0))
       exact ⟨(-1 : Int32), .null, (rr b871), q_, (tl &&& (1 : Int32)), T886, _, _, X886.mono (by decide) (by decide), rfl, o895, K926, kp896, N887, p892, p890, p891, p893, p894, c897⟩
      ·have c898 : Kt p e below T738 st0 (mkF m 280 #[vi k_, vj j_, .second, vi m_, vi p_, vj q_, .second, vi 2, vi cx0, vi cx1, vi cx2, vr b689, vr b709, vi pcv, vi tl, vi ts, vi md, vr b733, u_, u_] [(ii 5), (.int md)]) := fun t k => by
        refine c867 t ?_
        show S_ p e below T738 m 255 #[vi k_, vj j_, .second, vi m_, vi p_, vj q_, .second, vi 2, vi cx0, vi cx1, vi cx2, vr b689, vr b709, vi pcv, vi tl, vi ts, vi md, vr b733, u_, u_] [(ii 4), (.int md)] t
        refine yC X738.here hx rfl 255 277 rfl (hb hby at_255) rfl (feq hc868).2 ?_
        refine XS.iload X738.here hx rfl (hb hby at_277) rfl ?_
        refine XS.iconst X738.here hx rfl (hb hby at_279) ?_
        exact k
       by_cases hc899 : md = (5 : Int32)
       ·have c900 : Kt p e below T738 st0 (mkF m 285 #[vi k_, vj j_, .second, vi m_, vi p_, vj q_, .second, vi 2, vi cx0, vi cx1, vi cx2, vr b689, vr b709, vi pcv, vi tl, vi ts, vi md, vr b733, u_, u_] [(rr b733)]) := fun t k => by
         refine c898 t ?_
         show S_ p e below T738 m 280 #[vi k_, vj j_, .second, vi m_, vi p_, vj q_, .second, vi 2, vi cx0, vi cx1, vi cx2, vr b689, vr b709, vi pcv, vi tl, vi ts, vi md, vr b733, u_, u_] [(ii 5), (.int md)] t
         refine XS.icmpNo X738.here hx rfl (hb hby at_280) rfl (teq hc899).2 ?_
         refine XS.aload X738.here hx rfl (hb hby at_283) rfl rfl ?_
         exact k
        obtain ⟨_, T901, L901, X901, hQ901, c901⟩ := kvirt X738 hx hZ hown (w202 hw) (w203 hw) (w205 hw) (w204 hw) (w206 hw) (w25 hw) (rm_clear l Z a0 hw [] b733 (.null) (.null) (-1 : Int32) (0 : Int64) (0 : Int32) T738.heap n0 o750 p741 g733 p742 p743 p744 p745 p746) rfl p741 c900 hml pd_prV [] [] 0 (hb hby at_285) rfl rfl rfl rfl rfl rfl
        obtain ⟨rfl, N902q, K903, p904, p905, p906, p907, p908, p909⟩ := hQ901
        have N902 := Fr.app N739 N902q
        have o910 := o750.keep K903 (allS g733 all0)
        have kp911 := kp751.trans K903 (allS (Or.inr z736) all0)
        have K925 : Keep T738.heap T901.heap [b733] := ((Keep.refl _ _).trans K903 (allS (Or.inl (List.mem_of_getElem? (i := 0) rfl)) all0))
        exact ⟨(-1 : Int32), .null, .null, (0 : Int64), (0 : Int32), T901, _, _, X901.mono (by decide) (by decide), rfl, o910, K925, kp911, N902, p907, p905, p906, p908, p909, c901⟩
       ·have c912 : Kt p e below T738 st0 (mkF m 288 #[vi k_, vj j_, .second, vi m_, vi p_, vj q_, .second, vi 2, vi cx0, vi cx1, vi cx2, vr b689, vr b709, vi pcv, vi tl, vi ts, vi md, vr b733, u_, u_] []) := fun t k => by
         refine c898 t ?_
         show S_ p e below T738 m 280 #[vi k_, vj j_, .second, vi m_, vi p_, vj q_, .second, vi 2, vi cx0, vi cx1, vi cx2, vr b689, vr b709, vi pcv, vi tl, vi ts, vi md, vr b733, u_, u_] [(ii 5), (.int md)] t
         refine yC X738.here hx rfl 280 288 rfl (hb hby at_280) rfl (feq hc899).2 ?_
         exact k
        have K924 : Keep T738.heap T738.heap [b733] := (Keep.refl _ _)
        exact ⟨(-1 : Int32), .null, .null, (0 : Int64), (0 : Int32), T738, _, _, X738.mono (by decide) (by decide), rfl, o750, K924, kp751, N739, p744, p742, p743, p745, p746, c912⟩
  have c930 : Kt p e below T918 st0 (mkF m 293 #[vi k_, vj j_, .second, vi m_, vi p_, vj q_, .second, vi 2, vi cx0, vi cx1, vi cx2, vr b689, vr b709, vi pcv, vi tl, vi ts, vi md, vr b733, u_, u_] [(.long j_), (rr b709), (rr b733)]) := fun t k => by
   refine c918 t ?_
   show S_ p e below T918 m 288 #[vi k_, vj j_, .second, vi m_, vi p_, vj q_, .second, vi 2, vi cx0, vi cx1, vi cx2, vr b689, vr b709, vi pcv, vi tl, vi ts, vi md, vr b733, u_, u_] [] t
   refine XS.aload X918.here hx rfl (hb hby at_288) rfl rfl ?_
   refine XS.aload X918.here hx rfl (hb hby at_290) rfl rfl ?_
   refine XS.lloadN X918.here hx rfl (hb hby at_292) rfl ?_
   exact k
  obtain ⟨_, T931, L931, X931, hQ931, c931⟩ := kvirt X918 hx hZ hown (w83 hw) (w84 hw) (w86 hw) (w85 hw) (w87 hw) (w25 hw) (rm_tokS l Z a0 hw [] b733 b709 j_ mv914 mv915 mv913 mv916 mv917 h918 n0 o918 (p741.keep K918) g733 f920 f921 f919 f922 f923) e918 (p741.keep K918) c930 hml pd_pLjava_lang_String_JrV [(rr b709), (.long j_)] [] 0 (hb hby at_293) rfl rfl rfl rfl rfl rfl
  obtain ⟨rfl, N932q, K933, p934, p935, p936, p937, p938, p939⟩ := hQ931
  have N932 := Fr.app N918 N932q
  have o940 := o918.keep K933 (allS g733 all0)
  have kp941 := kp918.trans K933 (allS (Or.inr z736) all0)
  have q942 := Nat.ne_of_lt (Nat.lt_of_lt_of_le p717.lt z733)
  have q943 := Nat.ne_of_lt (Nat.lt_of_lt_of_le p722.lt z733)
  have c944 : Kt p e below T931 st0 (mkF m 298 #[vi k_, vj j_, .second, vi m_, vi p_, vj q_, .second, vi 2, vi cx0, vi cx1, vi cx2, vr b689, vr b709, vi pcv, vi tl, vi ts, vi md, vr b733, u_, u_] [(rr b733)]) := fun t k => by
   refine c931 t ?_
   show S_ p e below T931 m 296 #[vi k_, vj j_, .second, vi m_, vi p_, vj q_, .second, vi 2, vi cx0, vi cx1, vi cx2, vr b689, vr b709, vi pcv, vi tl, vi ts, vi md, vr b733, u_, u_] [] t
   refine XS.aload X931.here hx rfl (hb hby at_296) rfl rfl ?_
   exact k
  obtain ⟨_, T945, L945, X945, hQ945, c945⟩ := kvirt X931 hx hZ hown (w93 hw) (w94 hw) (w96 hw) (w95 hw) (w97 hw) (w25 hw) (rm_get_2 l Z a0 hw [] b733 j_ b709 b719 k720 [(.int (nar .byte (cx0.toInt8.toInt32))), (.int (nar .byte (cx1.toInt8.toInt32)))] si1_ T931.heap n0 o940 p934 g733 p935 p936 p937 p938 p939 ((((p717.ext E733).keep K740).keep K918).keep K933) ((((p718.ext E733).keep K740 (ninS q942 nin0)).keep K918 (ninS q942 nin0)).keep K933 (ninS q942 nin0)) ((((p721.ext E733).keep K740 (ninS q942 nin0)).keep K918 (ninS q942 nin0)).keep K933 (ninS q942 nin0)) ((((p722.ext E733).keep K740 (ninS q943 nin0)).keep K918 (ninS q943 nin0)).keep K933 (ninS q943 nin0)) ZS0_ sn4_) rfl p934 c944 hml pd_prLgleaner_Match_ [] [] 0 (hb hby at_298) rfl rfl rfl rfl rfl rfl
  obtain ⟨b946, b947, k948, rfl, N949q, K950, p951, p952, p953, p954, p955, p956, p957⟩ := hQ945
  have N949 := Fr.app N932 N949q
  have o958 := o940.keep K950 (allS g733 all0)
  have kp959 := kp941.trans K950 (allS (Or.inr z736) all0)
  have z960 := Nat.le_trans kp941.1 p956
  have g961 := Nat.le_trans (Nat.le_trans (Nat.le_of_eq o940.1.symm) o940.2.1) p956
  have z962 := Nat.le_trans kp941.1 p957
  have g963 := Nat.le_trans (Nat.le_trans (Nat.le_of_eq o940.1.symm) o940.2.1) p957
  have c964 : Kt p e below T945 st0 (mkF m 312 #[vi k_, vj j_, .second, vi m_, vi p_, vj q_, .second, vi 2, vi cx0, vi cx1, vi cx2, vr b689, vr b709, vi pcv, vi tl, vi ts, vi md, vr b733, vr b946, u_] [(rr b946)]) := fun t k => by
   refine c945 t ?_
   show S_ p e below T945 m 301 #[vi k_, vj j_, .second, vi m_, vi p_, vj q_, .second, vi 2, vi cx0, vi cx1, vi cx2, vr b689, vr b709, vi pcv, vi tl, vi ts, vi md, vr b733, u_, u_] [(rr b946)] t
   refine XS.astore X945.here hx rfl (hb hby at_301) rfl rfl (l' := #[vi k_, vj j_, .second, vi m_, vi p_, vj q_, .second, vi 2, vi cx0, vi cx1, vi cx2, vr b689, vr b709, vi pcv, vi tl, vi ts, vi md, vr b733, vr b946, u_]) rfl ?_
   refine XS.aload X945.here hx rfl (hb hby at_303) rfl rfl ?_
   refine XS.ifnonnullYes X945.here hx rfl (pc0 := 305) (pc' := 310) rfl (hb hby at_305) rfl (by decide) (by decide) ?_
   refine XS.aload X945.here hx rfl (hb hby at_310) rfl rfl ?_
   exact k
  have ch967 : CHr Z consts_1 s.vm h0 s.vm h689 := ch0.trans (CHr.ext E689 ch0.1)
  have sf968 : Safe Z consts_1 s.vm h689 b689 := own_sE (Safe.new z689) ch0.1 E689
  have ch969 : CHr Z consts_1 s.vm h0 s.vm h695 := ch967.trans (CHr.wr W695 sf968 ch967.1)
  have sf970 : Safe Z consts_1 s.vm h695 b689 := own_sW sf968 ch967.1 W695 sf968
  have ch971 : CHr Z consts_1 s.vm h0 s.vm h702 := ch969.trans (CHr.wr W702 sf970 ch969.1)
  have ch972 : CHr Z consts_1 s.vm h0 s.vm h709 := ch971.trans (CHr.ext E709 ch971.1)
  have sf973 : Safe Z consts_1 s.vm h709 b709 := own_sE (Safe.new z709) ch971.1 E709
  have ch974 : CHr Z consts_1 s.vm h0 s.vm T714.heap := ch972.trans (CHr.keep K716 (allS sf973 all0) ch972.1)
  have ch975 : CHr Z consts_1 s.vm h0 s.vm h733 := ch974.trans (CHr.ext E733 ch974.1)
  have sf976 : Safe Z consts_1 s.vm h733 b733 := own_sE (Safe.new z733) ch974.1 E733
  have ch977 : CHr Z consts_1 s.vm h0 s.vm T738.heap := ch975.trans (CHr.keep K740 (allS sf976 all0) ch975.1)
  have sf978 : Safe Z consts_1 s.vm T738.heap b733 := own_sK sf976 ch975.1 K740 (allS sf976 all0)
  have ch979 : CHr Z consts_1 s.vm h0 s.vm h918 := ch977.trans (CHr.keep K918 (allS sf978 all0) ch977.1)
  have sf980 : Safe Z consts_1 s.vm h918 b733 := own_sK sf978 ch977.1 K918 (allS sf978 all0)
  have ch981 : CHr Z consts_1 s.vm h0 s.vm T931.heap := ch979.trans (CHr.keep K933 (allS sf980 all0) ch979.1)
  have sf982 : Safe Z consts_1 s.vm T931.heap b733 := own_sK sf980 ch979.1 K933 (allS sf980 all0)
  have ch983 : CHr Z consts_1 s.vm h0 s.vm T945.heap := ch981.trans (CHr.keep K950 (allS sf982 all0) ch981.1)
  obtain ⟨a965, T965, h965, k965, b965, kb965, X965, e965, E965, o966, hS965, hk965, hZ965, hown965, fE965, fC965, fV965, fA965, Lt965, cr965, hne965, c965⟩ := kldcH X945 hx hZ hown hS0 (Nat.le_trans (Nat.zero_le _) (Nat.le_trans (Nat.le_trans (Nat.le_trans (Nat.le_trans (Nat.le_trans (Nat.le_trans (Nat.le_trans (Nat.le_trans (Nat.le_trans E689.1 (Keep.of_wr W695).1) (Keep.of_wr W702).1) E709.1) K716.1) E733.1) K740.1) K918.1) K933.1) K950.1)) (w99 hw) (own_atoms hw) (own_EW hw) (by simp [consts_1]) ch983.1 rfl c964 0 (hb hby at_312) rfl (vs := []) (z := (0 : Int32)) ⟨by decide, rfl⟩ (by decide) rfl (by decide) (by decide) (by decide) (by decide) o958
  have kp984 := kp959.ext E965
  have ch985 : CHr Z consts_1 s.vm h0 T965.vm h965 := ch983.trans cr965
  have c986 : Kt p e below T965 st0 (mkF m 316 #[vi k_, vj j_, .second, vi m_, vi p_, vj q_, .second, vi 2, vi cx0, vi cx1, vi cx2, vr b689, vr b709, vi pcv, vi tl, vi ts, vi md, vr b733, vr b946, u_] [(.long (-j_)), (rr a965), (rr b946)]) := fun t k => by
   refine c965 t ?_
   show S_ p e below T965 m 314 #[vi k_, vj j_, .second, vi m_, vi p_, vj q_, .second, vi 2, vi cx0, vi cx1, vi cx2, vr b689, vr b709, vi pcv, vi tl, vi ts, vi md, vr b733, vr b946, u_] [(rr a965), (rr b946)] t
   refine XS.lloadN X965.here hx rfl (hb hby at_314) rfl ?_
   refine XS.lneg X965.here hx rfl (hb hby at_315) rfl ?_
   exact k
  obtain ⟨_, T987, L987, X987, hQ987, c987⟩ := kstat X965 hx hZ965 hown965 (w47 hw) (w48 hw) (w49 hw) (w50 hw) (rm_mof_0 l Z a0 hw [] a965 b965 kb965 [] si1_ (-j_) h965 n0 o966 fE965 fC965 fV965 fA965 ZS0_ sn4_) e965 c986 hml pd_pLjava_lang_String_JrLgleaner_Match_ [(rr a965), (.long (-j_))] [(rr b946)] 1 (hb hby at_316) rfl rfl rfl rfl rfl rfl
  obtain ⟨b988, b989, k990, rfl, N991q, K992, p993, p994, p995, p996, p997, p998, p999, p1000⟩ := hQ987
  have N991 := Fr.app N949 N991q
  have o1001 := o966.keep K992 all0
  have kp1002 := kp984.trans K992 all0
  have z1003 := Nat.le_trans kp984.1 p999
  have g1004 := Nat.le_trans (Nat.le_trans (Nat.le_of_eq o966.1.symm) o966.2.1) p999
  have z1005 := Nat.le_trans kp984.1 p1000
  have g1006 := Nat.le_trans (Nat.le_trans (Nat.le_of_eq o966.1.symm) o966.2.1) p1000
  obtain ⟨_, T1007, L1007, X1007, hQ1007, c1007⟩ := kvirt X987 hx hZ965 hown965 (w100 hw) (w101 hw) (w103 hw) (w102 hw) (w104 hw) (w49 hw) (rm_within l Z a0 hw [] b946 b709 j_ b947 b988 (-j_) T987.heap n0 o1001 ((p952.ext E965).keep K992 nin0) ((p953.ext E965).keep K992 nin0) ((p954.ext E965).keep K992 nin0) p995) rfl ((p951.ext E965).keep K992) c987 hml pd_pLgleaner_Match_rLgleaner_Match_ [(rr b988)] [] 0 (hb hby at_319) rfl rfl rfl rfl rfl rfl
  obtain ⟨b1008, rfl, N1009q, K1010, p1011, p1012, p1013, p1014, p1015⟩ := hQ1007
  have N1009 := Fr.app N991 N1009q
  have o1016 := o1001.keep K1010 all0
  have kp1017 := kp1002.trans K1010 all0
  have z1018 := Nat.le_trans kp1002.1 p1015
  have g1019 := Nat.le_trans (Nat.le_trans (Nat.le_of_eq o1001.1.symm) o1001.2.1) p1015
  have f1020 : Fld Z T1007.heap b1008 nm2 "offset" "J" (.long (0 : Int64)) := by rw [← own_neg j_]; exact p1013
  have f1021 := (((((((p718.ext E733).keep K740 (ninS q942 nin0)).keep K918 (ninS q942 nin0)).keep K933 (ninS q942 nin0)).keep K950 (ninS q942 nin0)).ext E965).keep K992 nin0).keep K1010 nin0
  have f1022 := (((((((p721.ext E733).keep K740 (ninS q942 nin0)).keep K918 (ninS q942 nin0)).keep K933 (ninS q942 nin0)).keep K950 (ninS q942 nin0)).ext E965).keep K992 nin0).keep K1010 nin0
  have f1023 := (((((((p722.ext E733).keep K740 (ninS q943 nin0)).keep K918 (ninS q943 nin0)).keep K933 (ninS q943 nin0)).keep K950 (ninS q943 nin0)).ext E965).keep K992 nin0).keep K1010 nin0
  have c1024 : Kt p e below T1007 st0 (mkF m 328 #[vi k_, vj j_, .second, vi m_, vi p_, vj q_, .second, vi 2, vi cx0, vi cx1, vi cx2, vr b689, vr b709, vi pcv, vi tl, vi ts, vi md, vr b733, vr b946, vr b1008] [(rr b946), (rr b709)]) := fun t k => by
   refine c1007 t ?_
   show S_ p e below T1007 m 322 #[vi k_, vj j_, .second, vi m_, vi p_, vj q_, .second, vi 2, vi cx0, vi cx1, vi cx2, vr b689, vr b709, vi pcv, vi tl, vi ts, vi md, vr b733, vr b946, u_] [(rr b1008)] t
   refine XS.astore X1007.here hx rfl (hb hby at_322) rfl rfl (l' := #[vi k_, vj j_, .second, vi m_, vi p_, vj q_, .second, vi 2, vi cx0, vi cx1, vi cx2, vr b689, vr b709, vi pcv, vi tl, vi ts, vi md, vr b733, vr b946, vr b1008]) rfl ?_
   refine XS.aload X1007.here hx rfl (hb hby at_324) rfl rfl ?_
   refine XS.aload X1007.here hx rfl (hb hby at_326) rfl rfl ?_
   exact k
  obtain ⟨_, T1025, L1025, X1025, hQ1025, c1025⟩ := kvirt X1007 hx hZ965 hown965 (w105 hw) (w106 hw) (w108 hw) (w107 hw) (w109 hw) (w49 hw) (rm_gr_2 l Z a0 hw [] b946 b947 k948 j_ b709 b719 k720 [(.int (nar .byte (cx0.toInt8.toInt32))), (.int (nar .byte (cx1.toInt8.toInt32)))] si1_ sv6_ T1007.heap n0 o1016 (((p951.ext E965).keep K992).keep K1010) (((p952.ext E965).keep K992 nin0).keep K1010 nin0) (((p953.ext E965).keep K992 nin0).keep K1010 nin0) (((p954.ext E965).keep K992 nin0).keep K1010 nin0) (((p955.ext E965).keep K992 nin0).keep K1010 nin0) ((((((((p717.ext E733).keep K740).keep K918).keep K933).keep K950).ext E965).keep K992).keep K1010) f1021 f1022 f1023 ZS0_ sn4_ ZS3_ sv6_r) rfl (((p951.ext E965).keep K992).keep K1010) c1024 hml pd_prLjava_lang_String_ [] [(rr b709)] 1 (hb hby at_328) rfl rfl rfl rfl rfl rfl
  obtain ⟨rfl, N1026q, K1027⟩ := hQ1025
  have N1026 := Fr.app N1009 N1026q
  obtain ⟨_, T1028, L1028, X1028, hQ1028, c1028⟩ := kvirt X1025 hx hZ965 hown965 (w138 hw) (w139 hw) (w141 hw) (w140 hw) (w142 hw) (w3 hw) (rm_eqs l Z a0 hw [] b709 T1007.heap n0 o1016 ) K1027 ((((((((p717.ext E733).keep K740).keep K918).keep K933).keep K950).ext E965).keep K992).keep K1010) c1025 hml pd_pLjava_lang_Object_rZ [(rr b709)] [] 0 (hb hby at_331) rfl rfl rfl rfl rfl rfl
  obtain ⟨rfl, N1029q, K1030⟩ := hQ1028
  have N1029 := Fr.app N1026 N1029q
  have c1031 : Kt p e below T1028 st0 (mkF m 339 #[vi k_, vj j_, .second, vi m_, vi p_, vj q_, .second, vi 2, vi cx0, vi cx1, vi cx2, vr b689, vr b709, vi pcv, vi tl, vi ts, vi md, vr b733, vr b946, vr b1008] [(rr b946)]) := fun t k => by
   refine c1028 t ?_
   show S_ p e below T1028 m 334 #[vi k_, vj j_, .second, vi m_, vi p_, vj q_, .second, vi 2, vi cx0, vi cx1, vi cx2, vr b689, vr b709, vi pcv, vi tl, vi ts, vi md, vr b733, vr b946, vr b1008] [(ii 1)] t
   refine XS.ifNo X1028.here hx rfl (hb hby at_334) rfl rfl ?_
   refine XS.aload X1028.here hx rfl (hb hby at_337) rfl rfl ?_
   exact k
  obtain ⟨_, T1032, L1032, X1032, hQ1032, c1032⟩ := kvirt X1028 hx hZ965 hown965 (w143 hw) (w120 hw) (w122 hw) (w121 hw) (w123 hw) (w49 hw) (rm_gc l Z a0 hw [] b946 b947 k948 [(ii 0), (ii 2)] T1007.heap n0 o1016 (((p954.ext E965).keep K992 nin0).keep K1010 nin0) (((p955.ext E965).keep K992 nin0).keep K1010 nin0)) K1030 (((p951.ext E965).keep K992).keep K1010) c1031 hml pd_prI [] [] 0 (hb hby at_339) rfl rfl rfl rfl rfl rfl
  obtain ⟨rfl, N1033q, K1034⟩ := hQ1032
  have N1033 := Fr.app N1029 N1033q
  have c1035 : Kt p e below T1032 st0 (mkF m 347 #[vi k_, vj j_, .second, vi m_, vi p_, vj q_, .second, vi 2, vi cx0, vi cx1, vi cx2, vr b689, vr b709, vi pcv, vi tl, vi ts, vi md, vr b733, vr b946, vr b1008] [(rr b1008)]) := fun t k => by
   refine c1032 t ?_
   show S_ p e below T1032 m 342 #[vi k_, vj j_, .second, vi m_, vi p_, vj q_, .second, vi 2, vi cx0, vi cx1, vi cx2, vr b689, vr b709, vi pcv, vi tl, vi ts, vi md, vr b733, vr b946, vr b1008] [(ii 0)] t
   refine XS.ifNo X1032.here hx rfl (hb hby at_342) rfl rfl ?_
   refine XS.aload X1032.here hx rfl (hb hby at_345) rfl rfl ?_
   exact k
  obtain ⟨_, T1036, L1036, X1036, hQ1036, c1036⟩ := kvirt X1032 hx hZ965 hown965 (w144 hw) (w145 hw) (w147 hw) (w146 hw) (w148 hw) (w49 hw) (rm_start_2 l Z a0 hw [] b1008 b709 b947 k948 T1007.heap n0 o1016 p1011 p1012 f1020 p1014 (((p955.ext E965).keep K992 nin0).keep K1010 nin0)) K1034 p1011 c1035 hml pd_prI [] [] 0 (hb hby at_347) rfl rfl rfl rfl rfl rfl
  obtain ⟨rfl, N1037q, K1038⟩ := hQ1036
  have N1037 := Fr.app N1033 N1037q
  have c1039 : Kt p e below T1036 st0 (mkF m 355 #[vi k_, vj j_, .second, vi m_, vi p_, vj q_, .second, vi 2, vi cx0, vi cx1, vi cx2, vr b689, vr b709, vi pcv, vi tl, vi ts, vi md, vr b733, vr b946, vr b1008] [(rr b1008)]) := fun t k => by
   refine c1036 t ?_
   show S_ p e below T1036 m 350 #[vi k_, vj j_, .second, vi m_, vi p_, vj q_, .second, vi 2, vi cx0, vi cx1, vi cx2, vr b689, vr b709, vi pcv, vi tl, vi ts, vi md, vr b733, vr b946, vr b1008] [(ii 0)] t
   refine XS.ifNo X1036.here hx rfl (hb hby at_350) rfl rfl ?_
   refine XS.aload X1036.here hx rfl (hb hby at_353) rfl rfl ?_
   exact k
  obtain ⟨_, T1040, L1040, X1040, hQ1040, c1040⟩ := kvirt X1036 hx hZ965 hown965 (w162 hw) (w163 hw) (w165 hw) (w164 hw) (w166 hw) (w49 hw) (rm_end_2 l Z a0 hw [] b1008 b709 b947 k948 T1007.heap n0 o1016 p1011 p1012 f1020 p1014 (((p955.ext E965).keep K992 nin0).keep K1010 nin0)) K1038 p1011 c1039 hml pd_prI [] [] 0 (hb hby at_355) rfl rfl rfl rfl rfl rfl
  obtain ⟨rfl, N1041q, K1042⟩ := hQ1040
  have N1041 := Fr.app N1037 N1041q
  obtain ⟨fs, hr, hrun, hended, hRW⟩ := X1040.leaveW hS965 (by first | exact (Nat.le_trans hk965 (Nat.le_trans K992.1 K1010.1)) | (rw [K1042]; exact (Nat.le_trans hk965 (Nat.le_trans K992.1 K1010.1)))) (v := some (ii 1)) (fun h => by rw [Bd.returns] at h; cases h)
  refine ⟨_, _, c1040 _ ?_, hrun, hended, _, _, rfl, ?_, hRW.1, hRW.2.1, hRW.2.2.1, hRW.2.2.2.mono (by decide) (by decide)⟩
  ·show S_ p e below T1040 m 358 #[vi k_, vj j_, .second, vi m_, vi p_, vj q_, .second, vi 2, vi cx0, vi cx1, vi cx2, vr b689, vr b709, vi pcv, vi tl, vi ts, vi md, vr b733, vr b946, vr b1008] [(ii 2)] _
   refine XS.iload X1040.here hx rfl (hb hby at_358) rfl ?_
   refine XS.icmpNo X1040.here hx rfl (hb hby at_360) rfl rfl ?_
   refine XS.iconst X1040.here hx rfl (hb hby at_363) ?_
   refine yG X1040.here hx rfl 364 368 rfl (hb hby at_364) ?_
   show S_ p e below T1040 m 368 #[vi k_, vj j_, .second, vi m_, vi p_, vj q_, .second, vi 2, vi cx0, vi cx1, vi cx2, vr b689, vr b709, vi pcv, vi tl, vi ts, vi md, vr b733, vr b946, vr b1008] [(ii 1)] _
   exact retN X1040 hx (t := .boolean) Bd.returns (by simp) (hb hby at_368) hr
  ·show Q_law Z k_ j_ m_ p_ q_ si1_ sv6_ h0 n0 _ T1040.heap _
   rw [K1042]
   exact ⟨rfl, N1041, kp1017⟩
 ·rw [hv8] at c1
  have c1043 : Kt p e below s₁ st0 (mkF m 95 #[vi k_, vj j_, .second, vi m_, vi p_, vj q_, .second, vi 3, vi cx0, vi cx1, vi cx2, u_, u_, u_, u_, u_, u_, u_, u_, u_] [(ii 3)]) := fun t k => by
   refine c1 t ?_
   show S_ p e below s₁ m 38 #[vi k_, vj j_, .second, vi m_, vi p_, vj q_, .second, vi 3, vi cx0, vi cx1, vi cx2, u_, u_, u_, u_, u_, u_, u_, u_, u_] [] t
   refine XS.iload X0.here hx rfl (hb hby at_38) rfl ?_
   refine yI X0.here hx rfl 40 51 rfl (hb hby at_40) rfl rfl ?_
   refine XS.iload X0.here hx rfl (hb hby at_51) rfl ?_
   refine XS.iconst X0.here hx rfl (hb hby at_53) ?_
   show S_ p e below s₁ m 54 #[vi k_, vj j_, .second, vi m_, vi p_, vj q_, .second, vi 3, vi cx0, vi cx1, vi cx2, u_, u_, u_, u_, u_, u_, u_, u_, u_] [(ii 1), (ii 3)] t
   refine yC X0.here hx rfl 54 70 rfl (hb hby at_54) rfl rfl ?_
   refine XS.iload X0.here hx rfl (hb hby at_70) rfl ?_
   refine XS.iconst X0.here hx rfl (hb hby at_72) ?_
   refine yC X0.here hx rfl 73 94 rfl (hb hby at_73) rfl rfl ?_
   show S_ p e below s₁ m 94 #[vi k_, vj j_, .second, vi m_, vi p_, vj q_, .second, vi 3, vi cx0, vi cx1, vi cx2, u_, u_, u_, u_, u_, u_, u_, u_, u_] [] t
   refine XS.iconst X0.here hx rfl (hb hby at_94) ?_
   exact k
  obtain ⟨b1044, T1044, h1044, k1044, z1044, g1044, X1044, e1044, E1044, o1045, A1044, c1044⟩ := knewP (aty := .char) X0 hx hZ (w0 hw) e0 c1043 rfl (hb hby at_95) rfl (by decide) 3 (by decide) (by decide) (by decide) (by decide) O0
  have kp1047 := kp0.ext E1044
  have z1048 := Nat.le_trans kp0.1 z1044
  have f1046 : Arv Z h1044 b1044 k1044 .char (3 : Int32) [(ii 0), (ii 0), (ii 0)] (ii 0) := A1044.pad (pad_rep [] (ii 0) 3)
  have c1049 : Kt p e below T1044 st0 (mkF m 101 #[vi k_, vj j_, .second, vi m_, vi p_, vj q_, .second, vi 3, vi cx0, vi cx1, vi cx2, u_, u_, u_, u_, u_, u_, u_, u_, u_] [(.int cx0), (ii 0), (rr b1044), (rr b1044)]) := fun t k => by
   refine c1044 t ?_
   show S_ p e below T1044 m 97 #[vi k_, vj j_, .second, vi m_, vi p_, vj q_, .second, vi 3, vi cx0, vi cx1, vi cx2, u_, u_, u_, u_, u_, u_, u_, u_, u_] [(rr b1044)] t
   refine XS.dup X1044.here hx rfl (hb hby at_97) rfl rfl ?_
   refine XS.iconst X1044.here hx rfl (hb hby at_98) ?_
   refine XS.iload X1044.here hx rfl (hb hby at_99) rfl ?_
   exact k
  obtain ⟨T1050, h1050, X1050, e1050, W1050, f1053, o1051, N1052, c1050⟩ := kstC X1044 hx hZ e1044 f1046 (j := (0 : Int32)) (by decide) (by decide) 0 rfl (Nat.le_of_ble_eq_true rfl) c1049 rfl rfl (hb hby at_101) o1045 N0 g1044
  rw [hg2] at W1050 f1053
  have f1054 : Arv Z h1050 b1044 k1044 .char (3 : Int32) [(.int cx0), (ii 0), (ii 0)] (ii 0) := f1053
  have kp1055 := kp1047.wr W1050 (Or.inr z1048)
  have c1056 : Kt p e below T1050 st0 (mkF m 106 #[vi k_, vj j_, .second, vi m_, vi p_, vj q_, .second, vi 3, vi cx0, vi cx1, vi cx2, u_, u_, u_, u_, u_, u_, u_, u_, u_] [(.int cx1), (ii 1), (rr b1044), (rr b1044)]) := fun t k => by
   refine c1050 t ?_
   show S_ p e below T1050 m 102 #[vi k_, vj j_, .second, vi m_, vi p_, vj q_, .second, vi 3, vi cx0, vi cx1, vi cx2, u_, u_, u_, u_, u_, u_, u_, u_, u_] [(rr b1044)] t
   refine XS.dup X1050.here hx rfl (hb hby at_102) rfl rfl ?_
   refine XS.iconst X1050.here hx rfl (hb hby at_103) ?_
   refine XS.iload X1050.here hx rfl (hb hby at_104) rfl ?_
   exact k
  obtain ⟨T1057, h1057, X1057, e1057, W1057, f1060, o1058, N1059, c1057⟩ := kstC X1050 hx hZ e1050 f1054 (j := (1 : Int32)) (by decide) (by decide) 1 rfl (Nat.le_of_ble_eq_true rfl) c1056 rfl rfl (hb hby at_106) o1051 N1052 g1044
  rw [hg4] at W1057 f1060
  have f1061 : Arv Z h1057 b1044 k1044 .char (3 : Int32) [(.int cx0), (.int cx1), (ii 0)] (ii 0) := f1060
  have kp1062 := kp1055.wr W1057 (Or.inr z1048)
  have c1063 : Kt p e below T1057 st0 (mkF m 111 #[vi k_, vj j_, .second, vi m_, vi p_, vj q_, .second, vi 3, vi cx0, vi cx1, vi cx2, u_, u_, u_, u_, u_, u_, u_, u_, u_] [(.int cx2), (ii 2), (rr b1044), (rr b1044)]) := fun t k => by
   refine c1057 t ?_
   show S_ p e below T1057 m 107 #[vi k_, vj j_, .second, vi m_, vi p_, vj q_, .second, vi 3, vi cx0, vi cx1, vi cx2, u_, u_, u_, u_, u_, u_, u_, u_, u_] [(rr b1044)] t
   refine XS.dup X1057.here hx rfl (hb hby at_107) rfl rfl ?_
   refine XS.iconst X1057.here hx rfl (hb hby at_108) ?_
   refine XS.iload X1057.here hx rfl (hb hby at_109) rfl ?_
   exact k
  obtain ⟨T1064, h1064, X1064, e1064, W1064, f1067, o1065, N1066, c1064⟩ := kstC X1057 hx hZ e1057 f1061 (j := (2 : Int32)) (by decide) (by decide) 2 rfl (Nat.le_of_ble_eq_true rfl) c1063 rfl rfl (hb hby at_111) o1058 N1059 g1044
  rw [hg6] at W1064 f1067
  have f1068 : Arv Z h1064 b1044 k1044 .char (3 : Int32) [(.int cx0), (.int cx1), (.int cx2)] (ii 0) := f1067
  have kp1069 := kp1062.wr W1064 (Or.inr z1048)
  have c1070 : Kt p e below T1064 st0 (mkF m 114 #[vi k_, vj j_, .second, vi m_, vi p_, vj q_, .second, vi 3, vi cx0, vi cx1, vi cx2, vr b1044, u_, u_, u_, u_, u_, u_, u_, u_] []) := fun t k => by
   refine c1064 t ?_
   show S_ p e below T1064 m 112 #[vi k_, vj j_, .second, vi m_, vi p_, vj q_, .second, vi 3, vi cx0, vi cx1, vi cx2, u_, u_, u_, u_, u_, u_, u_, u_, u_] [(rr b1044)] t
   refine XS.astore X1064.here hx rfl (hb hby at_112) rfl rfl (l' := #[vi k_, vj j_, .second, vi m_, vi p_, vj q_, .second, vi 3, vi cx0, vi cx1, vi cx2, vr b1044, u_, u_, u_, u_, u_, u_, u_, u_]) rfl ?_
   exact k
  obtain ⟨b1071, T1071, h1071, z1071, g1071, X1071, e1071, E1071, o1072, A1071, D1071, U1071, c1071⟩ := knew X1064 hx hZ hown (w1 hw) (w2 hw) (w3 hw) e1064 c1070 rfl (hb hby at_114) (by decide) (by decide) o1065
  have kp1073 := kp1069.ext E1071
  have z1074 := Nat.le_trans kp1069.1 z1071
  have c1075 : Kt p e below T1071 st0 (mkF m 120 #[vi k_, vj j_, .second, vi m_, vi p_, vj q_, .second, vi 3, vi cx0, vi cx1, vi cx2, vr b1044, u_, u_, u_, u_, u_, u_, u_, u_] [(rr b1044), (rr b1071), (rr b1071)]) := fun t k => by
   refine c1071 t ?_
   show S_ p e below T1071 m 117 #[vi k_, vj j_, .second, vi m_, vi p_, vj q_, .second, vi 3, vi cx0, vi cx1, vi cx2, vr b1044, u_, u_, u_, u_, u_, u_, u_, u_] [(rr b1071)] t
   refine XS.dup X1071.here hx rfl (hb hby at_117) rfl rfl ?_
   refine XS.aload X1071.here hx rfl (hb hby at_118) rfl rfl ?_
   exact k
  obtain ⟨_, T1076, L1076, X1076, hQ1076, c1076⟩ := kspec X1071 hx hZ hown (w4 hw) (w5 hw) (w3 hw) (w6 hw) (rm_str1_3 l Z a0 hw [] b1071 b1044 k1044 si1_ cx0 cx1 cx2 h1071 n0 o1072 A1071 (show Fld Z h1071 b1071 nm0 "value" "[B" .null from D1071 (Or.inr (w16 hw)) (ty := (.array .byte)) (by decide)) (show Fld Z h1071 b1071 nm0 "coder" "B" (ii 0) from D1071 (Or.inr (w17 hw)) (ty := .byte) (by decide)) g1071 (f1068.ext E1071) ZS0_ sn4_ hg3 hg5 hg7) e1071 c1075 hml pd_pACrV b1071 [(rr b1044)] [(rr b1071)] 1 (hb hby at_120) rfl rfl rfl rfl rfl rfl
  obtain ⟨rfl, N1077q, K1078, p1079, p1080, b1081, k1082, p1083, p1084, p1085, p1086⟩ := hQ1076
  have N1077 := Fr.app N1066 N1077q
  have o1087 := o1072.keep K1078 (allS g1071 all0)
  have kp1088 := kp1073.trans K1078 (allS (Or.inr z1074) all0)
  have z1089 := Nat.le_trans kp1073.1 p1086
  have g1090 := Nat.le_trans (Nat.le_trans (Nat.le_of_eq o1072.1.symm) o1072.2.1) p1086
  have c1091 : Kt p e below T1076 st0 (mkF m 134 #[vi k_, vj j_, .second, vi m_, vi p_, vj q_, .second, vi 3, vi cx0, vi cx1, vi cx2, vr b1044, vr b1071, .val (.int ((p_ &&& (255 : Int32)).toUInt32.toUInt16.toUInt32.toInt32)), u_, u_, u_, u_, u_, u_] []) := fun t k => by
   refine c1076 t ?_
   show S_ p e below T1076 m 123 #[vi k_, vj j_, .second, vi m_, vi p_, vj q_, .second, vi 3, vi cx0, vi cx1, vi cx2, vr b1044, u_, u_, u_, u_, u_, u_, u_, u_] [(rr b1071)] t
   refine XS.astore X1076.here hx rfl (hb hby at_123) rfl rfl (l' := #[vi k_, vj j_, .second, vi m_, vi p_, vj q_, .second, vi 3, vi cx0, vi cx1, vi cx2, vr b1044, vr b1071, u_, u_, u_, u_, u_, u_, u_]) rfl ?_
   refine XS.iload X1076.here hx rfl (hb hby at_125) rfl ?_
   refine XS.sipush X1076.here hx rfl (hb hby at_127) ?_
   refine XS.iand X1076.here hx rfl (hb hby at_130) rfl ?_
   show S_ p e below T1076 m 131 #[vi k_, vj j_, .second, vi m_, vi p_, vj q_, .second, vi 3, vi cx0, vi cx1, vi cx2, vr b1044, vr b1071, u_, u_, u_, u_, u_, u_, u_] [(.int (p_ &&& (255 : Int32)))] t
   refine XS.i2c X1076.here hx rfl (hb hby at_131) rfl ?_
   refine XS.istore X1076.here hx rfl (hb hby at_132) rfl (l' := #[vi k_, vj j_, .second, vi m_, vi p_, vj q_, .second, vi 3, vi cx0, vi cx1, vi cx2, vr b1044, vr b1071, .val (.int ((p_ &&& (255 : Int32)).toUInt32.toUInt16.toUInt32.toInt32)), u_, u_, u_, u_, u_, u_]) rfl ?_
   exact k
  obtain ⟨pcv, pcvq⟩ : ∃ z, z = ((p_ &&& (255 : Int32)).toUInt32.toUInt16.toUInt32.toInt32) := ⟨_, rfl⟩
  rw [← pcvq] at c1091
  have hg1092 : nar .char pcv = pcv := by rw [pcvq]; exact own_cc _
  have hg1093 : ¬ ((255 : Int32) < pcv) := by rw [pcvq]; exact own_small2 _
  have c1094 : Kt p e below T1076 st0 (mkF m 168 #[vi k_, vj j_, .second, vi m_, vi p_, vj q_, .second, vi 3, vi cx0, vi cx1, vi cx2, vr b1044, vr b1071, vi pcv, .val (.int ((((p_.toUInt32 >>> ((8 : Int32) &&& 31).toUInt32).toInt32) &&& (255 : Int32)) % (3 : Int32))), .val (.int ((((p_.toUInt32 >>> ((16 : Int32) &&& 31).toUInt32).toInt32) &&& (255 : Int32)).toUInt32.toUInt16.toUInt32.toInt32)), .val (.int ((m_ &&& (2147483647 : Int32)) % (6 : Int32))), u_, u_, u_] []) := fun t k => by
   refine c1091 t ?_
   show S_ p e below T1076 m 134 #[vi k_, vj j_, .second, vi m_, vi p_, vj q_, .second, vi 3, vi cx0, vi cx1, vi cx2, vr b1044, vr b1071, vi pcv, u_, u_, u_, u_, u_, u_] [] t
   refine XS.iload X1076.here hx rfl (hb hby at_134) rfl ?_
   refine XS.bipush X1076.here hx rfl (hb hby at_136) ?_
   refine XS.iushr X1076.here hx rfl (hb hby at_138) rfl ?_
   refine XS.sipush X1076.here hx rfl (hb hby at_139) ?_
   show S_ p e below T1076 m 142 #[vi k_, vj j_, .second, vi m_, vi p_, vj q_, .second, vi 3, vi cx0, vi cx1, vi cx2, vr b1044, vr b1071, vi pcv, u_, u_, u_, u_, u_, u_] [(ii 255), (.int ((p_.toUInt32 >>> ((8 : Int32) &&& 31).toUInt32).toInt32))] t
   refine XS.iand X1076.here hx rfl (hb hby at_142) rfl ?_
   refine XS.iconst X1076.here hx rfl (hb hby at_143) ?_
   show S_ p e below T1076 m 144 #[vi k_, vj j_, .second, vi m_, vi p_, vj q_, .second, vi 3, vi cx0, vi cx1, vi cx2, vr b1044, vr b1071, vi pcv, u_, u_, u_, u_, u_, u_] [(ii 3), (.int (((p_.toUInt32 >>> ((8 : Int32) &&& 31).toUInt32).toInt32) &&& (255 : Int32)))] t
   refine iremM X1076 hx rfl (hb hby at_144) rfl (by decide) ?_
   refine XS.istore X1076.here hx rfl (hb hby at_145) rfl (l' := #[vi k_, vj j_, .second, vi m_, vi p_, vj q_, .second, vi 3, vi cx0, vi cx1, vi cx2, vr b1044, vr b1071, vi pcv, .val (.int ((((p_.toUInt32 >>> ((8 : Int32) &&& 31).toUInt32).toInt32) &&& (255 : Int32)) % (3 : Int32))), u_, u_, u_, u_, u_]) rfl ?_
   refine XS.iload X1076.here hx rfl (hb hby at_147) rfl ?_
   refine XS.bipush X1076.here hx rfl (hb hby at_149) ?_
   show S_ p e below T1076 m 151 #[vi k_, vj j_, .second, vi m_, vi p_, vj q_, .second, vi 3, vi cx0, vi cx1, vi cx2, vr b1044, vr b1071, vi pcv, .val (.int ((((p_.toUInt32 >>> ((8 : Int32) &&& 31).toUInt32).toInt32) &&& (255 : Int32)) % (3 : Int32))), u_, u_, u_, u_, u_] [(ii 16), (.int p_)] t
   refine XS.iushr X1076.here hx rfl (hb hby at_151) rfl ?_
   refine XS.sipush X1076.here hx rfl (hb hby at_152) ?_
   refine XS.iand X1076.here hx rfl (hb hby at_155) rfl ?_
   refine XS.i2c X1076.here hx rfl (hb hby at_156) rfl ?_
   show S_ p e below T1076 m 157 #[vi k_, vj j_, .second, vi m_, vi p_, vj q_, .second, vi 3, vi cx0, vi cx1, vi cx2, vr b1044, vr b1071, vi pcv, .val (.int ((((p_.toUInt32 >>> ((8 : Int32) &&& 31).toUInt32).toInt32) &&& (255 : Int32)) % (3 : Int32))), u_, u_, u_, u_, u_] [(.int ((((p_.toUInt32 >>> ((16 : Int32) &&& 31).toUInt32).toInt32) &&& (255 : Int32)).toUInt32.toUInt16.toUInt32.toInt32))] t
   refine XS.istore X1076.here hx rfl (hb hby at_157) rfl (l' := #[vi k_, vj j_, .second, vi m_, vi p_, vj q_, .second, vi 3, vi cx0, vi cx1, vi cx2, vr b1044, vr b1071, vi pcv, .val (.int ((((p_.toUInt32 >>> ((8 : Int32) &&& 31).toUInt32).toInt32) &&& (255 : Int32)) % (3 : Int32))), .val (.int ((((p_.toUInt32 >>> ((16 : Int32) &&& 31).toUInt32).toInt32) &&& (255 : Int32)).toUInt32.toUInt16.toUInt32.toInt32)), u_, u_, u_, u_]) rfl ?_
   refine XS.iloadN X1076.here hx rfl (hb hby at_159) rfl ?_
   show S_ p e below T1076 m 160 #[vi k_, vj j_, .second, vi m_, vi p_, vj q_, .second, vi 3, vi cx0, vi cx1, vi cx2, vr b1044, vr b1071, vi pcv, .val (.int ((((p_.toUInt32 >>> ((8 : Int32) &&& 31).toUInt32).toInt32) &&& (255 : Int32)) % (3 : Int32))), .val (.int ((((p_.toUInt32 >>> ((16 : Int32) &&& 31).toUInt32).toInt32) &&& (255 : Int32)).toUInt32.toUInt16.toUInt32.toInt32)), u_, u_, u_, u_] [(.int m_)] t
   refine X1076.ldcInt hx hown (mvT hZ (w22 hw)) (g := (mkF m 160 #[vi k_, vj j_, .second, vi m_, vi p_, vj q_, .second, vi 3, vi cx0, vi cx1, vi cx2, vr b1044, vr b1071, vi pcv, .val (.int ((((p_.toUInt32 >>> ((8 : Int32) &&& 31).toUInt32).toInt32) &&& (255 : Int32)) % (3 : Int32))), .val (.int ((((p_.toUInt32 >>> ((16 : Int32) &&& 31).toUInt32).toInt32) &&& (255 : Int32)).toUInt32.toUInt16.toUInt32.toInt32)), u_, u_, u_, u_] [(.int m_)])) rfl (hb hby at_160) _ ?_
   refine XS.iand X1076.here hx rfl (hb hby at_162) rfl ?_
   refine XS.bipush X1076.here hx rfl (hb hby at_163) ?_
   show S_ p e below T1076 m 165 #[vi k_, vj j_, .second, vi m_, vi p_, vj q_, .second, vi 3, vi cx0, vi cx1, vi cx2, vr b1044, vr b1071, vi pcv, .val (.int ((((p_.toUInt32 >>> ((8 : Int32) &&& 31).toUInt32).toInt32) &&& (255 : Int32)) % (3 : Int32))), .val (.int ((((p_.toUInt32 >>> ((16 : Int32) &&& 31).toUInt32).toInt32) &&& (255 : Int32)).toUInt32.toUInt16.toUInt32.toInt32)), u_, u_, u_, u_] [(ii 6), (.int (m_ &&& (2147483647 : Int32)))] t
   refine iremM X1076 hx rfl (hb hby at_165) rfl (by decide) ?_
   refine XS.istore X1076.here hx rfl (hb hby at_166) rfl (l' := #[vi k_, vj j_, .second, vi m_, vi p_, vj q_, .second, vi 3, vi cx0, vi cx1, vi cx2, vr b1044, vr b1071, vi pcv, .val (.int ((((p_.toUInt32 >>> ((8 : Int32) &&& 31).toUInt32).toInt32) &&& (255 : Int32)) % (3 : Int32))), .val (.int ((((p_.toUInt32 >>> ((16 : Int32) &&& 31).toUInt32).toInt32) &&& (255 : Int32)).toUInt32.toUInt16.toUInt32.toInt32)), .val (.int ((m_ &&& (2147483647 : Int32)) % (6 : Int32))), u_, u_, u_]) rfl ?_
   exact k
  obtain ⟨md, mdq⟩ : ∃ z, z = ((m_ &&& (2147483647 : Int32)) % (6 : Int32)) := ⟨_, rfl⟩
  rw [← mdq] at c1094
  obtain ⟨tl, tlq⟩ : ∃ z, z = ((((p_.toUInt32 >>> ((8 : Int32) &&& 31).toUInt32).toInt32) &&& (255 : Int32)) % (3 : Int32)) := ⟨_, rfl⟩
  rw [← tlq] at c1094
  obtain ⟨ts, tsq⟩ : ∃ z, z = ((((p_.toUInt32 >>> ((16 : Int32) &&& 31).toUInt32).toInt32) &&& (255 : Int32)).toUInt32.toUInt16.toUInt32.toInt32) := ⟨_, rfl⟩
  rw [← tsq] at c1094
  obtain ⟨b1095, T1095, h1095, z1095, g1095, X1095, e1095, E1095, o1096, A1095, D1095, U1095, c1095⟩ := knew X1076 hx hZ hown (w23 hw) (w24 hw) (w25 hw) rfl c1094 rfl (hb hby at_168) (by decide) (by decide) o1087
  have kp1097 := kp1088.ext E1095
  have z1098 := Nat.le_trans kp1088.1 z1095
  have c1099 : Kt p e below T1095 st0 (mkF m 172 #[vi k_, vj j_, .second, vi m_, vi p_, vj q_, .second, vi 3, vi cx0, vi cx1, vi cx2, vr b1044, vr b1071, vi pcv, vi tl, vi ts, vi md, u_, u_, u_] [(rr b1095), (rr b1095)]) := fun t k => by
   refine c1095 t ?_
   show S_ p e below T1095 m 171 #[vi k_, vj j_, .second, vi m_, vi p_, vj q_, .second, vi 3, vi cx0, vi cx1, vi cx2, vr b1044, vr b1071, vi pcv, vi tl, vi ts, vi md, u_, u_, u_] [(rr b1095)] t
   refine XS.dup X1095.here hx rfl (hb hby at_171) rfl rfl ?_
   exact k
  obtain ⟨_, T1100, L1100, X1100, hQ1100, c1100⟩ := kspec X1095 hx hZ hown (w26 hw) (w27 hw) (w25 hw) (w28 hw) (rm_lminit l Z a0 hw [] b1095 h1095 n0 o1096 A1095 g1095 (show Fld Z h1095 b1095 nm1 "made" nm10 .null from D1095 (Or.inl (w80 hw)) (ty := (.object nm2)) (by decide)) (show Fld Z h1095 b1095 nm1 "read" nm3 .null from D1095 (Or.inl (w82 hw)) (ty := (.object nm0)) (by decide)) (show Fld Z h1095 b1095 nm1 "copiedLength" "I" (ii 0) from D1095 (Or.inl (w31 hw)) (ty := .int) (by decide)) (show Fld Z h1095 b1095 nm1 "offset" "J" (.long (0 : Int64)) from D1095 (Or.inl (w90 hw)) (ty := .long) (by decide)) (show Fld Z h1095 b1095 nm1 "terminatorLength" "I" (ii 0) from D1095 (Or.inl (w92 hw)) (ty := .int) (by decide)) (show Fld Z h1095 b1095 nm1 "copied" "[C" .null from D1095 (Or.inl (w197 hw)) (ty := (.array .char)) (by decide)) (show Fld Z h1095 b1095 nm1 "terminatorStart" "C" (ii 0) from D1095 (Or.inl (w178 hw)) (ty := .char) (by decide)) (show Fld Z h1095 b1095 nm1 "terminatorRead" "Z" (ii 0) from D1095 (Or.inl (w180 hw)) (ty := .boolean) (by decide))) e1095 c1099 hml pd_prV b1095 [] [(rr b1095)] 1 (hb hby at_172) rfl rfl rfl rfl rfl rfl
  obtain ⟨rfl, N1101q, K1102, p1103, p1104, p1105, p1106, p1107, p1108, p1109, p1110, p1111⟩ := hQ1100
  have N1101 := Fr.app N1077 N1101q
  have o1112 := o1096.keep K1102 (allS g1095 all0)
  have kp1113 := kp1097.trans K1102 (allS (Or.inr z1098) all0)
  have c1114 : Kt p e below T1100 st0 (mkF m 177 #[vi k_, vj j_, .second, vi m_, vi p_, vj q_, .second, vi 3, vi cx0, vi cx1, vi cx2, vr b1044, vr b1071, vi pcv, vi tl, vi ts, vi md, vr b1095, u_, u_] []) := fun t k => by
   refine c1100 t ?_
   show S_ p e below T1100 m 175 #[vi k_, vj j_, .second, vi m_, vi p_, vj q_, .second, vi 3, vi cx0, vi cx1, vi cx2, vr b1044, vr b1071, vi pcv, vi tl, vi ts, vi md, u_, u_, u_] [(rr b1095)] t
   refine XS.astore X1100.here hx rfl (hb hby at_175) rfl rfl (l' := #[vi k_, vj j_, .second, vi m_, vi p_, vj q_, .second, vi 3, vi cx0, vi cx1, vi cx2, vr b1044, vr b1071, vi pcv, vi tl, vi ts, vi md, vr b1095, u_, u_]) rfl ?_
   exact k
  obtain ⟨mv1275, mv1276, mv1277, mv1278, mv1279, T1280, h1280, L1280, X1280, e1280, o1280, K1280, kp1280, N1280, f1281, f1282, f1283, f1284, f1285, c1280⟩ : ∃ (mv1275 : Int32), ∃ (mv1276 : Value), ∃ (mv1277 : Value), ∃ (mv1278 : Int64), ∃ (mv1279 : Int32), ∃ (T1280 : State) (h1280 : Heap) (L1280 : List Loc), Stand p l e room_1 (s.setVm s.vm) m #[(.int k_), (.long j_), (.int m_), (.int p_), (.long q_)] below meth c T1280 L1280 8 83 ∧ T1280.heap = h1280 ∧ Old Z n0 h1280 ∧ Keep T1100.heap h1280 [b1095] ∧ Keep h0 h1280 [] ∧ Fr n0 L1280 ∧ Fld Z h1280 b1095 nm1 "copiedLength" "I" (.int mv1275) ∧ Fld Z h1280 b1095 nm1 "made" nm10 mv1276 ∧ Fld Z h1280 b1095 nm1 "read" nm3 mv1277 ∧ Fld Z h1280 b1095 nm1 "offset" "J" (.long mv1278) ∧ Fld Z h1280 b1095 nm1 "terminatorLength" "I" (.int mv1279) ∧ Kt p e below T1280 st0 (mkF m 288 #[vi k_, vj j_, .second, vi m_, vi p_, vj q_, .second, vi 3, vi cx0, vi cx1, vi cx2, vr b1044, vr b1071, vi pcv, vi tl, vi ts, vi md, vr b1095, u_, u_] []) := by
   have c1115 : Kt p e below T1100 st0 (mkF m 180 #[vi k_, vj j_, .second, vi m_, vi p_, vj q_, .second, vi 3, vi cx0, vi cx1, vi cx2, vr b1044, vr b1071, vi pcv, vi tl, vi ts, vi md, vr b1095, u_, u_] [(ii 1), (.int md)]) := fun t k => by
    refine c1114 t ?_
    show S_ p e below T1100 m 177 #[vi k_, vj j_, .second, vi m_, vi p_, vj q_, .second, vi 3, vi cx0, vi cx1, vi cx2, vr b1044, vr b1071, vi pcv, vi tl, vi ts, vi md, vr b1095, u_, u_] [] t
    refine XS.iload X1100.here hx rfl (hb hby at_177) rfl ?_
    refine XS.iconst X1100.here hx rfl (hb hby at_179) ?_
    exact k
   by_cases hc1116 : md = (1 : Int32)
   ·have c1117 : Kt p e below T1100 st0 (mkF m 187 #[vi k_, vj j_, .second, vi m_, vi p_, vj q_, .second, vi 3, vi cx0, vi cx1, vi cx2, vr b1044, vr b1071, vi pcv, vi tl, vi ts, vi md, vr b1095, u_, u_] [(.int pcv), (rr b1095)]) := fun t k => by
     refine c1115 t ?_
     show S_ p e below T1100 m 180 #[vi k_, vj j_, .second, vi m_, vi p_, vj q_, .second, vi 3, vi cx0, vi cx1, vi cx2, vr b1044, vr b1071, vi pcv, vi tl, vi ts, vi md, vr b1095, u_, u_] [(ii 1), (.int md)] t
     refine XS.icmpNo X1100.here hx rfl (hb hby at_180) rfl (teq hc1116).2 ?_
     refine XS.aload X1100.here hx rfl (hb hby at_183) rfl rfl ?_
     refine XS.iload X1100.here hx rfl (hb hby at_185) rfl ?_
     exact k
    obtain ⟨_, T1118, L1118, X1118, hQ1118, c1118⟩ := kstat X1100 hx hZ hown (w32 hw) (w33 hw) (w3 hw) (w34 hw) (rm_svo l Z a0 hw [] pcv si1_ T1100.heap n0 o1112 ZS0_ sn4_ hg1093) rfl c1117 hml pd_pCrLjava_lang_String_ [(.int pcv)] [(rr b1095)] 1 (hb hby at_187) rfl rfl rfl rfl rfl rfl
    obtain ⟨b1119, rfl, N1120q, K1121, p1122, p1123, b1124, k1125, p1126, p1127, p1128⟩ := hQ1118
    have N1120 := Fr.app N1101 N1120q
    have o1129 := o1112.keep K1121 all0
    have kp1130 := kp1113.trans K1121 all0
    have z1131 := Nat.le_trans kp1113.1 p1128
    have g1132 := Nat.le_trans (Nat.le_trans (Nat.le_of_eq o1112.1.symm) o1112.2.1) p1128
    have c1133 : Kt p e below T1118 st0 (mkF m 192 #[vi k_, vj j_, .second, vi m_, vi p_, vj q_, .second, vi 3, vi cx0, vi cx1, vi cx2, vr b1044, vr b1071, vi pcv, vi tl, vi ts, vi md, vr b1095, u_, u_] [(.long q_), (rr b1119), (rr b1095)]) := fun t k => by
     refine c1118 t ?_
     show S_ p e below T1118 m 190 #[vi k_, vj j_, .second, vi m_, vi p_, vj q_, .second, vi 3, vi cx0, vi cx1, vi cx2, vr b1044, vr b1071, vi pcv, vi tl, vi ts, vi md, vr b1095, u_, u_] [(rr b1119), (rr b1095)] t
     refine XS.lload X1118.here hx rfl (hb hby at_190) rfl ?_
     exact k
    obtain ⟨_, T1134, L1134, X1134, hQ1134, c1134⟩ := kstat X1118 hx hZ hown (w47 hw) (w48 hw) (w49 hw) (w50 hw) (rm_mof_1 l Z a0 hw [] b1119 b1124 k1125 [(.int (nar .byte (pcv.toInt8.toInt32)))] si1_ q_ T1118.heap n0 o1129 p1122 p1123 p1126 p1127 ZS0_ sn4_) rfl c1133 hml pd_pLjava_lang_String_JrLgleaner_Match_ [(rr b1119), (.long q_)] [(rr b1095)] 1 (hb hby at_192) rfl rfl rfl rfl rfl rfl
    obtain ⟨b1135, b1136, k1137, rfl, N1138q, K1139, p1140, p1141, p1142, p1143, p1144, p1145, p1146, p1147⟩ := hQ1134
    have N1138 := Fr.app N1120 N1138q
    have o1148 := o1129.keep K1139 all0
    have kp1149 := kp1130.trans K1139 all0
    have z1150 := Nat.le_trans kp1130.1 p1146
    have g1151 := Nat.le_trans (Nat.le_trans (Nat.le_of_eq o1129.1.symm) o1129.2.1) p1146
    have z1152 := Nat.le_trans kp1130.1 p1147
    have g1153 := Nat.le_trans (Nat.le_trans (Nat.le_of_eq o1129.1.symm) o1129.2.1) p1147
    obtain ⟨_, T1154, L1154, X1154, hQ1154, c1154⟩ := kvirt X1134 hx hZ hown (w74 hw) (w75 hw) (w77 hw) (w76 hw) (w78 hw) (w25 hw) (rm_set8R l Z a0 hw [] b1095 b1135 (.null) (.null) (-1 : Int32) (0 : Int64) (0 : Int32) (.null) (0 : Int32) (0 : Int32) T1134.heap n0 o1148 ((p1103.keep K1121).keep K1139) g1095 ((p1104.keep K1121 nin0).keep K1139 nin0) ((p1105.keep K1121 nin0).keep K1139 nin0) ((p1106.keep K1121 nin0).keep K1139 nin0) ((p1107.keep K1121 nin0).keep K1139 nin0) ((p1108.keep K1121 nin0).keep K1139 nin0) ((p1109.keep K1121 nin0).keep K1139 nin0) ((p1110.keep K1121 nin0).keep K1139 nin0) ((p1111.keep K1121 nin0).keep K1139 nin0)) rfl ((p1103.keep K1121).keep K1139) c1134 hml pd_pLgleaner_Match_rV [(rr b1135)] [] 0 (hb hby at_195) rfl rfl rfl rfl rfl rfl
    obtain ⟨rfl, N1155q, K1156, p1157, p1158, p1159, p1160, p1161, p1162, p1163, p1164, p1165⟩ := hQ1154
    have N1155 := Fr.app N1138 N1155q
    have o1166 := o1148.keep K1156 (allS g1095 all0)
    have kp1167 := kp1149.trans K1156 (allS (Or.inr z1098) all0)
    have c1168 : Kt p e below T1154 st0 (mkF m 288 #[vi k_, vj j_, .second, vi m_, vi p_, vj q_, .second, vi 3, vi cx0, vi cx1, vi cx2, vr b1044, vr b1071, vi pcv, vi tl, vi ts, vi md, vr b1095, u_, u_] []) := fun t k => by
     refine c1154 t ?_
     show S_ p e below T1154 m 198 #[vi k_, vj j_, .second, vi m_, vi p_, vj q_, .second, vi 3, vi cx0, vi cx1, vi cx2, vr b1044, vr b1071, vi pcv, vi tl, vi ts, vi md, vr b1095, u_, u_] [] t
     refine yG X1154.here hx rfl 198 288 rfl (hb hby at_198) ?_
     exact k
    have K1291 : Keep T1100.heap T1154.heap [b1095] := ((((Keep.refl _ _).trans K1121 all0).trans K1139 all0).trans K1156 (allS (Or.inl (List.mem_of_getElem? (i := 0) rfl)) all0))
    exact ⟨(-1 : Int32), (rr b1135), .null, (0 : Int64), (0 : Int32), T1154, _, _, X1154.mono (by decide) (by decide), rfl, o1166, K1291, kp1167, N1155, p1160, p1158, p1159, p1161, p1162, c1168⟩
   ·have c1169 : Kt p e below T1100 st0 (mkF m 204 #[vi k_, vj j_, .second, vi m_, vi p_, vj q_, .second, vi 3, vi cx0, vi cx1, vi cx2, vr b1044, vr b1071, vi pcv, vi tl, vi ts, vi md, vr b1095, u_, u_] [(ii 2), (.int md)]) := fun t k => by
     refine c1115 t ?_
     show S_ p e below T1100 m 180 #[vi k_, vj j_, .second, vi m_, vi p_, vj q_, .second, vi 3, vi cx0, vi cx1, vi cx2, vr b1044, vr b1071, vi pcv, vi tl, vi ts, vi md, vr b1095, u_, u_] [(ii 1), (.int md)] t
     refine yC X1100.here hx rfl 180 201 rfl (hb hby at_180) rfl (feq hc1116).2 ?_
     refine XS.iload X1100.here hx rfl (hb hby at_201) rfl ?_
     refine XS.iconst X1100.here hx rfl (hb hby at_203) ?_
     exact k
    by_cases hc1170 : md = (2 : Int32)
    ·have c1171 : Kt p e below T1100 st0 (mkF m 211 #[vi k_, vj j_, .second, vi m_, vi p_, vj q_, .second, vi 3, vi cx0, vi cx1, vi cx2, vr b1044, vr b1071, vi pcv, vi tl, vi ts, vi md, vr b1095, u_, u_] [(.int pcv), (rr b1095)]) := fun t k => by
      refine c1169 t ?_
      show S_ p e below T1100 m 204 #[vi k_, vj j_, .second, vi m_, vi p_, vj q_, .second, vi 3, vi cx0, vi cx1, vi cx2, vr b1044, vr b1071, vi pcv, vi tl, vi ts, vi md, vr b1095, u_, u_] [(ii 2), (.int md)] t
      refine XS.icmpNo X1100.here hx rfl (hb hby at_204) rfl (teq hc1170).2 ?_
      refine XS.aload X1100.here hx rfl (hb hby at_207) rfl rfl ?_
      refine XS.iload X1100.here hx rfl (hb hby at_209) rfl ?_
      exact k
     obtain ⟨_, T1172, L1172, X1172, hQ1172, c1172⟩ := kstat X1100 hx hZ hown (w32 hw) (w33 hw) (w3 hw) (w34 hw) (rm_svo l Z a0 hw [] pcv si1_ T1100.heap n0 o1112 ZS0_ sn4_ hg1093) rfl c1171 hml pd_pCrLjava_lang_String_ [(.int pcv)] [(rr b1095)] 1 (hb hby at_211) rfl rfl rfl rfl rfl rfl
     obtain ⟨b1173, rfl, N1174q, K1175, p1176, p1177, b1178, k1179, p1180, p1181, p1182⟩ := hQ1172
     have N1174 := Fr.app N1101 N1174q
     have o1183 := o1112.keep K1175 all0
     have kp1184 := kp1113.trans K1175 all0
     have z1185 := Nat.le_trans kp1113.1 p1182
     have g1186 := Nat.le_trans (Nat.le_trans (Nat.le_of_eq o1112.1.symm) o1112.2.1) p1182
     have c1187 : Kt p e below T1172 st0 (mkF m 220 #[vi k_, vj j_, .second, vi m_, vi p_, vj q_, .second, vi 3, vi cx0, vi cx1, vi cx2, vr b1044, vr b1071, vi pcv, vi tl, vi ts, vi md, vr b1095, u_, u_] [(.int ts), (.int tl), (.long q_), (rr b1173), (rr b1095)]) := fun t k => by
      refine c1172 t ?_
      show S_ p e below T1172 m 214 #[vi k_, vj j_, .second, vi m_, vi p_, vj q_, .second, vi 3, vi cx0, vi cx1, vi cx2, vr b1044, vr b1071, vi pcv, vi tl, vi ts, vi md, vr b1095, u_, u_] [(rr b1173), (rr b1095)] t
      refine XS.lload X1172.here hx rfl (hb hby at_214) rfl ?_
      refine XS.iload X1172.here hx rfl (hb hby at_216) rfl ?_
      refine XS.iload X1172.here hx rfl (hb hby at_218) rfl ?_
      exact k
     obtain ⟨_, T1188, L1188, X1188, hQ1188, c1188⟩ := kvirt X1172 hx hZ hown (w172 hw) (w173 hw) (w175 hw) (w174 hw) (w176 hw) (w25 hw) (rm_line l Z a0 hw [] b1095 b1173 q_ tl ts (.null) (.null) (-1 : Int32) (0 : Int64) (0 : Int32) (.null) (0 : Int32) (0 : Int32) T1172.heap n0 o1183 (p1103.keep K1175) g1095 (p1104.keep K1175 nin0) (p1105.keep K1175 nin0) (p1106.keep K1175 nin0) (p1107.keep K1175 nin0) (p1108.keep K1175 nin0) (p1109.keep K1175 nin0) (p1110.keep K1175 nin0) (p1111.keep K1175 nin0)) rfl (p1103.keep K1175) c1187 hml pd_pLjava_lang_String_JICrV [(rr b1173), (.long q_), (.int tl), (.int ts)] [] 0 (hb hby at_220) rfl rfl rfl rfl rfl rfl
     obtain ⟨rfl, N1189q, K1190, p1191, p1192, p1193, p1194, p1195, p1196⟩ := hQ1188
     have N1189 := Fr.app N1174 N1189q
     have o1197 := o1183.keep K1190 (allS g1095 all0)
     have kp1198 := kp1184.trans K1190 (allS (Or.inr z1098) all0)
     have c1199 : Kt p e below T1188 st0 (mkF m 288 #[vi k_, vj j_, .second, vi m_, vi p_, vj q_, .second, vi 3, vi cx0, vi cx1, vi cx2, vr b1044, vr b1071, vi pcv, vi tl, vi ts, vi md, vr b1095, u_, u_] []) := fun t k => by
      refine c1188 t ?_
      show S_ p e below T1188 m 223 #[vi k_, vj j_, .second, vi m_, vi p_, vj q_, .second, vi 3, vi cx0, vi cx1, vi cx2, vr b1044, vr b1071, vi pcv, vi tl, vi ts, vi md, vr b1095, u_, u_] [] t
      refine yG X1188.here hx rfl 223 288 rfl (hb hby at_223) ?_
      exact k
     have K1290 : Keep T1100.heap T1188.heap [b1095] := (((Keep.refl _ _).trans K1175 all0).trans K1190 (allS (Or.inl (List.mem_of_getElem? (i := 0) rfl)) all0))
     exact ⟨(-1 : Int32), .null, (rr b1173), q_, tl, T1188, _, _, X1188.mono (by decide) (by decide), rfl, o1197, K1290, kp1198, N1189, p1194, p1192, p1193, p1195, p1196, c1199⟩
    ·have c1200 : Kt p e below T1100 st0 (mkF m 229 #[vi k_, vj j_, .second, vi m_, vi p_, vj q_, .second, vi 3, vi cx0, vi cx1, vi cx2, vr b1044, vr b1071, vi pcv, vi tl, vi ts, vi md, vr b1095, u_, u_] [(ii 3), (.int md)]) := fun t k => by
      refine c1169 t ?_
      show S_ p e below T1100 m 204 #[vi k_, vj j_, .second, vi m_, vi p_, vj q_, .second, vi 3, vi cx0, vi cx1, vi cx2, vr b1044, vr b1071, vi pcv, vi tl, vi ts, vi md, vr b1095, u_, u_] [(ii 2), (.int md)] t
      refine yC X1100.here hx rfl 204 226 rfl (hb hby at_204) rfl (feq hc1170).2 ?_
      refine XS.iload X1100.here hx rfl (hb hby at_226) rfl ?_
      refine XS.iconst X1100.here hx rfl (hb hby at_228) ?_
      exact k
     by_cases hc1201 : md = (3 : Int32)
     ·have c1202 : Kt p e below T1100 st0 (mkF m 235 #[vi k_, vj j_, .second, vi m_, vi p_, vj q_, .second, vi 3, vi cx0, vi cx1, vi cx2, vr b1044, vr b1071, vi pcv, vi tl, vi ts, vi md, vr b1095, u_, u_] [(ii 1), (rr b1095)]) := fun t k => by
       refine c1200 t ?_
       show S_ p e below T1100 m 229 #[vi k_, vj j_, .second, vi m_, vi p_, vj q_, .second, vi 3, vi cx0, vi cx1, vi cx2, vr b1044, vr b1071, vi pcv, vi tl, vi ts, vi md, vr b1095, u_, u_] [(ii 3), (.int md)] t
       refine XS.icmpNo X1100.here hx rfl (hb hby at_229) rfl (teq hc1201).2 ?_
       refine XS.aload X1100.here hx rfl (hb hby at_232) rfl rfl ?_
       refine XS.iconst X1100.here hx rfl (hb hby at_234) ?_
       exact k
      obtain ⟨b1203, T1203, h1203, k1203, z1203, g1203, X1203, e1203, E1203, o1204, A1203, c1203⟩ := knewP (aty := .char) X1100 hx hZ (w0 hw) rfl c1202 rfl (hb hby at_235) rfl (by decide) 1 (by decide) (by decide) (by decide) (by decide) o1112
      have kp1206 := kp1113.ext E1203
      have z1207 := Nat.le_trans kp1113.1 z1203
      have f1205 : Arv Z h1203 b1203 k1203 .char (1 : Int32) [(ii 0)] (ii 0) := A1203.pad (pad_rep [] (ii 0) 1)
      have c1208 : Kt p e below T1203 st0 (mkF m 241 #[vi k_, vj j_, .second, vi m_, vi p_, vj q_, .second, vi 3, vi cx0, vi cx1, vi cx2, vr b1044, vr b1071, vi pcv, vi tl, vi ts, vi md, vr b1095, u_, u_] [(.int pcv), (ii 0), (rr b1203), (rr b1203), (rr b1095)]) := fun t k => by
       refine c1203 t ?_
       show S_ p e below T1203 m 237 #[vi k_, vj j_, .second, vi m_, vi p_, vj q_, .second, vi 3, vi cx0, vi cx1, vi cx2, vr b1044, vr b1071, vi pcv, vi tl, vi ts, vi md, vr b1095, u_, u_] [(rr b1203), (rr b1095)] t
       refine XS.dup X1203.here hx rfl (hb hby at_237) rfl rfl ?_
       refine XS.iconst X1203.here hx rfl (hb hby at_238) ?_
       refine XS.iload X1203.here hx rfl (hb hby at_239) rfl ?_
       exact k
      obtain ⟨T1209, h1209, X1209, e1209, W1209, f1212, o1210, N1211, c1209⟩ := kstC X1203 hx hZ e1203 f1205 (j := (0 : Int32)) (by decide) (by decide) 0 rfl (Nat.le_of_ble_eq_true rfl) c1208 rfl rfl (hb hby at_241) o1204 N1101 g1203
      rw [hg1092] at W1209 f1212
      have f1213 : Arv Z h1209 b1203 k1203 .char (1 : Int32) [(.int pcv)] (ii 0) := f1212
      have kp1214 := kp1206.wr W1209 (Or.inr z1207)
      have q1215 := Nat.ne_of_lt (Nat.lt_of_lt_of_le p1103.lt z1203)
      have c1216 : Kt p e below T1209 st0 (mkF m 246 #[vi k_, vj j_, .second, vi m_, vi p_, vj q_, .second, vi 3, vi cx0, vi cx1, vi cx2, vr b1044, vr b1071, vi pcv, vi tl, vi ts, vi md, vr b1095, u_, u_] [(.long q_), (ii 1), (ii 0), (rr b1203), (rr b1095)]) := fun t k => by
       refine c1209 t ?_
       show S_ p e below T1209 m 242 #[vi k_, vj j_, .second, vi m_, vi p_, vj q_, .second, vi 3, vi cx0, vi cx1, vi cx2, vr b1044, vr b1071, vi pcv, vi tl, vi ts, vi md, vr b1095, u_, u_] [(rr b1203), (rr b1095)] t
       refine XS.iconst X1209.here hx rfl (hb hby at_242) ?_
       refine XS.iconst X1209.here hx rfl (hb hby at_243) ?_
       refine XS.lload X1209.here hx rfl (hb hby at_244) rfl ?_
       exact k
      obtain ⟨_, T1217, L1217, X1217, hQ1217, c1217⟩ := kvirt X1209 hx hZ hown (w191 hw) (w192 hw) (w194 hw) (w193 hw) (w195 hw) (w25 hw) (rm_tokC l Z a0 hw [] b1095 b1203 k1203 [(.int pcv)] q_ (.null) (.null) (-1 : Int32) (0 : Int64) (0 : Int32) (0 : Int32) (0 : Int32) h1209 n0 o1210 ((p1103.ext E1203).wr W1209) g1095 ((p1104.ext E1203).other W1209 (Or.inl q1215)) ((p1105.ext E1203).other W1209 (Or.inl q1215)) ((p1106.ext E1203).other W1209 (Or.inl q1215)) ((p1107.ext E1203).other W1209 (Or.inl q1215)) ((p1108.ext E1203).other W1209 (Or.inl q1215)) ((p1109.ext E1203).other W1209 (Or.inl q1215)) ((p1110.ext E1203).other W1209 (Or.inl q1215)) ((p1111.ext E1203).other W1209 (Or.inl q1215)) f1213) e1209 ((p1103.ext E1203).wr W1209) c1216 hml pd_pACIIJrV [(rr b1203), (ii 0), (ii 1), (.long q_)] [] 0 (hb hby at_246) rfl rfl rfl rfl rfl rfl
      obtain ⟨rfl, N1218q, K1219, p1220, p1221, p1222, p1223, p1224, p1225⟩ := hQ1217
      have N1218 := Fr.app N1211 N1218q
      have o1226 := o1210.keep K1219 (allS g1095 all0)
      have kp1227 := kp1214.trans K1219 (allS (Or.inr z1098) all0)
      have c1228 : Kt p e below T1217 st0 (mkF m 288 #[vi k_, vj j_, .second, vi m_, vi p_, vj q_, .second, vi 3, vi cx0, vi cx1, vi cx2, vr b1044, vr b1071, vi pcv, vi tl, vi ts, vi md, vr b1095, u_, u_] []) := fun t k => by
       refine c1217 t ?_
       show S_ p e below T1217 m 249 #[vi k_, vj j_, .second, vi m_, vi p_, vj q_, .second, vi 3, vi cx0, vi cx1, vi cx2, vr b1044, vr b1071, vi pcv, vi tl, vi ts, vi md, vr b1095, u_, u_] [] t
       refine yG X1217.here hx rfl 249 288 rfl (hb hby at_249) ?_
       exact k
      have K1289 : Keep T1100.heap T1217.heap [b1095] := ((((Keep.refl _ _).ext E1203).wr W1209 (Or.inr (Nat.le_trans (Nat.le_refl _) z1203))).trans K1219 (allS (Or.inl (List.mem_of_getElem? (i := 0) rfl)) all0))
      exact ⟨(1 : Int32), .null, .null, q_, (-1 : Int32), T1217, _, _, X1217.mono (by decide) (by decide), rfl, o1226, K1289, kp1227, N1218, p1223, p1221, p1222, p1224, p1225, c1228⟩
     ·have c1229 : Kt p e below T1100 st0 (mkF m 255 #[vi k_, vj j_, .second, vi m_, vi p_, vj q_, .second, vi 3, vi cx0, vi cx1, vi cx2, vr b1044, vr b1071, vi pcv, vi tl, vi ts, vi md, vr b1095, u_, u_] [(ii 4), (.int md)]) := fun t k => by
       refine c1200 t ?_
       show S_ p e below T1100 m 229 #[vi k_, vj j_, .second, vi m_, vi p_, vj q_, .second, vi 3, vi cx0, vi cx1, vi cx2, vr b1044, vr b1071, vi pcv, vi tl, vi ts, vi md, vr b1095, u_, u_] [(ii 3), (.int md)] t
       refine yC X1100.here hx rfl 229 252 rfl (hb hby at_229) rfl (feq hc1201).2 ?_
       refine XS.iload X1100.here hx rfl (hb hby at_252) rfl ?_
       refine XS.iconst X1100.here hx rfl (hb hby at_254) ?_
       exact k
      by_cases hc1230 : md = (4 : Int32)
      ·have c1231 : Kt p e below T1100 st0 (mkF m 262 #[vi k_, vj j_, .second, vi m_, vi p_, vj q_, .second, vi 3, vi cx0, vi cx1, vi cx2, vr b1044, vr b1071, vi pcv, vi tl, vi ts, vi md, vr b1095, u_, u_] [(.int pcv), (rr b1095)]) := fun t k => by
        refine c1229 t ?_
        show S_ p e below T1100 m 255 #[vi k_, vj j_, .second, vi m_, vi p_, vj q_, .second, vi 3, vi cx0, vi cx1, vi cx2, vr b1044, vr b1071, vi pcv, vi tl, vi ts, vi md, vr b1095, u_, u_] [(ii 4), (.int md)] t
        refine XS.icmpNo X1100.here hx rfl (hb hby at_255) rfl (teq hc1230).2 ?_
        refine XS.aload X1100.here hx rfl (hb hby at_258) rfl rfl ?_
        refine XS.iload X1100.here hx rfl (hb hby at_260) rfl ?_
        exact k
       obtain ⟨_, T1232, L1232, X1232, hQ1232, c1232⟩ := kstat X1100 hx hZ hown (w32 hw) (w33 hw) (w3 hw) (w34 hw) (rm_svo l Z a0 hw [] pcv si1_ T1100.heap n0 o1112 ZS0_ sn4_ hg1093) rfl c1231 hml pd_pCrLjava_lang_String_ [(.int pcv)] [(rr b1095)] 1 (hb hby at_262) rfl rfl rfl rfl rfl rfl
       obtain ⟨b1233, rfl, N1234q, K1235, p1236, p1237, b1238, k1239, p1240, p1241, p1242⟩ := hQ1232
       have N1234 := Fr.app N1101 N1234q
       have o1243 := o1112.keep K1235 all0
       have kp1244 := kp1113.trans K1235 all0
       have z1245 := Nat.le_trans kp1113.1 p1242
       have g1246 := Nat.le_trans (Nat.le_trans (Nat.le_of_eq o1112.1.symm) o1112.2.1) p1242
       have c1247 : Kt p e below T1232 st0 (mkF m 271 #[vi k_, vj j_, .second, vi m_, vi p_, vj q_, .second, vi 3, vi cx0, vi cx1, vi cx2, vr b1044, vr b1071, vi pcv, vi tl, vi ts, vi md, vr b1095, u_, u_] [(.int (tl &&& (1 : Int32))), (.long q_), (rr b1233), (rr b1095)]) := fun t k => by
        refine c1232 t ?_
        show S_ p e below T1232 m 265 #[vi k_, vj j_, .second, vi m_, vi p_, vj q_, .second, vi 3, vi cx0, vi cx1, vi cx2, vr b1044, vr b1071, vi pcv, vi tl, vi ts, vi md, vr b1095, u_, u_] [(rr b1233), (rr b1095)] t
        refine XS.lload X1232.here hx rfl (hb hby at_265) rfl ?_
        refine XS.iload X1232.here hx rfl (hb hby at_267) rfl ?_
        refine XS.iconst X1232.here hx rfl (hb hby at_269) ?_
        refine XS.iand X1232.here hx rfl (hb hby at_270) rfl ?_
        exact k
       obtain ⟨_, T1248, L1248, X1248, hQ1248, c1248⟩ := kvirt X1232 hx hZ hown (w207 hw) (w208 hw) (w210 hw) (w209 hw) (w211 hw) (w25 hw) (rm_lwt l Z a0 hw [] b1095 b1233 q_ ((tl &&& (1 : Int32))) (.null) (.null) (-1 : Int32) (0 : Int64) (0 : Int32) (.null) (0 : Int32) (0 : Int32) T1232.heap n0 o1243 (p1103.keep K1235) g1095 (p1104.keep K1235 nin0) (p1105.keep K1235 nin0) (p1106.keep K1235 nin0) (p1107.keep K1235 nin0) (p1108.keep K1235 nin0) (p1109.keep K1235 nin0) (p1110.keep K1235 nin0) (p1111.keep K1235 nin0)) rfl (p1103.keep K1235) c1247 hml pd_pLjava_lang_String_JIrV [(rr b1233), (.long q_), (.int (tl &&& (1 : Int32)))] [] 0 (hb hby at_271) rfl rfl rfl rfl rfl rfl
       obtain ⟨rfl, N1249q, K1250, p1251, p1252, p1253, p1254, p1255, p1256⟩ := hQ1248
       have N1249 := Fr.app N1234 N1249q
       have o1257 := o1243.keep K1250 (allS g1095 all0)
       have kp1258 := kp1244.trans K1250 (allS (Or.inr z1098) all0)
       have c1259 : Kt p e below T1248 st0 (mkF m 288 #[vi k_, vj j_, .second, vi m_, vi p_, vj q_, .second, vi 3, vi cx0, vi cx1, vi cx2, vr b1044, vr b1071, vi pcv, vi tl, vi ts, vi md, vr b1095, u_, u_] []) := fun t k => by
        refine c1248 t ?_
        show S_ p e below T1248 m 274 #[vi k_, vj j_, .second, vi m_, vi p_, vj q_, .second, vi 3, vi cx0, vi cx1, vi cx2, vr b1044, vr b1071, vi pcv, vi tl, vi ts, vi md, vr b1095, u_, u_] [] t
        refine yG X1248.here hx rfl 274 288 rfl (hb hby at_274) ?_
        exact k
       have K1288 : Keep T1100.heap T1248.heap [b1095] := (((Keep.refl _ _).trans K1235 all0).trans K1250 (allS (Or.inl (List.mem_of_getElem? (i := 0) rfl)) all0))
       exact ⟨(-1 : Int32), .null, (rr b1233), q_, (tl &&& (1 : Int32)), T1248, _, _, X1248.mono (by decide) (by decide), rfl, o1257, K1288, kp1258, N1249, p1254, p1252, p1253, p1255, p1256, c1259⟩
      ·have c1260 : Kt p e below T1100 st0 (mkF m 280 #[vi k_, vj j_, .second, vi m_, vi p_, vj q_, .second, vi 3, vi cx0, vi cx1, vi cx2, vr b1044, vr b1071, vi pcv, vi tl, vi ts, vi md, vr b1095, u_, u_] [(ii 5), (.int md)]) := fun t k => by
        refine c1229 t ?_
        show S_ p e below T1100 m 255 #[vi k_, vj j_, .second, vi m_, vi p_, vj q_, .second, vi 3, vi cx0, vi cx1, vi cx2, vr b1044, vr b1071, vi pcv, vi tl, vi ts, vi md, vr b1095, u_, u_] [(ii 4), (.int md)] t
        refine yC X1100.here hx rfl 255 277 rfl (hb hby at_255) rfl (feq hc1230).2 ?_
        refine XS.iload X1100.here hx rfl (hb hby at_277) rfl ?_
        refine XS.iconst X1100.here hx rfl (hb hby at_279) ?_
        exact k
       by_cases hc1261 : md = (5 : Int32)
       ·have c1262 : Kt p e below T1100 st0 (mkF m 285 #[vi k_, vj j_, .second, vi m_, vi p_, vj q_, .second, vi 3, vi cx0, vi cx1, vi cx2, vr b1044, vr b1071, vi pcv, vi tl, vi ts, vi md, vr b1095, u_, u_] [(rr b1095)]) := fun t k => by
         refine c1260 t ?_
         show S_ p e below T1100 m 280 #[vi k_, vj j_, .second, vi m_, vi p_, vj q_, .second, vi 3, vi cx0, vi cx1, vi cx2, vr b1044, vr b1071, vi pcv, vi tl, vi ts, vi md, vr b1095, u_, u_] [(ii 5), (.int md)] t
         refine XS.icmpNo X1100.here hx rfl (hb hby at_280) rfl (teq hc1261).2 ?_
         refine XS.aload X1100.here hx rfl (hb hby at_283) rfl rfl ?_
         exact k
        obtain ⟨_, T1263, L1263, X1263, hQ1263, c1263⟩ := kvirt X1100 hx hZ hown (w202 hw) (w203 hw) (w205 hw) (w204 hw) (w206 hw) (w25 hw) (rm_clear l Z a0 hw [] b1095 (.null) (.null) (-1 : Int32) (0 : Int64) (0 : Int32) T1100.heap n0 o1112 p1103 g1095 p1104 p1105 p1106 p1107 p1108) rfl p1103 c1262 hml pd_prV [] [] 0 (hb hby at_285) rfl rfl rfl rfl rfl rfl
        obtain ⟨rfl, N1264q, K1265, p1266, p1267, p1268, p1269, p1270, p1271⟩ := hQ1263
        have N1264 := Fr.app N1101 N1264q
        have o1272 := o1112.keep K1265 (allS g1095 all0)
        have kp1273 := kp1113.trans K1265 (allS (Or.inr z1098) all0)
        have K1287 : Keep T1100.heap T1263.heap [b1095] := ((Keep.refl _ _).trans K1265 (allS (Or.inl (List.mem_of_getElem? (i := 0) rfl)) all0))
        exact ⟨(-1 : Int32), .null, .null, (0 : Int64), (0 : Int32), T1263, _, _, X1263.mono (by decide) (by decide), rfl, o1272, K1287, kp1273, N1264, p1269, p1267, p1268, p1270, p1271, c1263⟩
       ·have c1274 : Kt p e below T1100 st0 (mkF m 288 #[vi k_, vj j_, .second, vi m_, vi p_, vj q_, .second, vi 3, vi cx0, vi cx1, vi cx2, vr b1044, vr b1071, vi pcv, vi tl, vi ts, vi md, vr b1095, u_, u_] []) := fun t k => by
         refine c1260 t ?_
         show S_ p e below T1100 m 280 #[vi k_, vj j_, .second, vi m_, vi p_, vj q_, .second, vi 3, vi cx0, vi cx1, vi cx2, vr b1044, vr b1071, vi pcv, vi tl, vi ts, vi md, vr b1095, u_, u_] [(ii 5), (.int md)] t
         refine yC X1100.here hx rfl 280 288 rfl (hb hby at_280) rfl (feq hc1261).2 ?_
         exact k
        have K1286 : Keep T1100.heap T1100.heap [b1095] := (Keep.refl _ _)
        exact ⟨(-1 : Int32), .null, .null, (0 : Int64), (0 : Int32), T1100, _, _, X1100.mono (by decide) (by decide), rfl, o1112, K1286, kp1113, N1101, p1106, p1104, p1105, p1107, p1108, c1274⟩
  have c1292 : Kt p e below T1280 st0 (mkF m 293 #[vi k_, vj j_, .second, vi m_, vi p_, vj q_, .second, vi 3, vi cx0, vi cx1, vi cx2, vr b1044, vr b1071, vi pcv, vi tl, vi ts, vi md, vr b1095, u_, u_] [(.long j_), (rr b1071), (rr b1095)]) := fun t k => by
   refine c1280 t ?_
   show S_ p e below T1280 m 288 #[vi k_, vj j_, .second, vi m_, vi p_, vj q_, .second, vi 3, vi cx0, vi cx1, vi cx2, vr b1044, vr b1071, vi pcv, vi tl, vi ts, vi md, vr b1095, u_, u_] [] t
   refine XS.aload X1280.here hx rfl (hb hby at_288) rfl rfl ?_
   refine XS.aload X1280.here hx rfl (hb hby at_290) rfl rfl ?_
   refine XS.lloadN X1280.here hx rfl (hb hby at_292) rfl ?_
   exact k
  obtain ⟨_, T1293, L1293, X1293, hQ1293, c1293⟩ := kvirt X1280 hx hZ hown (w83 hw) (w84 hw) (w86 hw) (w85 hw) (w87 hw) (w25 hw) (rm_tokS l Z a0 hw [] b1095 b1071 j_ mv1276 mv1277 mv1275 mv1278 mv1279 h1280 n0 o1280 (p1103.keep K1280) g1095 f1282 f1283 f1281 f1284 f1285) e1280 (p1103.keep K1280) c1292 hml pd_pLjava_lang_String_JrV [(rr b1071), (.long j_)] [] 0 (hb hby at_293) rfl rfl rfl rfl rfl rfl
  obtain ⟨rfl, N1294q, K1295, p1296, p1297, p1298, p1299, p1300, p1301⟩ := hQ1293
  have N1294 := Fr.app N1280 N1294q
  have o1302 := o1280.keep K1295 (allS g1095 all0)
  have kp1303 := kp1280.trans K1295 (allS (Or.inr z1098) all0)
  have q1304 := Nat.ne_of_lt (Nat.lt_of_lt_of_le p1079.lt z1095)
  have q1305 := Nat.ne_of_lt (Nat.lt_of_lt_of_le p1084.lt z1095)
  have c1306 : Kt p e below T1293 st0 (mkF m 298 #[vi k_, vj j_, .second, vi m_, vi p_, vj q_, .second, vi 3, vi cx0, vi cx1, vi cx2, vr b1044, vr b1071, vi pcv, vi tl, vi ts, vi md, vr b1095, u_, u_] [(rr b1095)]) := fun t k => by
   refine c1293 t ?_
   show S_ p e below T1293 m 296 #[vi k_, vj j_, .second, vi m_, vi p_, vj q_, .second, vi 3, vi cx0, vi cx1, vi cx2, vr b1044, vr b1071, vi pcv, vi tl, vi ts, vi md, vr b1095, u_, u_] [] t
   refine XS.aload X1293.here hx rfl (hb hby at_296) rfl rfl ?_
   exact k
  obtain ⟨_, T1307, L1307, X1307, hQ1307, c1307⟩ := kvirt X1293 hx hZ hown (w93 hw) (w94 hw) (w96 hw) (w95 hw) (w97 hw) (w25 hw) (rm_get_3 l Z a0 hw [] b1095 j_ b1071 b1081 k1082 [(.int (nar .byte (cx0.toInt8.toInt32))), (.int (nar .byte (cx1.toInt8.toInt32))), (.int (nar .byte (cx2.toInt8.toInt32)))] si1_ T1293.heap n0 o1302 p1296 g1095 p1297 p1298 p1299 p1300 p1301 ((((p1079.ext E1095).keep K1102).keep K1280).keep K1295) ((((p1080.ext E1095).keep K1102 (ninS q1304 nin0)).keep K1280 (ninS q1304 nin0)).keep K1295 (ninS q1304 nin0)) ((((p1083.ext E1095).keep K1102 (ninS q1304 nin0)).keep K1280 (ninS q1304 nin0)).keep K1295 (ninS q1304 nin0)) ((((p1084.ext E1095).keep K1102 (ninS q1305 nin0)).keep K1280 (ninS q1305 nin0)).keep K1295 (ninS q1305 nin0)) ZS0_ sn4_) rfl p1296 c1306 hml pd_prLgleaner_Match_ [] [] 0 (hb hby at_298) rfl rfl rfl rfl rfl rfl
  obtain ⟨b1308, b1309, k1310, rfl, N1311q, K1312, p1313, p1314, p1315, p1316, p1317, p1318, p1319⟩ := hQ1307
  have N1311 := Fr.app N1294 N1311q
  have o1320 := o1302.keep K1312 (allS g1095 all0)
  have kp1321 := kp1303.trans K1312 (allS (Or.inr z1098) all0)
  have z1322 := Nat.le_trans kp1303.1 p1318
  have g1323 := Nat.le_trans (Nat.le_trans (Nat.le_of_eq o1302.1.symm) o1302.2.1) p1318
  have z1324 := Nat.le_trans kp1303.1 p1319
  have g1325 := Nat.le_trans (Nat.le_trans (Nat.le_of_eq o1302.1.symm) o1302.2.1) p1319
  have c1326 : Kt p e below T1307 st0 (mkF m 312 #[vi k_, vj j_, .second, vi m_, vi p_, vj q_, .second, vi 3, vi cx0, vi cx1, vi cx2, vr b1044, vr b1071, vi pcv, vi tl, vi ts, vi md, vr b1095, vr b1308, u_] [(rr b1308)]) := fun t k => by
   refine c1307 t ?_
   show S_ p e below T1307 m 301 #[vi k_, vj j_, .second, vi m_, vi p_, vj q_, .second, vi 3, vi cx0, vi cx1, vi cx2, vr b1044, vr b1071, vi pcv, vi tl, vi ts, vi md, vr b1095, u_, u_] [(rr b1308)] t
   refine XS.astore X1307.here hx rfl (hb hby at_301) rfl rfl (l' := #[vi k_, vj j_, .second, vi m_, vi p_, vj q_, .second, vi 3, vi cx0, vi cx1, vi cx2, vr b1044, vr b1071, vi pcv, vi tl, vi ts, vi md, vr b1095, vr b1308, u_]) rfl ?_
   refine XS.aload X1307.here hx rfl (hb hby at_303) rfl rfl ?_
   refine XS.ifnonnullYes X1307.here hx rfl (pc0 := 305) (pc' := 310) rfl (hb hby at_305) rfl (by decide) (by decide) ?_
   refine XS.aload X1307.here hx rfl (hb hby at_310) rfl rfl ?_
   exact k
  have ch1329 : CHr Z consts_1 s.vm h0 s.vm h1044 := ch0.trans (CHr.ext E1044 ch0.1)
  have sf1330 : Safe Z consts_1 s.vm h1044 b1044 := own_sE (Safe.new z1044) ch0.1 E1044
  have ch1331 : CHr Z consts_1 s.vm h0 s.vm h1050 := ch1329.trans (CHr.wr W1050 sf1330 ch1329.1)
  have sf1332 : Safe Z consts_1 s.vm h1050 b1044 := own_sW sf1330 ch1329.1 W1050 sf1330
  have ch1333 : CHr Z consts_1 s.vm h0 s.vm h1057 := ch1331.trans (CHr.wr W1057 sf1332 ch1331.1)
  have sf1334 : Safe Z consts_1 s.vm h1057 b1044 := own_sW sf1332 ch1331.1 W1057 sf1332
  have ch1335 : CHr Z consts_1 s.vm h0 s.vm h1064 := ch1333.trans (CHr.wr W1064 sf1334 ch1333.1)
  have ch1336 : CHr Z consts_1 s.vm h0 s.vm h1071 := ch1335.trans (CHr.ext E1071 ch1335.1)
  have sf1337 : Safe Z consts_1 s.vm h1071 b1071 := own_sE (Safe.new z1071) ch1335.1 E1071
  have ch1338 : CHr Z consts_1 s.vm h0 s.vm T1076.heap := ch1336.trans (CHr.keep K1078 (allS sf1337 all0) ch1336.1)
  have ch1339 : CHr Z consts_1 s.vm h0 s.vm h1095 := ch1338.trans (CHr.ext E1095 ch1338.1)
  have sf1340 : Safe Z consts_1 s.vm h1095 b1095 := own_sE (Safe.new z1095) ch1338.1 E1095
  have ch1341 : CHr Z consts_1 s.vm h0 s.vm T1100.heap := ch1339.trans (CHr.keep K1102 (allS sf1340 all0) ch1339.1)
  have sf1342 : Safe Z consts_1 s.vm T1100.heap b1095 := own_sK sf1340 ch1339.1 K1102 (allS sf1340 all0)
  have ch1343 : CHr Z consts_1 s.vm h0 s.vm h1280 := ch1341.trans (CHr.keep K1280 (allS sf1342 all0) ch1341.1)
  have sf1344 : Safe Z consts_1 s.vm h1280 b1095 := own_sK sf1342 ch1341.1 K1280 (allS sf1342 all0)
  have ch1345 : CHr Z consts_1 s.vm h0 s.vm T1293.heap := ch1343.trans (CHr.keep K1295 (allS sf1344 all0) ch1343.1)
  have sf1346 : Safe Z consts_1 s.vm T1293.heap b1095 := own_sK sf1344 ch1343.1 K1295 (allS sf1344 all0)
  have ch1347 : CHr Z consts_1 s.vm h0 s.vm T1307.heap := ch1345.trans (CHr.keep K1312 (allS sf1346 all0) ch1345.1)
  obtain ⟨a1327, T1327, h1327, k1327, b1327, kb1327, X1327, e1327, E1327, o1328, hS1327, hk1327, hZ1327, hown1327, fE1327, fC1327, fV1327, fA1327, Lt1327, cr1327, hne1327, c1327⟩ := kldcH X1307 hx hZ hown hS0 (Nat.le_trans (Nat.zero_le _) (Nat.le_trans (Nat.le_trans (Nat.le_trans (Nat.le_trans (Nat.le_trans (Nat.le_trans (Nat.le_trans (Nat.le_trans (Nat.le_trans (Nat.le_trans E1044.1 (Keep.of_wr W1050).1) (Keep.of_wr W1057).1) (Keep.of_wr W1064).1) E1071.1) K1078.1) E1095.1) K1102.1) K1280.1) K1295.1) K1312.1)) (w99 hw) (own_atoms hw) (own_EW hw) (by simp [consts_1]) ch1347.1 rfl c1326 0 (hb hby at_312) rfl (vs := []) (z := (0 : Int32)) ⟨by decide, rfl⟩ (by decide) rfl (by decide) (by decide) (by decide) (by decide) o1320
  have kp1348 := kp1321.ext E1327
  have ch1349 : CHr Z consts_1 s.vm h0 T1327.vm h1327 := ch1347.trans cr1327
  have c1350 : Kt p e below T1327 st0 (mkF m 316 #[vi k_, vj j_, .second, vi m_, vi p_, vj q_, .second, vi 3, vi cx0, vi cx1, vi cx2, vr b1044, vr b1071, vi pcv, vi tl, vi ts, vi md, vr b1095, vr b1308, u_] [(.long (-j_)), (rr a1327), (rr b1308)]) := fun t k => by
   refine c1327 t ?_
   show S_ p e below T1327 m 314 #[vi k_, vj j_, .second, vi m_, vi p_, vj q_, .second, vi 3, vi cx0, vi cx1, vi cx2, vr b1044, vr b1071, vi pcv, vi tl, vi ts, vi md, vr b1095, vr b1308, u_] [(rr a1327), (rr b1308)] t
   refine XS.lloadN X1327.here hx rfl (hb hby at_314) rfl ?_
   refine XS.lneg X1327.here hx rfl (hb hby at_315) rfl ?_
   exact k
  obtain ⟨_, T1351, L1351, X1351, hQ1351, c1351⟩ := kstat X1327 hx hZ1327 hown1327 (w47 hw) (w48 hw) (w49 hw) (w50 hw) (rm_mof_0 l Z a0 hw [] a1327 b1327 kb1327 [] si1_ (-j_) h1327 n0 o1328 fE1327 fC1327 fV1327 fA1327 ZS0_ sn4_) e1327 c1350 hml pd_pLjava_lang_String_JrLgleaner_Match_ [(rr a1327), (.long (-j_))] [(rr b1308)] 1 (hb hby at_316) rfl rfl rfl rfl rfl rfl
  obtain ⟨b1352, b1353, k1354, rfl, N1355q, K1356, p1357, p1358, p1359, p1360, p1361, p1362, p1363, p1364⟩ := hQ1351
  have N1355 := Fr.app N1311 N1355q
  have o1365 := o1328.keep K1356 all0
  have kp1366 := kp1348.trans K1356 all0
  have z1367 := Nat.le_trans kp1348.1 p1363
  have g1368 := Nat.le_trans (Nat.le_trans (Nat.le_of_eq o1328.1.symm) o1328.2.1) p1363
  have z1369 := Nat.le_trans kp1348.1 p1364
  have g1370 := Nat.le_trans (Nat.le_trans (Nat.le_of_eq o1328.1.symm) o1328.2.1) p1364
  obtain ⟨_, T1371, L1371, X1371, hQ1371, c1371⟩ := kvirt X1351 hx hZ1327 hown1327 (w100 hw) (w101 hw) (w103 hw) (w102 hw) (w104 hw) (w49 hw) (rm_within l Z a0 hw [] b1308 b1071 j_ b1309 b1352 (-j_) T1351.heap n0 o1365 ((p1314.ext E1327).keep K1356 nin0) ((p1315.ext E1327).keep K1356 nin0) ((p1316.ext E1327).keep K1356 nin0) p1359) rfl ((p1313.ext E1327).keep K1356) c1351 hml pd_pLgleaner_Match_rLgleaner_Match_ [(rr b1352)] [] 0 (hb hby at_319) rfl rfl rfl rfl rfl rfl
  obtain ⟨b1372, rfl, N1373q, K1374, p1375, p1376, p1377, p1378, p1379⟩ := hQ1371
  have N1373 := Fr.app N1355 N1373q
  have o1380 := o1365.keep K1374 all0
  have kp1381 := kp1366.trans K1374 all0
  have z1382 := Nat.le_trans kp1366.1 p1379
  have g1383 := Nat.le_trans (Nat.le_trans (Nat.le_of_eq o1365.1.symm) o1365.2.1) p1379
  have f1384 : Fld Z T1371.heap b1372 nm2 "offset" "J" (.long (0 : Int64)) := by rw [← own_neg j_]; exact p1377
  have f1385 := (((((((p1080.ext E1095).keep K1102 (ninS q1304 nin0)).keep K1280 (ninS q1304 nin0)).keep K1295 (ninS q1304 nin0)).keep K1312 (ninS q1304 nin0)).ext E1327).keep K1356 nin0).keep K1374 nin0
  have f1386 := (((((((p1083.ext E1095).keep K1102 (ninS q1304 nin0)).keep K1280 (ninS q1304 nin0)).keep K1295 (ninS q1304 nin0)).keep K1312 (ninS q1304 nin0)).ext E1327).keep K1356 nin0).keep K1374 nin0
  have f1387 := (((((((p1084.ext E1095).keep K1102 (ninS q1305 nin0)).keep K1280 (ninS q1305 nin0)).keep K1295 (ninS q1305 nin0)).keep K1312 (ninS q1305 nin0)).ext E1327).keep K1356 nin0).keep K1374 nin0
  have c1388 : Kt p e below T1371 st0 (mkF m 328 #[vi k_, vj j_, .second, vi m_, vi p_, vj q_, .second, vi 3, vi cx0, vi cx1, vi cx2, vr b1044, vr b1071, vi pcv, vi tl, vi ts, vi md, vr b1095, vr b1308, vr b1372] [(rr b1308), (rr b1071)]) := fun t k => by
   refine c1371 t ?_
   show S_ p e below T1371 m 322 #[vi k_, vj j_, .second, vi m_, vi p_, vj q_, .second, vi 3, vi cx0, vi cx1, vi cx2, vr b1044, vr b1071, vi pcv, vi tl, vi ts, vi md, vr b1095, vr b1308, u_] [(rr b1372)] t
   refine XS.astore X1371.here hx rfl (hb hby at_322) rfl rfl (l' := #[vi k_, vj j_, .second, vi m_, vi p_, vj q_, .second, vi 3, vi cx0, vi cx1, vi cx2, vr b1044, vr b1071, vi pcv, vi tl, vi ts, vi md, vr b1095, vr b1308, vr b1372]) rfl ?_
   refine XS.aload X1371.here hx rfl (hb hby at_324) rfl rfl ?_
   refine XS.aload X1371.here hx rfl (hb hby at_326) rfl rfl ?_
   exact k
  obtain ⟨_, T1389, L1389, X1389, hQ1389, c1389⟩ := kvirt X1371 hx hZ1327 hown1327 (w105 hw) (w106 hw) (w108 hw) (w107 hw) (w109 hw) (w49 hw) (rm_gr_3 l Z a0 hw [] b1308 b1309 k1310 j_ b1071 b1081 k1082 [(.int (nar .byte (cx0.toInt8.toInt32))), (.int (nar .byte (cx1.toInt8.toInt32))), (.int (nar .byte (cx2.toInt8.toInt32)))] si1_ sv6_ T1371.heap n0 o1380 (((p1313.ext E1327).keep K1356).keep K1374) (((p1314.ext E1327).keep K1356 nin0).keep K1374 nin0) (((p1315.ext E1327).keep K1356 nin0).keep K1374 nin0) (((p1316.ext E1327).keep K1356 nin0).keep K1374 nin0) (((p1317.ext E1327).keep K1356 nin0).keep K1374 nin0) ((((((((p1079.ext E1095).keep K1102).keep K1280).keep K1295).keep K1312).ext E1327).keep K1356).keep K1374) f1385 f1386 f1387 ZS0_ sn4_ ZS3_ sv6_r) rfl (((p1313.ext E1327).keep K1356).keep K1374) c1388 hml pd_prLjava_lang_String_ [] [(rr b1071)] 1 (hb hby at_328) rfl rfl rfl rfl rfl rfl
  obtain ⟨rfl, N1390q, K1391⟩ := hQ1389
  have N1390 := Fr.app N1373 N1390q
  obtain ⟨_, T1392, L1392, X1392, hQ1392, c1392⟩ := kvirt X1389 hx hZ1327 hown1327 (w138 hw) (w139 hw) (w141 hw) (w140 hw) (w142 hw) (w3 hw) (rm_eqs l Z a0 hw [] b1071 T1371.heap n0 o1380 ) K1391 ((((((((p1079.ext E1095).keep K1102).keep K1280).keep K1295).keep K1312).ext E1327).keep K1356).keep K1374) c1389 hml pd_pLjava_lang_Object_rZ [(rr b1071)] [] 0 (hb hby at_331) rfl rfl rfl rfl rfl rfl
  obtain ⟨rfl, N1393q, K1394⟩ := hQ1392
  have N1393 := Fr.app N1390 N1393q
  have c1395 : Kt p e below T1392 st0 (mkF m 339 #[vi k_, vj j_, .second, vi m_, vi p_, vj q_, .second, vi 3, vi cx0, vi cx1, vi cx2, vr b1044, vr b1071, vi pcv, vi tl, vi ts, vi md, vr b1095, vr b1308, vr b1372] [(rr b1308)]) := fun t k => by
   refine c1392 t ?_
   show S_ p e below T1392 m 334 #[vi k_, vj j_, .second, vi m_, vi p_, vj q_, .second, vi 3, vi cx0, vi cx1, vi cx2, vr b1044, vr b1071, vi pcv, vi tl, vi ts, vi md, vr b1095, vr b1308, vr b1372] [(ii 1)] t
   refine XS.ifNo X1392.here hx rfl (hb hby at_334) rfl rfl ?_
   refine XS.aload X1392.here hx rfl (hb hby at_337) rfl rfl ?_
   exact k
  obtain ⟨_, T1396, L1396, X1396, hQ1396, c1396⟩ := kvirt X1392 hx hZ1327 hown1327 (w143 hw) (w120 hw) (w122 hw) (w121 hw) (w123 hw) (w49 hw) (rm_gc l Z a0 hw [] b1308 b1309 k1310 [(ii 0), (ii 3)] T1371.heap n0 o1380 (((p1316.ext E1327).keep K1356 nin0).keep K1374 nin0) (((p1317.ext E1327).keep K1356 nin0).keep K1374 nin0)) K1394 (((p1313.ext E1327).keep K1356).keep K1374) c1395 hml pd_prI [] [] 0 (hb hby at_339) rfl rfl rfl rfl rfl rfl
  obtain ⟨rfl, N1397q, K1398⟩ := hQ1396
  have N1397 := Fr.app N1393 N1397q
  have c1399 : Kt p e below T1396 st0 (mkF m 347 #[vi k_, vj j_, .second, vi m_, vi p_, vj q_, .second, vi 3, vi cx0, vi cx1, vi cx2, vr b1044, vr b1071, vi pcv, vi tl, vi ts, vi md, vr b1095, vr b1308, vr b1372] [(rr b1372)]) := fun t k => by
   refine c1396 t ?_
   show S_ p e below T1396 m 342 #[vi k_, vj j_, .second, vi m_, vi p_, vj q_, .second, vi 3, vi cx0, vi cx1, vi cx2, vr b1044, vr b1071, vi pcv, vi tl, vi ts, vi md, vr b1095, vr b1308, vr b1372] [(ii 0)] t
   refine XS.ifNo X1396.here hx rfl (hb hby at_342) rfl rfl ?_
   refine XS.aload X1396.here hx rfl (hb hby at_345) rfl rfl ?_
   exact k
  obtain ⟨_, T1400, L1400, X1400, hQ1400, c1400⟩ := kvirt X1396 hx hZ1327 hown1327 (w144 hw) (w145 hw) (w147 hw) (w146 hw) (w148 hw) (w49 hw) (rm_start_3 l Z a0 hw [] b1372 b1071 b1309 k1310 T1371.heap n0 o1380 p1375 p1376 f1384 p1378 (((p1317.ext E1327).keep K1356 nin0).keep K1374 nin0)) K1398 p1375 c1399 hml pd_prI [] [] 0 (hb hby at_347) rfl rfl rfl rfl rfl rfl
  obtain ⟨rfl, N1401q, K1402⟩ := hQ1400
  have N1401 := Fr.app N1397 N1401q
  have c1403 : Kt p e below T1400 st0 (mkF m 355 #[vi k_, vj j_, .second, vi m_, vi p_, vj q_, .second, vi 3, vi cx0, vi cx1, vi cx2, vr b1044, vr b1071, vi pcv, vi tl, vi ts, vi md, vr b1095, vr b1308, vr b1372] [(rr b1372)]) := fun t k => by
   refine c1400 t ?_
   show S_ p e below T1400 m 350 #[vi k_, vj j_, .second, vi m_, vi p_, vj q_, .second, vi 3, vi cx0, vi cx1, vi cx2, vr b1044, vr b1071, vi pcv, vi tl, vi ts, vi md, vr b1095, vr b1308, vr b1372] [(ii 0)] t
   refine XS.ifNo X1400.here hx rfl (hb hby at_350) rfl rfl ?_
   refine XS.aload X1400.here hx rfl (hb hby at_353) rfl rfl ?_
   exact k
  obtain ⟨_, T1404, L1404, X1404, hQ1404, c1404⟩ := kvirt X1400 hx hZ1327 hown1327 (w162 hw) (w163 hw) (w165 hw) (w164 hw) (w166 hw) (w49 hw) (rm_end_3 l Z a0 hw [] b1372 b1071 b1309 k1310 T1371.heap n0 o1380 p1375 p1376 f1384 p1378 (((p1317.ext E1327).keep K1356 nin0).keep K1374 nin0)) K1402 p1375 c1403 hml pd_prI [] [] 0 (hb hby at_355) rfl rfl rfl rfl rfl rfl
  obtain ⟨rfl, N1405q, K1406⟩ := hQ1404
  have N1405 := Fr.app N1401 N1405q
  obtain ⟨fs, hr, hrun, hended, hRW⟩ := X1404.leaveW hS1327 (by first | exact (Nat.le_trans hk1327 (Nat.le_trans K1356.1 K1374.1)) | (rw [K1406]; exact (Nat.le_trans hk1327 (Nat.le_trans K1356.1 K1374.1)))) (v := some (ii 1)) (fun h => by rw [Bd.returns] at h; cases h)
  refine ⟨_, _, c1404 _ ?_, hrun, hended, _, _, rfl, ?_, hRW.1, hRW.2.1, hRW.2.2.1, hRW.2.2.2.mono (by decide) (by decide)⟩
  ·show S_ p e below T1404 m 358 #[vi k_, vj j_, .second, vi m_, vi p_, vj q_, .second, vi 3, vi cx0, vi cx1, vi cx2, vr b1044, vr b1071, vi pcv, vi tl, vi ts, vi md, vr b1095, vr b1308, vr b1372] [(ii 3)] _
   refine XS.iload X1404.here hx rfl (hb hby at_358) rfl ?_
   refine XS.icmpNo X1404.here hx rfl (hb hby at_360) rfl rfl ?_
   refine XS.iconst X1404.here hx rfl (hb hby at_363) ?_
   refine yG X1404.here hx rfl 364 368 rfl (hb hby at_364) ?_
   show S_ p e below T1404 m 368 #[vi k_, vj j_, .second, vi m_, vi p_, vj q_, .second, vi 3, vi cx0, vi cx1, vi cx2, vr b1044, vr b1071, vi pcv, vi tl, vi ts, vi md, vr b1095, vr b1308, vr b1372] [(ii 1)] _
   exact retN X1404 hx (t := .boolean) Bd.returns (by simp) (hb hby at_368) hr
  ·show Q_law Z k_ j_ m_ p_ q_ si1_ sv6_ h0 n0 _ T1404.heap _
   rw [K1406]
   exact ⟨rfl, N1405, kp1381⟩
set_option maxRecDepth 65536 in
set_option maxHeartbeats 40000000 in
theorem comes_1 {Post : Tables → Env → Array Value → State → Outcome → State → Prop} (hpost : ∀ tb e args s v u, (limb_1_1.after args s (.returned v) u = true ∧ limb_1_2.after args s (.returned v) u = true ∧ True) → ReturnedEndW s (.returned v) u (Jvm.fieldLocs frame_1_writes args s ++ Jvm.arrayLocs frame_1_arrays args s ++ Jvm.staticLocs frame_1_statics s) 40 2368 → Post tb e args s (.returned v) u) :
  ArmFor flags0 classFile x code maxLocals ret World_1 tables_1 room_1 Calls_1 rest_1 Pre_1 Post := by
 intro l hfl _ _ p e ha hc hk s m args below hf hA hF happ hP
 obtain ⟨hcalls, hrest, hpre⟩ := hP
 obtain ⟨-, -, -, hnamed, -, -, -, hat⟩ := (Spec.applies_iff hf).mp happ
 obtain ⟨hg, hn⟩ := and_e (Jvm.Cond.before_iff.mp (show (Jvm.Cond.and given_1 narrow_1).before args s = true from hpre))
 obtain ⟨ga0, gb0⟩ := and_e hg
 obtain ⟨ga1, gb1⟩ := and_e gb0
 obtain ⟨ga2, gb2⟩ := and_e gb1
 obtain ⟨ga3, gb3⟩ := and_e gb2
 obtain ⟨ga4, gb4⟩ := and_e gb3
 obtain ⟨wv0, wv1, wv2, wv3, wv4, rfl⟩ : ∃ wv0 wv1 wv2 wv3 wv4 : Value, args = #[wv0, wv1, wv2, wv3, wv4] := by
  have hs : args.size = 5 := by simpa [Jvm.Cond.value, given_1] using ga0
  obtain ⟨L⟩ := args
  match L, hs with
  | [wv0, wv1, wv2, wv3, wv4], _ => exact ⟨wv0, wv1, wv2, wv3, wv4, rfl⟩
 have hw := fun d (hd : d ∈ tables_1) => atoms_spec (ws := Jvm.Cond.code x code maxLocals ret :: tables_1) hat d (List.mem_cons_of_mem _ hd)
 have hfit : Fit s := fun {y c} hc i hi => by
  obtain ⟨ha, rfl⟩ := Array.getElem?_eq_some_iff.mp hc
  have q := List.all_eq_true.mp ((Array.all_eq_true_iff_forall_mem.mp hF) _ (Array.getElem_mem ha)) i (List.mem_range.mpr hi)
  simpa [Array.getElem?_eq_getElem hi] using q
 obtain ⟨hsets, hown0⟩ := atoms_of _ (rest_1_c_eq ▸ (show rest_1_c.before _ s = true from hrest))
 obtain ⟨i0, ei0⟩ := is_v ga1
 obtain rfl : wv0 = (.int i0) := Option.some.inj ei0
 obtain ⟨i1, ei1⟩ := isL_v ga2
 obtain rfl : wv1 = (.long i1) := Option.some.inj ei1
 obtain ⟨i2, ei2⟩ := is_v ga3
 obtain rfl : wv2 = (.int i2) := Option.some.inj ei2
 obtain ⟨i3, ei3⟩ := is_v ga4
 obtain rfl : wv3 = (.int i3) := Option.some.inj ei3
 obtain ⟨i4, ei4⟩ := isL_v gb4
 obtain rfl : wv4 = (.long i4) := Option.some.inj ei4
 obtain ⟨si1_, se2_⟩ := is_v (Jvm.Cond.before_iff.mp (hsets _ (List.mem_of_getElem? (i := 1) rfl)))
 have sf3_ : Sta s s.heap nm0 "COMPACT_STRINGS" "Z" (.int si1_) := Sta.start se2_ (Or.inl (hsets _ (List.mem_of_getElem? (i := 0) rfl)))
 have sr5_ : ¬ (si1_ = (0 : Int32)) := gotF (Jvm.Cond.eq_ints se2_ (Term.int_eval _)) (not_v (Jvm.Cond.before_iff.mp (hsets _ (List.mem_of_getElem? (i := 2) rfl))))
 obtain ⟨sv6_, se7_, sv6_r⟩ := isR_v (Jvm.Cond.before_iff.mp (hsets _ (List.mem_of_getElem? (i := 8) rfl)))
 have sf8_ : Sta s s.heap nm4 "SIOOBE_FORMATTER" nm11 sv6_ := Sta.start se7_ (Or.inl (hsets _ (List.mem_of_getElem? (i := 7) rfl)))
 have hcw : Jvm.Lit.compactW.before #[.int i0, .long i1, .int i2, .int i3, .long i4] s = true := (hsets _ (List.mem_of_getElem? (i := 2) rfl))
 have hCH : CHv s consts_1 s.vm s.heap := CHv.start (own_EW hw) (fun p hp => hcalls.1 p hp) hcw (w15 hw) (w2 hw)
 obtain ⟨n, o, h1, h2, h3, _, L, rfl, ⟨rfl, N, -⟩, hq⟩ := rm_law l s _ hw tables_1 i0 i1 i2 i3 i4 si1_ sv6_ s.heap s.heap.size (Old.start s) sf3_ sr5_ sv6_r sf8_ p e ha hc hk s m _ below hf ((Spec.applies_iff_loose hf).mp happ).1 ⟨rfl, State.Warmed39.refl s, rfl, hCH⟩ trivial
 refine ⟨n, _, h1, h2, h3, hpost _ _ _ _ _ _ ⟨Jvm.Cond.after_iff.mpr rfl, Jvm.Cond.after_iff.mpr (eq_i res_at (Term.int_eval (1)) rfl), trivial⟩ ⟨hq.1, hq.2.1, hq.2.2.1, (hq.2.2.2.sift fun y hy => Or.inr (N y hy)).mono (by decide) (by decide)⟩⟩
theorem main_1_1 : Claimed_1_1 := comes_1 fun _ _ _ _ _ _ h hF => ⟨h.1, hF⟩
theorem main_1_2 : Claimed_1_2 := comes_1 fun _ _ _ _ _ _ h hF => ⟨h.2.1, hF⟩
end Jvm.Pilot.@@N@@
namespace Jvm.Pilot.@@N@@
open Jvm Jvm.ClassFile Sem Op Lib Jvm.Free Jvm.Stand Jvm.Pilot.@@N@@.Jvm.D
/-! MADE BY PROGRAM (witnessworld.py) out of the Statement's table words and the real class files: 24 classes; the members and pool entries that the words name. The judged class is class 1, her method 1. -/
namespace start1
open Jvm.ClassFile
def u (s : String) : CpInfo := .utf8 (stringToUtf16 s)
/-- a pool by its gaps: so many unusable entries, then the entry; so many at the end -/
def gap : Nat → List CpInfo → List CpInfo
  | 0, r => r
  | n + 1, r => .unusable :: gap n r
def poolList (es : List (Nat × CpInfo)) (last : Nat) : List CpInfo := es.foldr (fun e r => gap e.1 (e.2 :: r)) (gap last [])
def pool (es : List (Nat × CpInfo)) (last : Nat) : Array CpInfo := ⟨poolList es last⟩
def fileOf (pool : Array CpInfo) (this : Nat) (attrs : Array Attribute := #[]) (ms : Array MethodInfo := #[]) (fl : Nat := 33) (sup : Nat := 0) (ifs : Array Nat := #[]) (fds : Array FieldInfo := #[]) : ClassFile where
  minorVersion := 0
  majorVersion := 65
  constantPool := pool
  accessFlags := fl
  thisClass := this
  superClass := sup
  interfaces := ifs
  fields := fds
  methods := ms
  attributes := attrs
def plain (name : String) (sup : Option ClassId) : Class where
  name := name
  kind := .ordinary
  loader := none
  accessFlags := 33
  super := sup
  interfaces := #[]
  cf := none
  fields := #[]
  methods := #[]
  instanceTypes := #[]
  staticTypes := #[]
  resolved := #[]
  callSites := []
  init := .initialized
  statics := none
  mirror := none

def pool0 : Array CpInfo := pool [(5, u "<init>"), (0, u "()V"), (1, .class_ 10), (1, u "java/lang/Object")] 113

def k0c0 : Code := { maxStack := 0, maxLocals := 1, code := object_method_1_code, exceptionTable := #[], attributes := #[] }
def k0m0 : Method := { name := "<init>", desc := "()V", sig := { parameters := [], returnType := none }, accessFlags := 1, code := some k0c0 }
/-- java/lang/Object -/
def k0 : Class := { plain "java/lang/Object" none with
  accessFlags := 33
  interfaces := #[]
  cf := some (fileOf pool0 8 #[] #[{ accessFlags := 1, nameIndex := 5, descriptorIndex := 6, attributes := #[] }] 33 0 #[] #[])
  fields := #[]
  methods := #[k0m0]
  instanceTypes := #[]
  staticTypes := #[]
  resolved := Array.replicate 124 none
  statics := none }

def pool1 : Array CpInfo := pool [(2, .class_ 4), (0, .nameAndType 5 6), (0, u "java/lang/Object"), (0, u "<init>"), (0, u "()V"), (0, .class_ 8), (0, u "java/lang/String"), (0, .methodref 7 10), (0, .nameAndType 5 11), (0, u "([C)V"), (0, .integer 2147483647), (0, .class_ 14), (0, u "gleaner/LastMatch"), (0, .methodref 13 3), (0, .methodref 7 17), (0, .nameAndType 18 19), (0, u "valueOf"), (0, u "(C)Ljava/lang/String;"), (0, .methodref 21 22), (0, .class_ 23), (0, .nameAndType 24 25), (0, u "gleaner/Match"), (0, u "of"), (0, u "(Ljava/lang/String;J)Lgleaner/Match;"), (0, .methodref 13 27), (0, .nameAndType 28 29), (0, u "set"), (0, u "(Lgleaner/Match;)V"), (0, .methodref 13 31), (0, .nameAndType 32 33), (0, u "line"), (0, u "(Ljava/lang/String;JIC)V"), (0, .methodref 13 35), (0, .nameAndType 36 37), (0, u "token"), (0, u "([CIIJ)V"), (0, .methodref 13 39), (0, .nameAndType 40 41), (0, u "lineWithTerminator"), (0, u "(Ljava/lang/String;JI)V"), (0, .methodref 13 43), (0, .nameAndType 44 6), (0, u "clear"), (0, .methodref 13 46), (0, .nameAndType 36 47), (0, u "(Ljava/lang/String;J)V"), (0, .methodref 13 49), (0, .nameAndType 50 51), (0, u "get"), (0, u "()Lgleaner/Match;"), (0, .string 53), (0, u ""), (0, .methodref 21 55), (0, .nameAndType 56 57), (0, u "within"), (0, u "(Lgleaner/Match;)Lgleaner/Match;"), (0, .methodref 21 59), (0, .nameAndType 60 61), (0, u "group"), (0, u "()Ljava/lang/String;"), (0, .methodref 7 63), (0, .nameAndType 64 65), (0, u "equals"), (0, u "(Ljava/lang/Object;)Z"), (0, .methodref 21 67), (0, .nameAndType 68 69), (0, u "groupCount"), (0, u "()I"), (0, .methodref 21 71), (0, .nameAndType 72 69), (0, u "start"), (0, .methodref 21 74), (0, .nameAndType 75 69), (0, u "end"), (0, .class_ 77), (0, u "gleaner/LastMatchTokenPinLaw"), (2, u "law"), (0, u "(IJIIJ)Z")] 5

def k1m0 : Method := { name := "<init>", desc := "()V", sig := { parameters := [], returnType := none }, accessFlags := 1, code := none }
def k1c1 : Code := { maxStack := 6, maxLocals := 20, code := code, exceptionTable := #[], attributes := #[] }
def k1m1 : Method := { name := "law", desc := "(IJIIJ)Z", sig := { parameters := [.int, .long, .int, .int, .long], returnType := some .boolean }, accessFlags := 9, code := some k1c1 }
/-- gleaner/LastMatchTokenPinLaw -/
def k1 : Class := { plain "gleaner/LastMatchTokenPinLaw" (some 0) with
  accessFlags := 49
  interfaces := #[]
  cf := some (fileOf pool1 76 #[] #[{ accessFlags := 1, nameIndex := 5, descriptorIndex := 6, attributes := #[] }, { accessFlags := 9, nameIndex := 80, descriptorIndex := 81, attributes := #[] }] 49 2 #[] #[])
  fields := #[]
  methods := #[k1m0, k1m1]
  instanceTypes := #[]
  staticTypes := #[]
  resolved := Array.replicate 87 none
  statics := none }

def pool2 : Array CpInfo := pool [(1, .class_ 2), (0, u "java/io/Serializable"), (0, .class_ 4), (0, u "java/lang/Object")] 2

/-- java/io/Serializable -/
def k2 : Class := { plain "java/io/Serializable" (some 0) with
  accessFlags := 1537
  interfaces := #[]
  cf := some (fileOf pool2 1 #[] #[] 1537 3 #[] #[])
  fields := #[]
  methods := #[]
  instanceTypes := #[]
  staticTypes := #[]
  resolved := Array.replicate 7 none
  statics := none }

def pool3 : Array CpInfo := pool [(1, .class_ 2), (0, u "java/lang/Comparable"), (0, .class_ 4), (0, u "java/lang/Object")] 7

/-- java/lang/Comparable -/
def k3 : Class := { plain "java/lang/Comparable" (some 0) with
  accessFlags := 1537
  interfaces := #[]
  cf := some (fileOf pool3 1 #[] #[] 1537 3 #[] #[])
  fields := #[]
  methods := #[]
  instanceTypes := #[]
  staticTypes := #[]
  resolved := Array.replicate 12 none
  statics := none }

def pool4 : Array CpInfo := pool [(2, .class_ 4), (1, u "java/lang/CharSequence"), (42, .class_ 48), (0, u "java/lang/CharSequence$1CodePointIterator"), (10, .class_ 60), (0, u "java/lang/CharSequence$1CharIterator"), (5, .class_ 67), (0, u "java/lang/Object")] 63

/-- java/lang/CharSequence -/
def k4 : Class := { plain "java/lang/CharSequence" (some 0) with
  accessFlags := 1537
  interfaces := #[]
  cf := some (fileOf pool4 2 #[.nestMembers #[47, 59]] #[] 1537 66 #[] #[])
  fields := #[]
  methods := #[]
  instanceTypes := #[]
  staticTypes := #[]
  resolved := Array.replicate 131 none
  statics := none }

def pool5 : Array CpInfo := pool [(1, .class_ 2), (0, u "java/lang/constant/Constable"), (0, .class_ 4), (0, u "java/lang/Object")] 6

/-- java/lang/constant/Constable -/
def k5 : Class := { plain "java/lang/constant/Constable" (some 0) with
  accessFlags := 1537
  interfaces := #[]
  cf := some (fileOf pool5 1 #[] #[] 1537 3 #[] #[])
  fields := #[]
  methods := #[]
  instanceTypes := #[]
  staticTypes := #[]
  resolved := Array.replicate 11 none
  statics := none }

def pool6 : Array CpInfo := pool [(1, .class_ 2), (0, u "java/lang/constant/ConstantDesc"), (0, .class_ 4), (0, u "java/lang/Object")] 32

/-- java/lang/constant/ConstantDesc -/
def k6 : Class := { plain "java/lang/constant/ConstantDesc" (some 0) with
  accessFlags := 1537
  interfaces := #[]
  cf := some (fileOf pool6 1 #[] #[] 1537 3 #[] #[])
  fields := #[]
  methods := #[]
  instanceTypes := #[]
  staticTypes := #[]
  resolved := Array.replicate 37 none
  statics := none }

def pool7 : Array CpInfo := pool [(1, .methodref 2 3), (0, .class_ 4), (0, .nameAndType 5 6), (0, u "java/lang/Object"), (0, u "<init>"), (0, u "()V"), (0, .string 8), (0, u ""), (0, .fieldref 10 11), (0, .class_ 12), (0, .nameAndType 13 14), (0, u "java/lang/String"), (0, u "value"), (0, u "[B"), (0, .fieldref 10 16), (0, .nameAndType 17 18), (0, u "coder"), (0, u "B"), (2, u "hash"), (0, u "I"), (2, u "hashIsZero"), (0, u "Z"), (0, .methodref 10 28), (0, .nameAndType 5 29), (0, u "([CIILjava/lang/Void;)V"), (8, .fieldref 10 39), (0, .nameAndType 40 26), (0, u "COMPACT_STRINGS"), (1, .class_ 44), (1, u "java/lang/StringUTF16"), (0, u "compress"), (1, .methodref 42 48), (0, .nameAndType 49 50), (0, u "coderFromArrayLen"), (0, u "([BI)B"), (2, u "toBytes"), (53, .class_ 109), (1, u "java/lang/StringLatin1"), (67, .methodref 42 178), (0, .nameAndType 45 179), (0, u "([CII)[B"), (29, .methodref 10 210), (0, .nameAndType 5 211), (0, u "([BB)V"), (122, u "()I"), (0, .methodref 10 336), (0, .nameAndType 17 337), (0, u "()B"), (31, u "(C)Z"), (135, .methodref 10 506), (0, .nameAndType 507 334), (0, u "length"), (5, u "checkFromToIndex"), (7, .methodref 10 522), (0, .nameAndType 523 524), (0, u "checkBoundsBeginEnd"), (0, u "(III)V"), (18, u "equals"), (29, u "(Ljava/lang/Object;)Z"), (1, .class_ 576), (0, u "java/lang/CharSequence"), (22, u "CASE_INSENSITIVE_ORDER"), (0, u "Ljava/util/Comparator;"), (82, u "substring"), (0, u "(II)Ljava/lang/String;"), (97, u "valueOf"), (0, u "(C)Ljava/lang/String;"), (226, u "([C)V"), (4, .methodref 107 1016), (0, .nameAndType 1017 369), (0, u "canEncode"), (0, .methodref 107 1019), (0, .nameAndType 53 1020), (0, u "(C)[B"), (32, .fieldref 1054 1055), (0, .class_ 1056), (0, .nameAndType 1057 1058), (0, u "jdk/internal/util/Preconditions"), (0, u "SIOOBE_FORMATTER"), (0, u "Ljava/util/function/BiFunction;"), (3, .methodref 1054 1063), (0, .nameAndType 513 1064), (0, u "(IIILjava/util/function/BiFunction;)I"), (36, u "serialPersistentFields"), (0, u "[Ljava/io/ObjectStreamField;"), (0, .class_ 1104), (0, u "java/lang/String$CaseInsensitiveComparator"), (1, .class_ 1107), (0, u "java/io/Serializable"), (0, .class_ 1109), (0, u "java/lang/Comparable"), (0, .class_ 1111), (0, u "java/lang/constant/Constable"), (0, .class_ 1113), (0, u "java/lang/constant/ConstantDesc"), (2, u "serialVersionUID"), (0, u "J"), (3, u "REPL"), (0, u "C"), (2, u "LATIN1"), (1, u "UTF16")] 323

def k7m0 : Method := { name := "<init>", desc := "()V", sig := { parameters := [], returnType := none }, accessFlags := 1, code := none }
def k7c1 : Code := { maxStack := 5, maxLocals := 2, code := jdk_42_method_3_code, exceptionTable := #[], attributes := #[] }
def k7m1 : Method := { name := "<init>", desc := "([C)V", sig := { parameters := [(.array .char)], returnType := none }, accessFlags := 1, code := some k7c1 }
def k7c2 : Code := { maxStack := 2, maxLocals := 1, code := jdk_42_method_54_code, exceptionTable := #[], attributes := #[] }
def k7m2 : Method := { name := "length", desc := "()I", sig := { parameters := [], returnType := some .int }, accessFlags := 1, code := some k7c2 }
def k7c3 : Code := { maxStack := 2, maxLocals := 3, code := jdk_42_method_66_code, exceptionTable := #[], attributes := #[] }
def k7m3 : Method := { name := "equals", desc := "(Ljava/lang/Object;)Z", sig := { parameters := [(.object "java/lang/Object")], returnType := some .boolean }, accessFlags := 1, code := some k7c3 }
def k7c4 : Code := { maxStack := 3, maxLocals := 5, code := jdk_42_method_92_code, exceptionTable := #[], attributes := #[] }
def k7m4 : Method := { name := "substring", desc := "(II)Ljava/lang/String;", sig := { parameters := [.int, .int], returnType := some (.object "java/lang/String") }, accessFlags := 1, code := some k7c4 }
def k7c5 : Code := { maxStack := 4, maxLocals := 1, code := jdk_42_method_139_code, exceptionTable := #[], attributes := #[] }
def k7m5 : Method := { name := "valueOf", desc := "(C)Ljava/lang/String;", sig := { parameters := [.char], returnType := some (.object "java/lang/String") }, accessFlags := 9, code := some k7c5 }
def k7c6 : Code := { maxStack := 4, maxLocals := 6, code := jdk_42_method_149_code, exceptionTable := #[], attributes := #[] }
def k7m6 : Method := { name := "<init>", desc := "([CIILjava/lang/Void;)V", sig := { parameters := [(.array .char), .int, .int, (.object "java/lang/Void")], returnType := none }, accessFlags := 2, code := some k7c6 }
def k7c7 : Code := { maxStack := 2, maxLocals := 3, code := jdk_42_method_151_code, exceptionTable := #[], attributes := #[] }
def k7m7 : Method := { name := "<init>", desc := "([BB)V", sig := { parameters := [(.array .byte), .byte], returnType := none }, accessFlags := 0, code := some k7c7 }
def k7c8 : Code := { maxStack := 1, maxLocals := 1, code := jdk_42_method_152_code, exceptionTable := #[], attributes := #[] }
def k7m8 : Method := { name := "coder", desc := "()B", sig := { parameters := [], returnType := some .byte }, accessFlags := 0, code := some k7c8 }
def k7c9 : Code := { maxStack := 4, maxLocals := 3, code := jdk_42_method_158_code, exceptionTable := #[], attributes := #[] }
def k7m9 : Method := { name := "checkBoundsBeginEnd", desc := "(III)V", sig := { parameters := [.int, .int, .int], returnType := none }, accessFlags := 8, code := some k7c9 }
/-- java/lang/String -/
def k7 : Class := { plain "java/lang/String" (some 0) with
  accessFlags := 49
  interfaces := #[2, 3, 4, 5, 6]
  cf := some (fileOf pool7 10 #[.nestMembers #[1103]] #[{ accessFlags := 1, nameIndex := 5, descriptorIndex := 6, attributes := #[] }, { accessFlags := 1, nameIndex := 5, descriptorIndex := 1010, attributes := #[] }, { accessFlags := 1, nameIndex := 507, descriptorIndex := 334, attributes := #[] }, { accessFlags := 1, nameIndex := 543, descriptorIndex := 573, attributes := #[] }, { accessFlags := 1, nameIndex := 683, descriptorIndex := 684, attributes := #[] }, { accessFlags := 9, nameIndex := 782, descriptorIndex := 783, attributes := #[] }, { accessFlags := 2, nameIndex := 5, descriptorIndex := 29, attributes := #[] }, { accessFlags := 0, nameIndex := 5, descriptorIndex := 211, attributes := #[] }, { accessFlags := 0, nameIndex := 17, descriptorIndex := 337, attributes := #[] }, { accessFlags := 8, nameIndex := 523, descriptorIndex := 524, attributes := #[] }] 49 2 #[1106, 1108, 575, 1110, 1112] #[{ accessFlags := 18, nameIndex := 13, descriptorIndex := 14, attributes := #[] }, { accessFlags := 18, nameIndex := 17, descriptorIndex := 18, attributes := #[] }, { accessFlags := 2, nameIndex := 21, descriptorIndex := 22, attributes := #[] }, { accessFlags := 2, nameIndex := 25, descriptorIndex := 26, attributes := #[] }, { accessFlags := 26, nameIndex := 1116, descriptorIndex := 1117, attributes := #[] }, { accessFlags := 24, nameIndex := 40, descriptorIndex := 26, attributes := #[] }, { accessFlags := 26, nameIndex := 1101, descriptorIndex := 1102, attributes := #[] }, { accessFlags := 26, nameIndex := 1121, descriptorIndex := 1122, attributes := #[] }, { accessFlags := 25, nameIndex := 599, descriptorIndex := 600, attributes := #[] }, { accessFlags := 24, nameIndex := 1125, descriptorIndex := 18, attributes := #[] }, { accessFlags := 24, nameIndex := 1127, descriptorIndex := 18, attributes := #[] }])
  fields := #[{ name := "value", type := (.array .byte), accessFlags := 18, slot := 0, constantValue := 0 }, { name := "coder", type := .byte, accessFlags := 18, slot := 1, constantValue := 0 }, { name := "hash", type := .int, accessFlags := 2, slot := 2, constantValue := 0 }, { name := "hashIsZero", type := .boolean, accessFlags := 2, slot := 3, constantValue := 0 }, { name := "serialVersionUID", type := .long, accessFlags := 26, slot := 0, constantValue := 0 }, { name := "COMPACT_STRINGS", type := .boolean, accessFlags := 24, slot := 1, constantValue := 0 }, { name := "serialPersistentFields", type := (.array (.object "java/io/ObjectStreamField")), accessFlags := 26, slot := 2, constantValue := 0 }, { name := "REPL", type := .char, accessFlags := 26, slot := 3, constantValue := 0 }, { name := "CASE_INSENSITIVE_ORDER", type := (.object "java/util/Comparator"), accessFlags := 25, slot := 4, constantValue := 0 }, { name := "LATIN1", type := .byte, accessFlags := 24, slot := 5, constantValue := 0 }, { name := "UTF16", type := .byte, accessFlags := 24, slot := 6, constantValue := 0 }]
  methods := #[k7m0, k7m1, k7m2, k7m3, k7m4, k7m5, k7m6, k7m7, k7m8, k7m9]
  instanceTypes := #[(.array .byte), .byte, .int, .boolean]
  staticTypes := #[.long, .boolean, (.array (.object "java/io/ObjectStreamField")), .char, (.object "java/util/Comparator"), .byte, .byte]
  resolved := Array.replicate 1451 none
  statics := some 0 }

def pool8 : Array CpInfo := pool [(1, .methodref 2 3), (0, .class_ 4), (0, .nameAndType 5 6), (0, u "java/lang/Object"), (0, u "<init>"), (0, u "()V"), (0, .fieldref 8 9), (0, .class_ 10), (0, .nameAndType 11 12), (0, u "gleaner/LastMatch"), (0, u "copiedLength"), (0, u "I"), (0, .methodref 8 14), (0, .nameAndType 15 16), (0, u "set"), (0, u "(Lgleaner/Match;)V"), (0, .fieldref 8 18), (0, .nameAndType 19 20), (0, u "made"), (0, u "Lgleaner/Match;"), (0, .fieldref 8 22), (0, .nameAndType 23 24), (0, u "read"), (0, u "Ljava/lang/String;"), (0, .fieldref 8 26), (0, .nameAndType 27 28), (0, u "offset"), (0, u "J"), (0, .fieldref 8 30), (0, .nameAndType 31 12), (0, u "terminatorLength"), (0, .class_ 33), (0, u "java/lang/String"), (3, .methodref 8 38), (0, .nameAndType 39 40), (0, u "token"), (0, u "(Ljava/lang/String;J)V"), (0, .fieldref 8 42), (0, .nameAndType 43 44), (0, u "copied"), (0, u "[C"), (0, .methodref 46 47), (0, .class_ 48), (0, .nameAndType 49 50), (0, u "java/lang/System"), (0, u "arraycopy"), (0, u "(Ljava/lang/Object;ILjava/lang/Object;II)V"), (0, .fieldref 8 52), (0, .nameAndType 53 54), (0, u "terminatorStart"), (0, u "C"), (0, .fieldref 8 56), (0, .nameAndType 57 58), (0, u "terminatorRead"), (0, u "Z"), (0, .methodref 60 61), (0, .class_ 62), (0, .nameAndType 63 64), (0, u "gleaner/Match"), (0, u "of"), (0, u "(Ljava/lang/String;J)Lgleaner/Match;"), (20, u "COPIED_LENGTH"), (4, u "clear"), (0, u "([CIIJ)V"), (1, u "line"), (0, u "(Ljava/lang/String;JIC)V"), (0, u "lineWithTerminator"), (0, u "(Ljava/lang/String;JI)V"), (0, u "get"), (0, u "()Lgleaner/Match;")] 17

def k8c0 : Code := { maxStack := 2, maxLocals := 1, code := prog_15_method_1_code, exceptionTable := #[], attributes := #[] }
def k8m0 : Method := { name := "<init>", desc := "()V", sig := { parameters := [], returnType := none }, accessFlags := 0, code := some k8c0 }
def k8c1 : Code := { maxStack := 2, maxLocals := 1, code := prog_15_method_2_code, exceptionTable := #[], attributes := #[] }
def k8m1 : Method := { name := "clear", desc := "()V", sig := { parameters := [], returnType := none }, accessFlags := 0, code := some k8c1 }
def k8c2 : Code := { maxStack := 2, maxLocals := 2, code := prog_15_method_3_code, exceptionTable := #[], attributes := #[] }
def k8m2 : Method := { name := "set", desc := "(Lgleaner/Match;)V", sig := { parameters := [(.object "gleaner/Match")], returnType := none }, accessFlags := 0, code := some k8c2 }
def k8c3 : Code := { maxStack := 3, maxLocals := 4, code := prog_15_method_4_code, exceptionTable := #[], attributes := #[] }
def k8m3 : Method := { name := "token", desc := "(Ljava/lang/String;J)V", sig := { parameters := [(.object "java/lang/String"), .long], returnType := none }, accessFlags := 0, code := some k8c3 }
def k8c4 : Code := { maxStack := 6, maxLocals := 6, code := prog_15_method_5_code, exceptionTable := #[], attributes := #[] }
def k8m4 : Method := { name := "token", desc := "([CIIJ)V", sig := { parameters := [(.array .char), .int, .int, .long], returnType := none }, accessFlags := 0, code := some k8c4 }
def k8c5 : Code := { maxStack := 3, maxLocals := 6, code := prog_15_method_6_code, exceptionTable := #[], attributes := #[] }
def k8m5 : Method := { name := "line", desc := "(Ljava/lang/String;JIC)V", sig := { parameters := [(.object "java/lang/String"), .long, .int, .char], returnType := none }, accessFlags := 0, code := some k8c5 }
def k8c6 : Code := { maxStack := 3, maxLocals := 5, code := prog_15_method_7_code, exceptionTable := #[], attributes := #[] }
def k8m6 : Method := { name := "lineWithTerminator", desc := "(Ljava/lang/String;JI)V", sig := { parameters := [(.object "java/lang/String"), .long, .int], returnType := none }, accessFlags := 0, code := some k8c6 }
def k8c7 : Code := { maxStack := 6, maxLocals := 1, code := prog_15_method_8_code, exceptionTable := #[], attributes := #[] }
def k8m7 : Method := { name := "get", desc := "()Lgleaner/Match;", sig := { parameters := [], returnType := some (.object "gleaner/Match") }, accessFlags := 0, code := some k8c7 }
/-- gleaner/LastMatch -/
def k8 : Class := { plain "gleaner/LastMatch" (some 0) with
  accessFlags := 48
  interfaces := #[]
  cf := some (fileOf pool8 8 #[] #[{ accessFlags := 0, nameIndex := 5, descriptorIndex := 6, attributes := #[] }, { accessFlags := 0, nameIndex := 90, descriptorIndex := 6, attributes := #[] }, { accessFlags := 0, nameIndex := 15, descriptorIndex := 16, attributes := #[] }, { accessFlags := 0, nameIndex := 39, descriptorIndex := 40, attributes := #[] }, { accessFlags := 0, nameIndex := 39, descriptorIndex := 91, attributes := #[] }, { accessFlags := 0, nameIndex := 93, descriptorIndex := 94, attributes := #[] }, { accessFlags := 0, nameIndex := 95, descriptorIndex := 96, attributes := #[] }, { accessFlags := 0, nameIndex := 97, descriptorIndex := 98, attributes := #[] }] 48 2 #[] #[{ accessFlags := 26, nameIndex := 85, descriptorIndex := 12, attributes := #[] }, { accessFlags := 2, nameIndex := 19, descriptorIndex := 20, attributes := #[] }, { accessFlags := 2, nameIndex := 23, descriptorIndex := 24, attributes := #[] }, { accessFlags := 2, nameIndex := 43, descriptorIndex := 44, attributes := #[] }, { accessFlags := 2, nameIndex := 11, descriptorIndex := 12, attributes := #[] }, { accessFlags := 2, nameIndex := 27, descriptorIndex := 28, attributes := #[] }, { accessFlags := 2, nameIndex := 31, descriptorIndex := 12, attributes := #[] }, { accessFlags := 2, nameIndex := 53, descriptorIndex := 54, attributes := #[] }, { accessFlags := 2, nameIndex := 57, descriptorIndex := 58, attributes := #[] }])
  fields := #[{ name := "COPIED_LENGTH", type := .int, accessFlags := 26, slot := 0, constantValue := 0 }, { name := "made", type := (.object "gleaner/Match"), accessFlags := 2, slot := 0, constantValue := 0 }, { name := "read", type := (.object "java/lang/String"), accessFlags := 2, slot := 1, constantValue := 0 }, { name := "copied", type := (.array .char), accessFlags := 2, slot := 2, constantValue := 0 }, { name := "copiedLength", type := .int, accessFlags := 2, slot := 3, constantValue := 0 }, { name := "offset", type := .long, accessFlags := 2, slot := 4, constantValue := 0 }, { name := "terminatorLength", type := .int, accessFlags := 2, slot := 5, constantValue := 0 }, { name := "terminatorStart", type := .char, accessFlags := 2, slot := 6, constantValue := 0 }, { name := "terminatorRead", type := .boolean, accessFlags := 2, slot := 7, constantValue := 0 }]
  methods := #[k8m0, k8m1, k8m2, k8m3, k8m4, k8m5, k8m6, k8m7]
  instanceTypes := #[(.object "gleaner/Match"), (.object "java/lang/String"), (.array .char), .int, .long, .int, .char, .boolean]
  staticTypes := #[.int]
  resolved := Array.replicate 116 none
  statics := none }

def pool9 : Array CpInfo := pool [(4, .class_ 6), (1, u "java/lang/Object"), (0, u "<init>"), (0, u "()V"), (5, .class_ 16), (1, u "java/lang/StringLatin1"), (73, u "canEncode"), (14, u "(C)Z"), (15, u "$assertionsDisabled"), (0, u "Z"), (98, .class_ 223), (1, u "java/lang/StringLatin1$LinesSpliterator"), (156, u "toBytes"), (1, u "(C)[B"), (7, .class_ 391), (0, u "java/lang/StringLatin1$CharsSpliterator")] 3

def k9m0 : Method := { name := "<init>", desc := "()V", sig := { parameters := [], returnType := none }, accessFlags := 0, code := none }
def k9c1 : Code := { maxStack := 2, maxLocals := 1, code := jdk_43_method_3_code, exceptionTable := #[], attributes := #[] }
def k9m1 : Method := { name := "canEncode", desc := "(C)Z", sig := { parameters := [.char], returnType := some .boolean }, accessFlags := 9, code := some k9c1 }
def k9c2 : Code := { maxStack := 4, maxLocals := 1, code := jdk_43_method_46_code, exceptionTable := #[], attributes := #[] }
def k9m2 : Method := { name := "toBytes", desc := "(C)[B", sig := { parameters := [.char], returnType := some (.array .byte) }, accessFlags := 9, code := some k9c2 }
/-- java/lang/StringLatin1 -/
def k9 : Class := { plain "java/lang/StringLatin1" (some 0) with
  accessFlags := 48
  interfaces := #[]
  cf := some (fileOf pool9 14 #[.nestMembers #[390, 221]] #[{ accessFlags := 0, nameIndex := 7, descriptorIndex := 8, attributes := #[] }, { accessFlags := 9, nameIndex := 90, descriptorIndex := 105, attributes := #[] }, { accessFlags := 9, nameIndex := 380, descriptorIndex := 382, attributes := #[] }] 48 4 #[] #[{ accessFlags := 4120, nameIndex := 121, descriptorIndex := 122, attributes := #[] }])
  fields := #[{ name := "$assertionsDisabled", type := .boolean, accessFlags := 4120, slot := 0, constantValue := 0 }]
  methods := #[k9m0, k9m1, k9m2]
  instanceTypes := #[]
  staticTypes := #[.boolean]
  resolved := Array.replicate 395 none
  statics := none }

def pool10 : Array CpInfo := pool [(2, .class_ 4), (1, u "java/util/regex/MatchResult"), (67, .class_ 73), (0, u "java/lang/Object")] 18

/-- java/util/regex/MatchResult -/
def k10 : Class := { plain "java/util/regex/MatchResult" (some 0) with
  accessFlags := 1537
  interfaces := #[]
  cf := some (fileOf pool10 2 #[] #[] 1537 72 #[] #[])
  fields := #[]
  methods := #[]
  instanceTypes := #[]
  staticTypes := #[]
  resolved := Array.replicate 92 none
  statics := none }

def pool11 : Array CpInfo := pool [(1, .methodref 2 3), (0, .class_ 4), (0, .nameAndType 5 6), (0, u "java/lang/Object"), (0, u "<init>"), (0, u "()V"), (0, .fieldref 8 9), (0, .class_ 10), (0, .nameAndType 11 12), (0, u "gleaner/Match"), (0, u "text"), (0, u "Ljava/lang/String;"), (0, .fieldref 8 14), (0, .nameAndType 15 16), (0, u "offset"), (0, u "J"), (0, .fieldref 8 18), (0, .nameAndType 19 20), (0, u "bounds"), (0, u "[I"), (0, .methodref 22 23), (0, .class_ 24), (0, .nameAndType 25 26), (0, u "java/lang/String"), (0, u "length"), (0, u "()I"), (0, .methodref 8 28), (0, .nameAndType 5 29), (0, u "(Ljava/lang/String;J[I)V"), (2, .nameAndType 34 26), (1, u "groupCount"), (2, u "start"), (2, u "end"), (1, .nameAndType 37 43), (0, u "(I)I"), (1, .class_ 47), (1, u "java/lang/Math"), (3, .nameAndType 40 43), (12, u "()Ljava/lang/String;"), (0, .methodref 8 42), (0, .methodref 8 67), (0, .nameAndType 68 43), (0, u "checked"), (0, .methodref 8 70), (0, .nameAndType 71 43), (0, u "place"), (0, .methodref 8 51), (0, .methodref 8 74), (0, .nameAndType 75 76), (0, u "group"), (0, u "(I)Ljava/lang/String;"), (0, .methodref 22 78), (0, .nameAndType 79 80), (0, u "substring"), (0, u "(II)Ljava/lang/String;"), (0, .methodref 8 32), (8, .methodref 45 91), (0, .nameAndType 92 93), (0, u "toIntExact"), (0, u "(J)I"), (0, .class_ 95), (0, u "java/util/regex/MatchResult"), (2, u "of"), (0, u "(Ljava/lang/String;J)Lgleaner/Match;"), (5, u "within"), (0, u "(Lgleaner/Match;)Lgleaner/Match;")] 17

def k11c0 : Code := { maxStack := 3, maxLocals := 5, code := prog_18_method_1_code, exceptionTable := #[], attributes := #[] }
def k11m0 : Method := { name := "<init>", desc := "(Ljava/lang/String;J[I)V", sig := { parameters := [(.object "java/lang/String"), .long, (.array .int)], returnType := none }, accessFlags := 2, code := some k11c0 }
def k11c1 : Code := { maxStack := 9, maxLocals := 3, code := prog_18_method_2_code, exceptionTable := #[], attributes := #[] }
def k11m1 : Method := { name := "of", desc := "(Ljava/lang/String;J)Lgleaner/Match;", sig := { parameters := [(.object "java/lang/String"), .long], returnType := some (.object "gleaner/Match") }, accessFlags := 8, code := some k11c1 }
def k11c2 : Code := { maxStack := 7, maxLocals := 2, code := prog_18_method_5_code, exceptionTable := #[], attributes := #[] }
def k11m2 : Method := { name := "within", desc := "(Lgleaner/Match;)Lgleaner/Match;", sig := { parameters := [(.object "gleaner/Match")], returnType := some (.object "gleaner/Match") }, accessFlags := 0, code := some k11c2 }
def k11c3 : Code := { maxStack := 2, maxLocals := 1, code := prog_18_method_6_code, exceptionTable := #[], attributes := #[] }
def k11m3 : Method := { name := "start", desc := "()I", sig := { parameters := [], returnType := some .int }, accessFlags := 1, code := some k11c3 }
def k11c4 : Code := { maxStack := 4, maxLocals := 2, code := prog_18_method_7_code, exceptionTable := #[], attributes := #[] }
def k11m4 : Method := { name := "start", desc := "(I)I", sig := { parameters := [.int], returnType := some .int }, accessFlags := 1, code := some k11c4 }
def k11c5 : Code := { maxStack := 2, maxLocals := 1, code := prog_18_method_8_code, exceptionTable := #[], attributes := #[] }
def k11m5 : Method := { name := "end", desc := "()I", sig := { parameters := [], returnType := some .int }, accessFlags := 1, code := some k11c5 }
def k11c6 : Code := { maxStack := 4, maxLocals := 2, code := prog_18_method_9_code, exceptionTable := #[], attributes := #[] }
def k11m6 : Method := { name := "end", desc := "(I)I", sig := { parameters := [.int], returnType := some .int }, accessFlags := 1, code := some k11c6 }
def k11c7 : Code := { maxStack := 2, maxLocals := 1, code := prog_18_method_10_code, exceptionTable := #[], attributes := #[] }
def k11m7 : Method := { name := "group", desc := "()Ljava/lang/String;", sig := { parameters := [], returnType := some (.object "java/lang/String") }, accessFlags := 1, code := some k11c7 }
def k11c8 : Code := { maxStack := 5, maxLocals := 3, code := prog_18_method_11_code, exceptionTable := #[], attributes := #[] }
def k11m8 : Method := { name := "group", desc := "(I)Ljava/lang/String;", sig := { parameters := [.int], returnType := some (.object "java/lang/String") }, accessFlags := 1, code := some k11c8 }
def k11c9 : Code := { maxStack := 2, maxLocals := 1, code := prog_18_method_12_code, exceptionTable := #[], attributes := #[] }
def k11m9 : Method := { name := "groupCount", desc := "()I", sig := { parameters := [], returnType := some .int }, accessFlags := 1, code := some k11c9 }
def k11c10 : Code := { maxStack := 3, maxLocals := 2, code := prog_18_method_13_code, exceptionTable := #[], attributes := #[] }
def k11m10 : Method := { name := "checked", desc := "(I)I", sig := { parameters := [.int], returnType := some .int }, accessFlags := 2, code := some k11c10 }
def k11c11 : Code := { maxStack := 4, maxLocals := 2, code := prog_18_method_14_code, exceptionTable := #[], attributes := #[] }
def k11m11 : Method := { name := "place", desc := "(I)I", sig := { parameters := [.int], returnType := some .int }, accessFlags := 2, code := some k11c11 }
/-- gleaner/Match -/
def k11 : Class := { plain "gleaner/Match" (some 0) with
  accessFlags := 48
  interfaces := #[10]
  cf := some (fileOf pool11 8 #[] #[{ accessFlags := 2, nameIndex := 5, descriptorIndex := 29, attributes := #[] }, { accessFlags := 8, nameIndex := 98, descriptorIndex := 99, attributes := #[] }, { accessFlags := 0, nameIndex := 105, descriptorIndex := 106, attributes := #[] }, { accessFlags := 1, nameIndex := 37, descriptorIndex := 26, attributes := #[] }, { accessFlags := 1, nameIndex := 37, descriptorIndex := 43, attributes := #[] }, { accessFlags := 1, nameIndex := 40, descriptorIndex := 26, attributes := #[] }, { accessFlags := 1, nameIndex := 40, descriptorIndex := 43, attributes := #[] }, { accessFlags := 1, nameIndex := 75, descriptorIndex := 64, attributes := #[] }, { accessFlags := 1, nameIndex := 75, descriptorIndex := 76, attributes := #[] }, { accessFlags := 1, nameIndex := 34, descriptorIndex := 26, attributes := #[] }, { accessFlags := 2, nameIndex := 68, descriptorIndex := 43, attributes := #[] }, { accessFlags := 2, nameIndex := 71, descriptorIndex := 43, attributes := #[] }] 48 2 #[94] #[{ accessFlags := 18, nameIndex := 11, descriptorIndex := 12, attributes := #[] }, { accessFlags := 18, nameIndex := 15, descriptorIndex := 16, attributes := #[] }, { accessFlags := 18, nameIndex := 19, descriptorIndex := 20, attributes := #[] }])
  fields := #[{ name := "text", type := (.object "java/lang/String"), accessFlags := 18, slot := 0, constantValue := 0 }, { name := "offset", type := .long, accessFlags := 18, slot := 1, constantValue := 0 }, { name := "bounds", type := (.array .int), accessFlags := 18, slot := 2, constantValue := 0 }]
  methods := #[k11m0, k11m1, k11m2, k11m3, k11m4, k11m5, k11m6, k11m7, k11m8, k11m9, k11m10, k11m11]
  instanceTypes := #[(.object "java/lang/String"), .long, (.array .int)]
  staticTypes := #[]
  resolved := Array.replicate 124 none
  statics := none }

def pool12 : Array CpInfo := pool [(2, .class_ 4), (1, u "java/lang/Object"), (0, u "<init>"), (0, u "()V"), (17, .class_ 26), (1, u "jdk/internal/util/Preconditions"), (20, u "checkFromToIndex"), (7, .class_ 56), (0, u "jdk/internal/util/Preconditions$4"), (57, .class_ 115), (0, u "jdk/internal/util/Preconditions$1"), (7, u "SIOOBE_FORMATTER"), (0, u "Ljava/util/function/BiFunction;"), (0, .class_ 126), (0, u "jdk/internal/util/Preconditions$2"), (3, u "AIOOBE_FORMATTER"), (0, .class_ 132), (0, u "jdk/internal/util/Preconditions$3"), (3, u "IOOBE_FORMATTER"), (46, u "(IIILjava/util/function/BiFunction;)I")] 10

def k12m0 : Method := { name := "<init>", desc := "()V", sig := { parameters := [], returnType := none }, accessFlags := 1, code := none }
def k12c1 : Code := { maxStack := 4, maxLocals := 4, code := jdk_41_method_12_code, exceptionTable := #[], attributes := #[] }
def k12m1 : Method := { name := "checkFromToIndex", desc := "(IIILjava/util/function/BiFunction;)I", sig := { parameters := [.int, .int, .int, (.object "java/util/function/BiFunction")], returnType := some .int }, accessFlags := 9, code := some k12c1 }
/-- jdk/internal/util/Preconditions -/
def k12 : Class := { plain "jdk/internal/util/Preconditions" (some 0) with
  accessFlags := 33
  interfaces := #[]
  cf := some (fileOf pool12 24 #[.nestMembers #[55, 131, 125, 114]] #[{ accessFlags := 1, nameIndex := 5, descriptorIndex := 6, attributes := #[] }, { accessFlags := 9, nameIndex := 47, descriptorIndex := 183, attributes := #[] }] 33 2 #[] #[{ accessFlags := 25, nameIndex := 123, descriptorIndex := 124, attributes := #[] }, { accessFlags := 25, nameIndex := 130, descriptorIndex := 124, attributes := #[] }, { accessFlags := 25, nameIndex := 136, descriptorIndex := 124, attributes := #[] }])
  fields := #[{ name := "SIOOBE_FORMATTER", type := (.object "java/util/function/BiFunction"), accessFlags := 25, slot := 0, constantValue := 0 }, { name := "AIOOBE_FORMATTER", type := (.object "java/util/function/BiFunction"), accessFlags := 25, slot := 1, constantValue := 0 }, { name := "IOOBE_FORMATTER", type := (.object "java/util/function/BiFunction"), accessFlags := 25, slot := 2, constantValue := 0 }]
  methods := #[k12m0, k12m1]
  instanceTypes := #[]
  staticTypes := #[(.object "java/util/function/BiFunction"), (.object "java/util/function/BiFunction"), (.object "java/util/function/BiFunction")]
  resolved := Array.replicate 194 none
  statics := some 1 }

def pool13 : Array CpInfo := pool [(1, .class_ 2), (0, u "java/lang/Math"), (1, .class_ 6), (1, u "java/lang/Object"), (0, u "<init>"), (0, u "()V"), (89, .class_ 100), (1, u "java/lang/Math$RandomNumberGeneratorHolder"), (71, u "negativeZeroFloatBits"), (0, u "J"), (2, u "negativeZeroDoubleBits"), (68, u "$assertionsDisabled"), (0, u "Z"), (91, u "twoToTheDoubleScaleDown"), (0, u "D"), (4, u "twoToTheDoubleScaleUp"), (9, u "E"), (3, u "PI"), (2, u "TAU"), (2, u "DEGREES_TO_RADIANS"), (0, u "RADIANS_TO_DEGREES"), (39, u "toIntExact"), (0, u "(J)I")] 53

def k13m0 : Method := { name := "<init>", desc := "()V", sig := { parameters := [], returnType := none }, accessFlags := 2, code := none }
def k13c1 : Code := { maxStack := 4, maxLocals := 2, code := jdk_29_method_43_code, exceptionTable := #[], attributes := #[] }
def k13m1 : Method := { name := "toIntExact", desc := "(J)I", sig := { parameters := [.long], returnType := some .int }, accessFlags := 9, code := some k13c1 }
/-- java/lang/Math -/
def k13 : Class := { plain "java/lang/Math" (some 0) with
  accessFlags := 49
  interfaces := #[]
  cf := some (fileOf pool13 1 #[.nestMembers #[98]] #[{ accessFlags := 2, nameIndex := 7, descriptorIndex := 8, attributes := #[] }, { accessFlags := 9, nameIndex := 405, descriptorIndex := 406, attributes := #[] }] 49 4 #[] #[{ accessFlags := 25, nameIndex := 354, descriptorIndex := 339, attributes := #[] }, { accessFlags := 25, nameIndex := 358, descriptorIndex := 339, attributes := #[] }, { accessFlags := 25, nameIndex := 361, descriptorIndex := 339, attributes := #[] }, { accessFlags := 26, nameIndex := 364, descriptorIndex := 339, attributes := #[] }, { accessFlags := 26, nameIndex := 365, descriptorIndex := 339, attributes := #[] }, { accessFlags := 26, nameIndex := 172, descriptorIndex := 173, attributes := #[] }, { accessFlags := 26, nameIndex := 176, descriptorIndex := 173, attributes := #[] }, { accessFlags := 8, nameIndex := 344, descriptorIndex := 339, attributes := #[] }, { accessFlags := 8, nameIndex := 338, descriptorIndex := 339, attributes := #[] }, { accessFlags := 4120, nameIndex := 245, descriptorIndex := 246, attributes := #[] }])
  fields := #[{ name := "E", type := .double, accessFlags := 25, slot := 0, constantValue := 0 }, { name := "PI", type := .double, accessFlags := 25, slot := 1, constantValue := 0 }, { name := "TAU", type := .double, accessFlags := 25, slot := 2, constantValue := 0 }, { name := "DEGREES_TO_RADIANS", type := .double, accessFlags := 26, slot := 3, constantValue := 0 }, { name := "RADIANS_TO_DEGREES", type := .double, accessFlags := 26, slot := 4, constantValue := 0 }, { name := "negativeZeroFloatBits", type := .long, accessFlags := 26, slot := 5, constantValue := 0 }, { name := "negativeZeroDoubleBits", type := .long, accessFlags := 26, slot := 6, constantValue := 0 }, { name := "twoToTheDoubleScaleUp", type := .double, accessFlags := 8, slot := 7, constantValue := 0 }, { name := "twoToTheDoubleScaleDown", type := .double, accessFlags := 8, slot := 8, constantValue := 0 }, { name := "$assertionsDisabled", type := .boolean, accessFlags := 4120, slot := 9, constantValue := 0 }]
  methods := #[k13m0, k13m1]
  instanceTypes := #[]
  staticTypes := #[.double, .double, .double, .double, .double, .long, .long, .double, .double, .boolean]
  resolved := Array.replicate 460 none
  statics := none }

def pool14 : Array CpInfo := pool [(6, .class_ 8), (1, u "java/lang/Object"), (0, u "<init>"), (0, u "()V"), (1, .class_ 14), (1, u "java/lang/StringUTF16"), (31, u "$assertionsDisabled"), (0, u "Z"), (13, u "HI_BYTE_SHIFT"), (0, u "I"), (2, u "LO_BYTE_SHIFT"), (49, .methodref 12 116), (0, .nameAndType 117 118), (0, u "compress"), (0, u "([CI[BII)I"), (3, u "([CII)[B"), (138, u "coderFromArrayLen"), (0, u "([BI)B"), (106, .class_ 371), (1, u "java/lang/StringUTF16$LinesSpliterator"), (58, u "MAX_LENGTH"), (196, .class_ 628), (0, u "java/lang/StringUTF16$CodePointsSpliterator"), (0, .class_ 630), (0, u "java/lang/StringUTF16$CharsSpliterator")] 4

def k14m0 : Method := { name := "<init>", desc := "()V", sig := { parameters := [], returnType := none }, accessFlags := 0, code := none }
def k14c1 : Code := { maxStack := 2, maxLocals := 2, code := jdk_52_method_15_code, exceptionTable := #[], attributes := #[] }
def k14m1 : Method := { name := "coderFromArrayLen", desc := "([BI)B", sig := { parameters := [(.array .byte), .int], returnType := some .byte }, accessFlags := 8, code := some k14c1 }
def k14c2 : Code := { maxStack := 5, maxLocals := 6, code := jdk_52_method_16_code, exceptionTable := #[], attributes := #[] }
def k14m2 : Method := { name := "compress", desc := "([CII)[B", sig := { parameters := [(.array .char), .int, .int], returnType := some (.array .byte) }, accessFlags := 9, code := some k14c2 }
def k14c3 : Code := { maxStack := 3, maxLocals := 7, code := jdk_52_method_21_code, exceptionTable := #[], attributes := #[] }
def k14m3 : Method := { name := "compress", desc := "([CI[BII)I", sig := { parameters := [(.array .char), .int, (.array .byte), .int, .int], returnType := some .int }, accessFlags := 9, code := some k14c3 }
/-- java/lang/StringUTF16 -/
def k14 : Class := { plain "java/lang/StringUTF16" (some 0) with
  accessFlags := 48
  interfaces := #[]
  cf := some (fileOf pool14 12 #[.nestMembers #[627, 629, 369]] #[{ accessFlags := 0, nameIndex := 9, descriptorIndex := 10, attributes := #[] }, { accessFlags := 8, nameIndex := 261, descriptorIndex := 262, attributes := #[] }, { accessFlags := 9, nameIndex := 117, descriptorIndex := 122, attributes := #[] }, { accessFlags := 9, nameIndex := 117, descriptorIndex := 118, attributes := #[] }] 48 6 #[] #[{ accessFlags := 26, nameIndex := 61, descriptorIndex := 62, attributes := #[] }, { accessFlags := 26, nameIndex := 65, descriptorIndex := 62, attributes := #[] }, { accessFlags := 24, nameIndex := 430, descriptorIndex := 62, attributes := #[] }, { accessFlags := 4120, nameIndex := 46, descriptorIndex := 47, attributes := #[] }])
  fields := #[{ name := "HI_BYTE_SHIFT", type := .int, accessFlags := 26, slot := 0, constantValue := 0 }, { name := "LO_BYTE_SHIFT", type := .int, accessFlags := 26, slot := 1, constantValue := 0 }, { name := "MAX_LENGTH", type := .int, accessFlags := 24, slot := 2, constantValue := 0 }, { name := "$assertionsDisabled", type := .boolean, accessFlags := 4120, slot := 3, constantValue := 0 }]
  methods := #[k14m0, k14m1, k14m2, k14m3]
  instanceTypes := #[]
  staticTypes := #[.int, .int, .int, .boolean]
  resolved := Array.replicate 635 none
  statics := none }

def pool15 : Array CpInfo := pool [(2, .class_ 4), (1, u "java/lang/Object"), (0, u "<init>"), (0, u "()V"), (1, .class_ 10), (1, u "java/lang/System"), (0, u "allowSecurityManager"), (0, u "I"), (16, u "cons"), (0, u "Ljava/io/Console;"), (77, .class_ 110), (1, u "java/lang/System$CallersHolder"), (43, u "initialErrStream"), (0, u "Ljava/io/PrintStream;"), (19, u "security"), (0, u "Ljava/lang/SecurityManager;"), (31, .class_ 209), (0, u "java/lang/System$1"), (7, u "props"), (0, u "Ljava/util/Properties;"), (2, u "lineSeparator"), (0, u "Ljava/lang/String;"), (96, .class_ 321), (1, u "java/lang/System$LoggerFinder"), (5, .class_ 328), (0, u "java/lang/System$Logger"), (67, u "err"), (2, u "out"), (91, u "notSupportedJnuEncoding"), (15, u "in"), (17, u "initialIn"), (0, u "Ljava/io/InputStream;"), (35, u "bootLayer"), (0, u "Ljava/lang/ModuleLayer;"), (99, .class_ 664), (0, u "java/lang/System$2"), (9, u "NEVER"), (2, u "MAYBE"), (49, u "arraycopy"), (0, u "(Ljava/lang/Object;ILjava/lang/Object;II)V"), (72, .class_ 802), (0, u "java/lang/System$Logger$Level")] 31

def k15m0 : Method := { name := "<init>", desc := "()V", sig := { parameters := [], returnType := none }, accessFlags := 2, code := none }
def k15m1 : Method := { name := "arraycopy", desc := "(Ljava/lang/Object;ILjava/lang/Object;II)V", sig := { parameters := [(.object "java/lang/Object"), .int, (.object "java/lang/Object"), .int, .int], returnType := none }, accessFlags := 265, code := none }
/-- java/lang/System -/
def k15 : Class := { plain "java/lang/System" (some 0) with
  accessFlags := 49
  interfaces := #[]
  cf := some (fileOf pool15 8 #[.nestMembers #[319, 327, 801, 108, 663, 208]] #[{ accessFlags := 2, nameIndex := 5, descriptorIndex := 6, attributes := #[] }, { accessFlags := 265, nameIndex := 727, descriptorIndex := 728, attributes := #[] }] 49 2 #[] #[{ accessFlags := 25, nameIndex := 507, descriptorIndex := 526, attributes := #[] }, { accessFlags := 25, nameIndex := 399, descriptorIndex := 155, attributes := #[] }, { accessFlags := 25, nameIndex := 396, descriptorIndex := 155, attributes := #[] }, { accessFlags := 10, nameIndex := 525, descriptorIndex := 526, attributes := #[] }, { accessFlags := 26, nameIndex := 674, descriptorIndex := 12, attributes := #[] }, { accessFlags := 26, nameIndex := 677, descriptorIndex := 12, attributes := #[] }, { accessFlags := 10, nameIndex := 11, descriptorIndex := 12, attributes := #[] }, { accessFlags := 74, nameIndex := 175, descriptorIndex := 176, attributes := #[] }, { accessFlags := 10, nameIndex := 491, descriptorIndex := 222, attributes := #[] }, { accessFlags := 74, nameIndex := 29, descriptorIndex := 30, attributes := #[] }, { accessFlags := 74, nameIndex := 154, descriptorIndex := 155, attributes := #[] }, { accessFlags := 10, nameIndex := 217, descriptorIndex := 218, attributes := #[] }, { accessFlags := 10, nameIndex := 221, descriptorIndex := 222, attributes := #[] }, { accessFlags := 8, nameIndex := 562, descriptorIndex := 563, attributes := #[] }])
  fields := #[{ name := "in", type := (.object "java/io/InputStream"), accessFlags := 25, slot := 0, constantValue := 0 }, { name := "out", type := (.object "java/io/PrintStream"), accessFlags := 25, slot := 1, constantValue := 0 }, { name := "err", type := (.object "java/io/PrintStream"), accessFlags := 25, slot := 2, constantValue := 0 }, { name := "initialIn", type := (.object "java/io/InputStream"), accessFlags := 10, slot := 3, constantValue := 0 }, { name := "NEVER", type := .int, accessFlags := 26, slot := 4, constantValue := 0 }, { name := "MAYBE", type := .int, accessFlags := 26, slot := 5, constantValue := 0 }, { name := "allowSecurityManager", type := .int, accessFlags := 10, slot := 6, constantValue := 0 }, { name := "security", type := (.object "java/lang/SecurityManager"), accessFlags := 74, slot := 7, constantValue := 0 }, { name := "notSupportedJnuEncoding", type := (.object "java/lang/String"), accessFlags := 10, slot := 8, constantValue := 0 }, { name := "cons", type := (.object "java/io/Console"), accessFlags := 74, slot := 9, constantValue := 0 }, { name := "initialErrStream", type := (.object "java/io/PrintStream"), accessFlags := 74, slot := 10, constantValue := 0 }, { name := "props", type := (.object "java/util/Properties"), accessFlags := 10, slot := 11, constantValue := 0 }, { name := "lineSeparator", type := (.object "java/lang/String"), accessFlags := 10, slot := 12, constantValue := 0 }, { name := "bootLayer", type := (.object "java/lang/ModuleLayer"), accessFlags := 8, slot := 13, constantValue := 0 }]
  methods := #[k15m0, k15m1]
  instanceTypes := #[]
  staticTypes := #[(.object "java/io/InputStream"), (.object "java/io/PrintStream"), (.object "java/io/PrintStream"), (.object "java/io/InputStream"), .int, .int, .int, (.object "java/lang/SecurityManager"), (.object "java/lang/String"), (.object "java/io/Console"), (.object "java/io/PrintStream"), (.object "java/util/Properties"), (.object "java/lang/String"), (.object "java/lang/ModuleLayer")]
  resolved := Array.replicate 834 none
  statics := none }

def pool16 : Array CpInfo := pool [(9, u "<init>"), (6, .class_ 18), (1, u "java/lang/Object"), (0, u "()V"), (1, .class_ 23), (1, u "jdk/internal/util/ArraysSupport"), (0, u "LOG2_ARRAY_LONG_INDEX_SCALE"), (0, u "I"), (2, u "U"), (0, u "Ljdk/internal/misc/Unsafe;"), (8, u "BIG_ENDIAN"), (0, u "Z"), (8, u "LOG2_BYTE_BIT_SIZE"), (4, u "LOG2_ARRAY_INT_INDEX_SCALE"), (54, u "JLA"), (0, u "Ljdk/internal/access/JavaLangAccess;"), (11, u "LOG2_ARRAY_BOOLEAN_INDEX_SCALE"), (9, u "LOG2_ARRAY_BYTE_INDEX_SCALE"), (5, u "LOG2_ARRAY_CHAR_INDEX_SCALE"), (5, u "LOG2_ARRAY_SHORT_INDEX_SCALE"), (18, u "LOG2_ARRAY_FLOAT_INDEX_SCALE"), (24, u "LOG2_ARRAY_DOUBLE_INDEX_SCALE"), (89, u "T_BOOLEAN"), (2, u "T_CHAR"), (1, u "T_FLOAT"), (1, u "T_DOUBLE"), (1, u "T_BYTE"), (1, u "T_SHORT"), (1, u "T_INT"), (1, u "T_LONG"), (1, u "SOFT_MAX_ARRAY_LENGTH")] 83

def k16m0 : Method := { name := "<init>", desc := "()V", sig := { parameters := [], returnType := none }, accessFlags := 2, code := none }
/-- jdk/internal/util/ArraysSupport -/
def k16 : Class := { plain "jdk/internal/util/ArraysSupport" (some 0) with
  accessFlags := 33
  interfaces := #[]
  cf := some (fileOf pool16 21 #[] #[{ accessFlags := 2, nameIndex := 9, descriptorIndex := 19, attributes := #[] }] 33 16 #[] #[{ accessFlags := 24, nameIndex := 28, descriptorIndex := 29, attributes := #[] }, { accessFlags := 26, nameIndex := 38, descriptorIndex := 39, attributes := #[] }, { accessFlags := 25, nameIndex := 121, descriptorIndex := 25, attributes := #[] }, { accessFlags := 25, nameIndex := 131, descriptorIndex := 25, attributes := #[] }, { accessFlags := 25, nameIndex := 137, descriptorIndex := 25, attributes := #[] }, { accessFlags := 25, nameIndex := 143, descriptorIndex := 25, attributes := #[] }, { accessFlags := 25, nameIndex := 53, descriptorIndex := 25, attributes := #[] }, { accessFlags := 25, nameIndex := 24, descriptorIndex := 25, attributes := #[] }, { accessFlags := 25, nameIndex := 162, descriptorIndex := 25, attributes := #[] }, { accessFlags := 25, nameIndex := 187, descriptorIndex := 25, attributes := #[] }, { accessFlags := 26, nameIndex := 48, descriptorIndex := 25, attributes := #[] }, { accessFlags := 25, nameIndex := 277, descriptorIndex := 25, attributes := #[] }, { accessFlags := 25, nameIndex := 280, descriptorIndex := 25, attributes := #[] }, { accessFlags := 25, nameIndex := 282, descriptorIndex := 25, attributes := #[] }, { accessFlags := 25, nameIndex := 284, descriptorIndex := 25, attributes := #[] }, { accessFlags := 25, nameIndex := 286, descriptorIndex := 25, attributes := #[] }, { accessFlags := 25, nameIndex := 288, descriptorIndex := 25, attributes := #[] }, { accessFlags := 25, nameIndex := 290, descriptorIndex := 25, attributes := #[] }, { accessFlags := 25, nameIndex := 292, descriptorIndex := 25, attributes := #[] }, { accessFlags := 26, nameIndex := 108, descriptorIndex := 109, attributes := #[] }, { accessFlags := 25, nameIndex := 294, descriptorIndex := 25, attributes := #[] }])
  fields := #[{ name := "U", type := (.object "jdk/internal/misc/Unsafe"), accessFlags := 24, slot := 0, constantValue := 0 }, { name := "BIG_ENDIAN", type := .boolean, accessFlags := 26, slot := 1, constantValue := 0 }, { name := "LOG2_ARRAY_BOOLEAN_INDEX_SCALE", type := .int, accessFlags := 25, slot := 2, constantValue := 0 }, { name := "LOG2_ARRAY_BYTE_INDEX_SCALE", type := .int, accessFlags := 25, slot := 3, constantValue := 0 }, { name := "LOG2_ARRAY_CHAR_INDEX_SCALE", type := .int, accessFlags := 25, slot := 4, constantValue := 0 }, { name := "LOG2_ARRAY_SHORT_INDEX_SCALE", type := .int, accessFlags := 25, slot := 5, constantValue := 0 }, { name := "LOG2_ARRAY_INT_INDEX_SCALE", type := .int, accessFlags := 25, slot := 6, constantValue := 0 }, { name := "LOG2_ARRAY_LONG_INDEX_SCALE", type := .int, accessFlags := 25, slot := 7, constantValue := 0 }, { name := "LOG2_ARRAY_FLOAT_INDEX_SCALE", type := .int, accessFlags := 25, slot := 8, constantValue := 0 }, { name := "LOG2_ARRAY_DOUBLE_INDEX_SCALE", type := .int, accessFlags := 25, slot := 9, constantValue := 0 }, { name := "LOG2_BYTE_BIT_SIZE", type := .int, accessFlags := 26, slot := 10, constantValue := 0 }, { name := "T_BOOLEAN", type := .int, accessFlags := 25, slot := 11, constantValue := 0 }, { name := "T_CHAR", type := .int, accessFlags := 25, slot := 12, constantValue := 0 }, { name := "T_FLOAT", type := .int, accessFlags := 25, slot := 13, constantValue := 0 }, { name := "T_DOUBLE", type := .int, accessFlags := 25, slot := 14, constantValue := 0 }, { name := "T_BYTE", type := .int, accessFlags := 25, slot := 15, constantValue := 0 }, { name := "T_SHORT", type := .int, accessFlags := 25, slot := 16, constantValue := 0 }, { name := "T_INT", type := .int, accessFlags := 25, slot := 17, constantValue := 0 }, { name := "T_LONG", type := .int, accessFlags := 25, slot := 18, constantValue := 0 }, { name := "JLA", type := (.object "jdk/internal/access/JavaLangAccess"), accessFlags := 26, slot := 19, constantValue := 0 }, { name := "SOFT_MAX_ARRAY_LENGTH", type := .int, accessFlags := 25, slot := 20, constantValue := 0 }]
  methods := #[k16m0]
  instanceTypes := #[]
  staticTypes := #[(.object "jdk/internal/misc/Unsafe"), .boolean, .int, .int, .int, .int, .int, .int, .int, .int, .int, .int, .int, .int, .int, .int, .int, .int, .int, (.object "jdk/internal/access/JavaLangAccess"), .int]
  resolved := Array.replicate 378 none
  statics := none }

def pool17 : Array CpInfo := pool [(1, u "java/lang/Cloneable"), (0, .class_ 1), (0, u "java/lang/Object"), (0, .class_ 3)] 3

/-- java/lang/Cloneable -/
def k17 : Class := { plain "java/lang/Cloneable" (some 0) with
  accessFlags := 1537
  interfaces := #[]
  cf := some (fileOf pool17 2 #[] #[] 1537 4 #[] #[])
  fields := #[]
  methods := #[]
  instanceTypes := #[]
  staticTypes := #[]
  resolved := Array.replicate 8 none
  statics := none }

/-- the primitive byte -/
def k18 : Class := { plain "byte" none with kind := .primitive 'B', accessFlags := 0x411 }
/-- [B -/
def k19 : Class := { plain "[B" (some 0) with kind := .array 18 .byte, interfaces := #[17, 2], accessFlags := 1041 }

/-- the primitive char -/
def k20 : Class := { plain "char" none with kind := .primitive 'C', accessFlags := 0x411 }
/-- [C -/
def k21 : Class := { plain "[C" (some 0) with kind := .array 20 .char, interfaces := #[17, 2], accessFlags := 1041 }

/-- the primitive int -/
def k22 : Class := { plain "int" none with kind := .primitive 'I', accessFlags := 0x411 }
/-- [I -/
def k23 : Class := { plain "[I" (some 0) with kind := .array 22 .int, interfaces := #[17, 2], accessFlags := 1041 }

def heap : Heap := #[{ cls := 7, slots := #[.long 0, .int 1, .null, .int 0, .null, .int 0, .int 0], vm := .statics 7 },
  { cls := 12, slots := #[.null, .null, .null], vm := .statics 12 }]
def classes : Array Class := #[k0, k1, k2, k3, k4, k5, k6, k7, k8, k9, k10, k11, k12, k13, k14, k15, k16, k17, k18, k19, k20, k21, k22, k23]
def interned : List (Array UInt16 × Addr) := []
def slotsUsed : Nat := 10
def theMethod : MethodId := ⟨1, 1⟩
def args0 : Array Value := #[.int 5, .long 5, .int 5, .int 5, .long 5]
def aboutOver (below : List Frame) : State where
  vm := { classes := classes, interned := interned.toArray }
  heap := heap
  slotsUsed := slotsUsed
  threads := #[{ frames := .invoking theMethod args0 :: below }]
def below0 : List Frame := [.native { method := ⟨0, 0⟩, args := #[] }]
def about1 : State := aboutOver below0
def p0 : Program := .bare "" "" ""
def e0 : Env := launch0.env 0 0 0
theorem w_frames : about1.frames = Frame.invoking theMethod args0 :: below0 := rfl
set_option maxRecDepth 65536 in
theorem w_args : argsFit about1.vm theMethod args0 = true := by decide +kernel
set_option maxRecDepth 65536 in
theorem w_heap : heapFits about1 = true := by decide +kernel
set_option maxRecDepth 65536 in
theorem w_runnable : about1.curStatus? = some .runnable := by decide +kernel
set_option maxRecDepth 65536 in
theorem w_alone : about1.alone = true := by decide +kernel
set_option maxRecDepth 65536 in
theorem w_named : about1.methodNamed? x = some theMethod := by decide +kernel
set_option maxRecDepth 65536 in
theorem w_hears : about1.hears theMethod below0 = true := by decide +kernel
set_option maxRecDepth 65536 in
theorem w_ripe : about1.ripe theMethod args0 below0 = true := by decide +kernel
theorem w_running : about1.status = .running := rfl
set_option maxRecDepth 65536 in
theorem w_room : about1.hasRoom e0.platform room_1 = true :=
  launch0.hasRoom_least _ room_1 (by decide +kernel) (by decide +kernel) (by decide +kernel) (by decide +kernel) (by decide +kernel) (by decide +kernel)
theorem allAtoms_all (ts : List Jvm.Cond) (a : Array Jvm.Value) (st : Jvm.State) : (allAtoms ts).before a st = ts.all (fun c => c.before a st) := by
  induction ts with
  | nil => rfl
  | cons c t ih =>
    show (Jvm.Cond.and c (allAtoms t)).before a st = _
    rw [Jvm.Cond.before_and, ih, List.all_cons]
def words1 : List Jvm.Cond := Jvm.Cond.code x code maxLocals ret :: tables_1
/-- a 'code' word, met by the world's own term for the bytes: nothing is compared byte by byte -/
theorem code_word {y : MethodName} {bytes : ByteArray} {mx : Nat} {rt : Option FieldType} {a : Array Value} {s : State} {m : MethodId} {meth : Method} {c : Code} (h1 : s.methodNamed? y = some m) (h2 : s.vm.method? m = some meth) (h3 : meth.code = some c) (h4 : c.code = bytes)
    (h5 : (c.maxLocals == mx && c.exceptionTable.isEmpty && decide (c.maxStack ≤ mostOperands) && decide (meth.sig.returnType = rt) && !meth.locks && decide (parseMethodDescriptor y.desc = some meth.sig)) = true) : (Jvm.Cond.code y bytes mx rt).before a s = true := by
  simp only [Bool.and_eq_true, beq_iff_eq, Bool.not_eq_true', decide_eq_true_eq] at h5
  obtain ⟨⟨⟨⟨⟨g1, g2⟩, g3⟩, g4⟩, g5⟩, g6⟩ := h5
  simp [Cond.before, Cond.holds, Cond.value, h1, h2, h3, h4, g1, g2, g3, g4, g5, g6]
def isCode : Jvm.Cond → Bool
  | .code _ _ _ _ => true
  | _ => false
theorem all_split {L : List Jvm.Cond} {P : Jvm.Cond → Bool} (h1 : L.all (fun c => isCode c || P c) = true) (h2 : ∀ c ∈ L.filter isCode, P c = true) : L.all P = true := by
  refine List.all_eq_true.mpr fun c hc => ?_
  have h := List.all_eq_true.mp h1 c hc
  rcases Bool.eq_false_or_eq_true (isCode c) with hi | hi
  · exact h2 c (List.mem_filter.mpr ⟨hc, hi⟩)
  · simpa [hi] using h
set_option maxRecDepth 65536 in
theorem w_c0 : (Jvm.Cond.code x code maxLocals ret).before args0 about1 = true := code_word (m := ⟨1, 1⟩) (meth := k1m1) (c := k1c1) (by decide +kernel) rfl rfl rfl (by decide +kernel)
set_option maxRecDepth 65536 in
theorem w_c1 : (Jvm.Cond.code ({ cls := "java/lang/String", name := "<init>", desc := "([C)V" } : Jvm.MethodName) jdk_42_method_3_code (2 : Nat) (Option.none : Option Jvm.ClassFile.FieldType)).before args0 about1 = true := code_word (m := ⟨7, 1⟩) (meth := k7m1) (c := k7c1) (by decide +kernel) rfl rfl rfl (by decide +kernel)
set_option maxRecDepth 65536 in
theorem w_c2 : (Jvm.Cond.code ({ cls := "java/lang/String", name := "<init>", desc := "([CIILjava/lang/Void;)V" } : Jvm.MethodName) jdk_42_method_149_code (6 : Nat) (Option.none : Option Jvm.ClassFile.FieldType)).before args0 about1 = true := code_word (m := ⟨7, 6⟩) (meth := k7m6) (c := k7c6) (by decide +kernel) rfl rfl rfl (by decide +kernel)
set_option maxRecDepth 65536 in
theorem w_c3 : (Jvm.Cond.code ({ cls := "java/lang/Object", name := "<init>", desc := "()V" } : Jvm.MethodName) object_method_1_code (1 : Nat) (Option.none : Option Jvm.ClassFile.FieldType)).before args0 about1 = true := code_word (m := ⟨0, 0⟩) (meth := k0m0) (c := k0c0) (by decide +kernel) rfl rfl rfl (by decide +kernel)
set_option maxRecDepth 65536 in
theorem w_c4 : (Jvm.Cond.code ({ cls := "gleaner/LastMatch", name := "<init>", desc := "()V" } : Jvm.MethodName) prog_15_method_1_code (1 : Nat) (Option.none : Option Jvm.ClassFile.FieldType)).before args0 about1 = true := code_word (m := ⟨8, 0⟩) (meth := k8m0) (c := k8c0) (by decide +kernel) rfl rfl rfl (by decide +kernel)
set_option maxRecDepth 65536 in
theorem w_c5 : (Jvm.Cond.code ({ cls := "java/lang/String", name := "valueOf", desc := "(C)Ljava/lang/String;" } : Jvm.MethodName) jdk_42_method_139_code (1 : Nat) (Option.some (Jvm.ClassFile.FieldType.object "java/lang/String"))).before args0 about1 = true := code_word (m := ⟨7, 5⟩) (meth := k7m5) (c := k7c5) (by decide +kernel) rfl rfl rfl (by decide +kernel)
set_option maxRecDepth 65536 in
theorem w_c6 : (Jvm.Cond.code ({ cls := "java/lang/StringLatin1", name := "canEncode", desc := "(C)Z" } : Jvm.MethodName) jdk_43_method_3_code (1 : Nat) (Option.some Jvm.ClassFile.FieldType.boolean)).before args0 about1 = true := code_word (m := ⟨9, 1⟩) (meth := k9m1) (c := k9c1) (by decide +kernel) rfl rfl rfl (by decide +kernel)
set_option maxRecDepth 65536 in
theorem w_c7 : (Jvm.Cond.code ({ cls := "java/lang/StringLatin1", name := "toBytes", desc := "(C)[B" } : Jvm.MethodName) jdk_43_method_46_code (1 : Nat) (Option.some (Jvm.ClassFile.FieldType.array Jvm.ClassFile.FieldType.byte))).before args0 about1 = true := code_word (m := ⟨9, 2⟩) (meth := k9m2) (c := k9c2) (by decide +kernel) rfl rfl rfl (by decide +kernel)
set_option maxRecDepth 65536 in
theorem w_c8 : (Jvm.Cond.code ({ cls := "java/lang/String", name := "<init>", desc := "([BB)V" } : Jvm.MethodName) jdk_42_method_151_code (3 : Nat) (Option.none : Option Jvm.ClassFile.FieldType)).before args0 about1 = true := code_word (m := ⟨7, 7⟩) (meth := k7m7) (c := k7c7) (by decide +kernel) rfl rfl rfl (by decide +kernel)
set_option maxRecDepth 65536 in
theorem w_c9 : (Jvm.Cond.code ({ cls := "gleaner/Match", name := "of", desc := "(Ljava/lang/String;J)Lgleaner/Match;" } : Jvm.MethodName) prog_18_method_2_code (3 : Nat) (Option.some (Jvm.ClassFile.FieldType.object "gleaner/Match"))).before args0 about1 = true := code_word (m := ⟨11, 1⟩) (meth := k11m1) (c := k11c1) (by decide +kernel) rfl rfl rfl (by decide +kernel)
set_option maxRecDepth 65536 in
theorem w_c10 : (Jvm.Cond.code ({ cls := "java/lang/String", name := "length", desc := "()I" } : Jvm.MethodName) jdk_42_method_54_code (1 : Nat) (Option.some Jvm.ClassFile.FieldType.int)).before args0 about1 = true := code_word (m := ⟨7, 2⟩) (meth := k7m2) (c := k7c2) (by decide +kernel) rfl rfl rfl (by decide +kernel)
set_option maxRecDepth 65536 in
theorem w_c11 : (Jvm.Cond.code ({ cls := "java/lang/String", name := "coder", desc := "()B" } : Jvm.MethodName) jdk_42_method_152_code (1 : Nat) (Option.some Jvm.ClassFile.FieldType.byte)).before args0 about1 = true := code_word (m := ⟨7, 8⟩) (meth := k7m8) (c := k7c8) (by decide +kernel) rfl rfl rfl (by decide +kernel)
set_option maxRecDepth 65536 in
theorem w_c12 : (Jvm.Cond.code ({ cls := "gleaner/Match", name := "<init>", desc := "(Ljava/lang/String;J[I)V" } : Jvm.MethodName) prog_18_method_1_code (5 : Nat) (Option.none : Option Jvm.ClassFile.FieldType)).before args0 about1 = true := code_word (m := ⟨11, 0⟩) (meth := k11m0) (c := k11c0) (by decide +kernel) rfl rfl rfl (by decide +kernel)
set_option maxRecDepth 65536 in
theorem w_c13 : (Jvm.Cond.code ({ cls := "gleaner/LastMatch", name := "set", desc := "(Lgleaner/Match;)V" } : Jvm.MethodName) prog_15_method_3_code (2 : Nat) (Option.none : Option Jvm.ClassFile.FieldType)).before args0 about1 = true := code_word (m := ⟨8, 2⟩) (meth := k8m2) (c := k8c2) (by decide +kernel) rfl rfl rfl (by decide +kernel)
set_option maxRecDepth 65536 in
theorem w_c14 : (Jvm.Cond.code ({ cls := "gleaner/LastMatch", name := "token", desc := "(Ljava/lang/String;J)V" } : Jvm.MethodName) prog_15_method_4_code (4 : Nat) (Option.none : Option Jvm.ClassFile.FieldType)).before args0 about1 = true := code_word (m := ⟨8, 3⟩) (meth := k8m3) (c := k8c3) (by decide +kernel) rfl rfl rfl (by decide +kernel)
set_option maxRecDepth 65536 in
theorem w_c15 : (Jvm.Cond.code ({ cls := "gleaner/LastMatch", name := "get", desc := "()Lgleaner/Match;" } : Jvm.MethodName) prog_15_method_8_code (1 : Nat) (Option.some (Jvm.ClassFile.FieldType.object "gleaner/Match"))).before args0 about1 = true := code_word (m := ⟨8, 7⟩) (meth := k8m7) (c := k8c7) (by decide +kernel) rfl rfl rfl (by decide +kernel)
set_option maxRecDepth 65536 in
theorem w_c16 : (Jvm.Cond.code ({ cls := "gleaner/Match", name := "within", desc := "(Lgleaner/Match;)Lgleaner/Match;" } : Jvm.MethodName) prog_18_method_5_code (2 : Nat) (Option.some (Jvm.ClassFile.FieldType.object "gleaner/Match"))).before args0 about1 = true := code_word (m := ⟨11, 2⟩) (meth := k11m2) (c := k11c2) (by decide +kernel) rfl rfl rfl (by decide +kernel)
set_option maxRecDepth 65536 in
theorem w_c17 : (Jvm.Cond.code ({ cls := "gleaner/Match", name := "group", desc := "()Ljava/lang/String;" } : Jvm.MethodName) prog_18_method_10_code (1 : Nat) (Option.some (Jvm.ClassFile.FieldType.object "java/lang/String"))).before args0 about1 = true := code_word (m := ⟨11, 7⟩) (meth := k11m7) (c := k11c7) (by decide +kernel) rfl rfl rfl (by decide +kernel)
set_option maxRecDepth 65536 in
theorem w_c18 : (Jvm.Cond.code ({ cls := "gleaner/Match", name := "group", desc := "(I)Ljava/lang/String;" } : Jvm.MethodName) prog_18_method_11_code (3 : Nat) (Option.some (Jvm.ClassFile.FieldType.object "java/lang/String"))).before args0 about1 = true := code_word (m := ⟨11, 8⟩) (meth := k11m8) (c := k11c8) (by decide +kernel) rfl rfl rfl (by decide +kernel)
set_option maxRecDepth 65536 in
theorem w_c19 : (Jvm.Cond.code ({ cls := "gleaner/Match", name := "checked", desc := "(I)I" } : Jvm.MethodName) prog_18_method_13_code (2 : Nat) (Option.some Jvm.ClassFile.FieldType.int)).before args0 about1 = true := code_word (m := ⟨11, 10⟩) (meth := k11m10) (c := k11c10) (by decide +kernel) rfl rfl rfl (by decide +kernel)
set_option maxRecDepth 65536 in
theorem w_c20 : (Jvm.Cond.code ({ cls := "gleaner/Match", name := "groupCount", desc := "()I" } : Jvm.MethodName) prog_18_method_12_code (1 : Nat) (Option.some Jvm.ClassFile.FieldType.int)).before args0 about1 = true := code_word (m := ⟨11, 9⟩) (meth := k11m9) (c := k11c9) (by decide +kernel) rfl rfl rfl (by decide +kernel)
set_option maxRecDepth 65536 in
theorem w_c21 : (Jvm.Cond.code ({ cls := "java/lang/String", name := "substring", desc := "(II)Ljava/lang/String;" } : Jvm.MethodName) jdk_42_method_92_code (5 : Nat) (Option.some (Jvm.ClassFile.FieldType.object "java/lang/String"))).before args0 about1 = true := code_word (m := ⟨7, 4⟩) (meth := k7m4) (c := k7c4) (by decide +kernel) rfl rfl rfl (by decide +kernel)
set_option maxRecDepth 65536 in
theorem w_c22 : (Jvm.Cond.code ({ cls := "java/lang/String", name := "checkBoundsBeginEnd", desc := "(III)V" } : Jvm.MethodName) jdk_42_method_158_code (3 : Nat) (Option.none : Option Jvm.ClassFile.FieldType)).before args0 about1 = true := code_word (m := ⟨7, 9⟩) (meth := k7m9) (c := k7c9) (by decide +kernel) rfl rfl rfl (by decide +kernel)
set_option maxRecDepth 65536 in
theorem w_c23 : (Jvm.Cond.code ({ cls := "jdk/internal/util/Preconditions", name := "checkFromToIndex", desc := "(IIILjava/util/function/BiFunction;)I" } : Jvm.MethodName) jdk_41_method_12_code (4 : Nat) (Option.some Jvm.ClassFile.FieldType.int)).before args0 about1 = true := code_word (m := ⟨12, 1⟩) (meth := k12m1) (c := k12c1) (by decide +kernel) rfl rfl rfl (by decide +kernel)
set_option maxRecDepth 65536 in
theorem w_c24 : (Jvm.Cond.code ({ cls := "java/lang/String", name := "equals", desc := "(Ljava/lang/Object;)Z" } : Jvm.MethodName) jdk_42_method_66_code (3 : Nat) (Option.some Jvm.ClassFile.FieldType.boolean)).before args0 about1 = true := code_word (m := ⟨7, 3⟩) (meth := k7m3) (c := k7c3) (by decide +kernel) rfl rfl rfl (by decide +kernel)
set_option maxRecDepth 65536 in
theorem w_c25 : (Jvm.Cond.code ({ cls := "gleaner/Match", name := "start", desc := "()I" } : Jvm.MethodName) prog_18_method_6_code (1 : Nat) (Option.some Jvm.ClassFile.FieldType.int)).before args0 about1 = true := code_word (m := ⟨11, 3⟩) (meth := k11m3) (c := k11c3) (by decide +kernel) rfl rfl rfl (by decide +kernel)
set_option maxRecDepth 65536 in
theorem w_c26 : (Jvm.Cond.code ({ cls := "gleaner/Match", name := "start", desc := "(I)I" } : Jvm.MethodName) prog_18_method_7_code (2 : Nat) (Option.some Jvm.ClassFile.FieldType.int)).before args0 about1 = true := code_word (m := ⟨11, 4⟩) (meth := k11m4) (c := k11c4) (by decide +kernel) rfl rfl rfl (by decide +kernel)
set_option maxRecDepth 65536 in
theorem w_c27 : (Jvm.Cond.code ({ cls := "gleaner/Match", name := "place", desc := "(I)I" } : Jvm.MethodName) prog_18_method_14_code (2 : Nat) (Option.some Jvm.ClassFile.FieldType.int)).before args0 about1 = true := code_word (m := ⟨11, 11⟩) (meth := k11m11) (c := k11c11) (by decide +kernel) rfl rfl rfl (by decide +kernel)
set_option maxRecDepth 65536 in
theorem w_c28 : (Jvm.Cond.code ({ cls := "java/lang/Math", name := "toIntExact", desc := "(J)I" } : Jvm.MethodName) jdk_29_method_43_code (2 : Nat) (Option.some Jvm.ClassFile.FieldType.int)).before args0 about1 = true := code_word (m := ⟨13, 1⟩) (meth := k13m1) (c := k13c1) (by decide +kernel) rfl rfl rfl (by decide +kernel)
set_option maxRecDepth 65536 in
theorem w_c29 : (Jvm.Cond.code ({ cls := "gleaner/Match", name := "end", desc := "()I" } : Jvm.MethodName) prog_18_method_8_code (1 : Nat) (Option.some Jvm.ClassFile.FieldType.int)).before args0 about1 = true := code_word (m := ⟨11, 5⟩) (meth := k11m5) (c := k11c5) (by decide +kernel) rfl rfl rfl (by decide +kernel)
set_option maxRecDepth 65536 in
theorem w_c30 : (Jvm.Cond.code ({ cls := "gleaner/Match", name := "end", desc := "(I)I" } : Jvm.MethodName) prog_18_method_9_code (2 : Nat) (Option.some Jvm.ClassFile.FieldType.int)).before args0 about1 = true := code_word (m := ⟨11, 6⟩) (meth := k11m6) (c := k11c6) (by decide +kernel) rfl rfl rfl (by decide +kernel)
set_option maxRecDepth 65536 in
theorem w_c31 : (Jvm.Cond.code ({ cls := "gleaner/LastMatch", name := "line", desc := "(Ljava/lang/String;JIC)V" } : Jvm.MethodName) prog_15_method_6_code (6 : Nat) (Option.none : Option Jvm.ClassFile.FieldType)).before args0 about1 = true := code_word (m := ⟨8, 5⟩) (meth := k8m5) (c := k8c5) (by decide +kernel) rfl rfl rfl (by decide +kernel)
set_option maxRecDepth 65536 in
theorem w_c32 : (Jvm.Cond.code ({ cls := "java/lang/StringUTF16", name := "compress", desc := "([CII)[B" } : Jvm.MethodName) jdk_52_method_16_code (6 : Nat) (Option.some (Jvm.ClassFile.FieldType.array Jvm.ClassFile.FieldType.byte))).before args0 about1 = true := code_word (m := ⟨14, 2⟩) (meth := k14m2) (c := k14c2) (by decide +kernel) rfl rfl rfl (by decide +kernel)
set_option maxRecDepth 65536 in
theorem w_c33 : (Jvm.Cond.code ({ cls := "java/lang/StringUTF16", name := "compress", desc := "([CI[BII)I" } : Jvm.MethodName) jdk_52_method_21_code (7 : Nat) (Option.some Jvm.ClassFile.FieldType.int)).before args0 about1 = true := code_word (m := ⟨14, 3⟩) (meth := k14m3) (c := k14c3) (by decide +kernel) rfl rfl rfl (by decide +kernel)
set_option maxRecDepth 65536 in
theorem w_c34 : (Jvm.Cond.code ({ cls := "java/lang/StringUTF16", name := "coderFromArrayLen", desc := "([BI)B" } : Jvm.MethodName) jdk_52_method_15_code (2 : Nat) (Option.some Jvm.ClassFile.FieldType.byte)).before args0 about1 = true := code_word (m := ⟨14, 1⟩) (meth := k14m1) (c := k14c1) (by decide +kernel) rfl rfl rfl (by decide +kernel)
set_option maxRecDepth 65536 in
theorem w_c35 : (Jvm.Cond.code ({ cls := "gleaner/LastMatch", name := "token", desc := "([CIIJ)V" } : Jvm.MethodName) prog_15_method_5_code (6 : Nat) (Option.none : Option Jvm.ClassFile.FieldType)).before args0 about1 = true := code_word (m := ⟨8, 4⟩) (meth := k8m4) (c := k8c4) (by decide +kernel) rfl rfl rfl (by decide +kernel)
set_option maxRecDepth 65536 in
theorem w_c36 : (Jvm.Cond.code ({ cls := "gleaner/LastMatch", name := "clear", desc := "()V" } : Jvm.MethodName) prog_15_method_2_code (1 : Nat) (Option.none : Option Jvm.ClassFile.FieldType)).before args0 about1 = true := code_word (m := ⟨8, 1⟩) (meth := k8m1) (c := k8c1) (by decide +kernel) rfl rfl rfl (by decide +kernel)
set_option maxRecDepth 65536 in
theorem w_c37 : (Jvm.Cond.code ({ cls := "gleaner/LastMatch", name := "lineWithTerminator", desc := "(Ljava/lang/String;JI)V" } : Jvm.MethodName) prog_15_method_7_code (5 : Nat) (Option.none : Option Jvm.ClassFile.FieldType)).before args0 about1 = true := code_word (m := ⟨8, 6⟩) (meth := k8m6) (c := k8c6) (by decide +kernel) rfl rfl rfl (by decide +kernel)
def codes1 : List Jvm.Cond := [Jvm.Cond.code x code maxLocals ret, Jvm.Cond.code ({ cls := "java/lang/String", name := "<init>", desc := "([C)V" } : Jvm.MethodName) jdk_42_method_3_code (2 : Nat) (Option.none : Option Jvm.ClassFile.FieldType), Jvm.Cond.code ({ cls := "java/lang/String", name := "<init>", desc := "([CIILjava/lang/Void;)V" } : Jvm.MethodName) jdk_42_method_149_code (6 : Nat) (Option.none : Option Jvm.ClassFile.FieldType), Jvm.Cond.code ({ cls := "java/lang/Object", name := "<init>", desc := "()V" } : Jvm.MethodName) object_method_1_code (1 : Nat) (Option.none : Option Jvm.ClassFile.FieldType), Jvm.Cond.code ({ cls := "gleaner/LastMatch", name := "<init>", desc := "()V" } : Jvm.MethodName) prog_15_method_1_code (1 : Nat) (Option.none : Option Jvm.ClassFile.FieldType), Jvm.Cond.code ({ cls := "java/lang/String", name := "valueOf", desc := "(C)Ljava/lang/String;" } : Jvm.MethodName) jdk_42_method_139_code (1 : Nat) (Option.some (Jvm.ClassFile.FieldType.object "java/lang/String")), Jvm.Cond.code ({ cls := "java/lang/StringLatin1", name := "canEncode", desc := "(C)Z" } : Jvm.MethodName) jdk_43_method_3_code (1 : Nat) (Option.some Jvm.ClassFile.FieldType.boolean), Jvm.Cond.code ({ cls := "java/lang/StringLatin1", name := "toBytes", desc := "(C)[B" } : Jvm.MethodName) jdk_43_method_46_code (1 : Nat) (Option.some (Jvm.ClassFile.FieldType.array Jvm.ClassFile.FieldType.byte)), Jvm.Cond.code ({ cls := "java/lang/String", name := "<init>", desc := "([BB)V" } : Jvm.MethodName) jdk_42_method_151_code (3 : Nat) (Option.none : Option Jvm.ClassFile.FieldType), Jvm.Cond.code ({ cls := "gleaner/Match", name := "of", desc := "(Ljava/lang/String;J)Lgleaner/Match;" } : Jvm.MethodName) prog_18_method_2_code (3 : Nat) (Option.some (Jvm.ClassFile.FieldType.object "gleaner/Match")), Jvm.Cond.code ({ cls := "java/lang/String", name := "length", desc := "()I" } : Jvm.MethodName) jdk_42_method_54_code (1 : Nat) (Option.some Jvm.ClassFile.FieldType.int), Jvm.Cond.code ({ cls := "java/lang/String", name := "coder", desc := "()B" } : Jvm.MethodName) jdk_42_method_152_code (1 : Nat) (Option.some Jvm.ClassFile.FieldType.byte), Jvm.Cond.code ({ cls := "gleaner/Match", name := "<init>", desc := "(Ljava/lang/String;J[I)V" } : Jvm.MethodName) prog_18_method_1_code (5 : Nat) (Option.none : Option Jvm.ClassFile.FieldType), Jvm.Cond.code ({ cls := "gleaner/LastMatch", name := "set", desc := "(Lgleaner/Match;)V" } : Jvm.MethodName) prog_15_method_3_code (2 : Nat) (Option.none : Option Jvm.ClassFile.FieldType), Jvm.Cond.code ({ cls := "gleaner/LastMatch", name := "token", desc := "(Ljava/lang/String;J)V" } : Jvm.MethodName) prog_15_method_4_code (4 : Nat) (Option.none : Option Jvm.ClassFile.FieldType), Jvm.Cond.code ({ cls := "gleaner/LastMatch", name := "get", desc := "()Lgleaner/Match;" } : Jvm.MethodName) prog_15_method_8_code (1 : Nat) (Option.some (Jvm.ClassFile.FieldType.object "gleaner/Match")), Jvm.Cond.code ({ cls := "gleaner/Match", name := "within", desc := "(Lgleaner/Match;)Lgleaner/Match;" } : Jvm.MethodName) prog_18_method_5_code (2 : Nat) (Option.some (Jvm.ClassFile.FieldType.object "gleaner/Match")), Jvm.Cond.code ({ cls := "gleaner/Match", name := "group", desc := "()Ljava/lang/String;" } : Jvm.MethodName) prog_18_method_10_code (1 : Nat) (Option.some (Jvm.ClassFile.FieldType.object "java/lang/String")), Jvm.Cond.code ({ cls := "gleaner/Match", name := "group", desc := "(I)Ljava/lang/String;" } : Jvm.MethodName) prog_18_method_11_code (3 : Nat) (Option.some (Jvm.ClassFile.FieldType.object "java/lang/String")), Jvm.Cond.code ({ cls := "gleaner/Match", name := "checked", desc := "(I)I" } : Jvm.MethodName) prog_18_method_13_code (2 : Nat) (Option.some Jvm.ClassFile.FieldType.int), Jvm.Cond.code ({ cls := "gleaner/Match", name := "groupCount", desc := "()I" } : Jvm.MethodName) prog_18_method_12_code (1 : Nat) (Option.some Jvm.ClassFile.FieldType.int), Jvm.Cond.code ({ cls := "java/lang/String", name := "substring", desc := "(II)Ljava/lang/String;" } : Jvm.MethodName) jdk_42_method_92_code (5 : Nat) (Option.some (Jvm.ClassFile.FieldType.object "java/lang/String")), Jvm.Cond.code ({ cls := "java/lang/String", name := "checkBoundsBeginEnd", desc := "(III)V" } : Jvm.MethodName) jdk_42_method_158_code (3 : Nat) (Option.none : Option Jvm.ClassFile.FieldType), Jvm.Cond.code ({ cls := "jdk/internal/util/Preconditions", name := "checkFromToIndex", desc := "(IIILjava/util/function/BiFunction;)I" } : Jvm.MethodName) jdk_41_method_12_code (4 : Nat) (Option.some Jvm.ClassFile.FieldType.int), Jvm.Cond.code ({ cls := "java/lang/String", name := "equals", desc := "(Ljava/lang/Object;)Z" } : Jvm.MethodName) jdk_42_method_66_code (3 : Nat) (Option.some Jvm.ClassFile.FieldType.boolean), Jvm.Cond.code ({ cls := "gleaner/Match", name := "start", desc := "()I" } : Jvm.MethodName) prog_18_method_6_code (1 : Nat) (Option.some Jvm.ClassFile.FieldType.int), Jvm.Cond.code ({ cls := "gleaner/Match", name := "start", desc := "(I)I" } : Jvm.MethodName) prog_18_method_7_code (2 : Nat) (Option.some Jvm.ClassFile.FieldType.int), Jvm.Cond.code ({ cls := "gleaner/Match", name := "place", desc := "(I)I" } : Jvm.MethodName) prog_18_method_14_code (2 : Nat) (Option.some Jvm.ClassFile.FieldType.int), Jvm.Cond.code ({ cls := "java/lang/Math", name := "toIntExact", desc := "(J)I" } : Jvm.MethodName) jdk_29_method_43_code (2 : Nat) (Option.some Jvm.ClassFile.FieldType.int), Jvm.Cond.code ({ cls := "gleaner/Match", name := "end", desc := "()I" } : Jvm.MethodName) prog_18_method_8_code (1 : Nat) (Option.some Jvm.ClassFile.FieldType.int), Jvm.Cond.code ({ cls := "gleaner/Match", name := "end", desc := "(I)I" } : Jvm.MethodName) prog_18_method_9_code (2 : Nat) (Option.some Jvm.ClassFile.FieldType.int), Jvm.Cond.code ({ cls := "gleaner/LastMatch", name := "line", desc := "(Ljava/lang/String;JIC)V" } : Jvm.MethodName) prog_15_method_6_code (6 : Nat) (Option.none : Option Jvm.ClassFile.FieldType), Jvm.Cond.code ({ cls := "java/lang/StringUTF16", name := "compress", desc := "([CII)[B" } : Jvm.MethodName) jdk_52_method_16_code (6 : Nat) (Option.some (Jvm.ClassFile.FieldType.array Jvm.ClassFile.FieldType.byte)), Jvm.Cond.code ({ cls := "java/lang/StringUTF16", name := "compress", desc := "([CI[BII)I" } : Jvm.MethodName) jdk_52_method_21_code (7 : Nat) (Option.some Jvm.ClassFile.FieldType.int), Jvm.Cond.code ({ cls := "java/lang/StringUTF16", name := "coderFromArrayLen", desc := "([BI)B" } : Jvm.MethodName) jdk_52_method_15_code (2 : Nat) (Option.some Jvm.ClassFile.FieldType.byte), Jvm.Cond.code ({ cls := "gleaner/LastMatch", name := "token", desc := "([CIIJ)V" } : Jvm.MethodName) prog_15_method_5_code (6 : Nat) (Option.none : Option Jvm.ClassFile.FieldType), Jvm.Cond.code ({ cls := "gleaner/LastMatch", name := "clear", desc := "()V" } : Jvm.MethodName) prog_15_method_2_code (1 : Nat) (Option.none : Option Jvm.ClassFile.FieldType), Jvm.Cond.code ({ cls := "gleaner/LastMatch", name := "lineWithTerminator", desc := "(Ljava/lang/String;JI)V" } : Jvm.MethodName) prog_15_method_7_code (5 : Nat) (Option.none : Option Jvm.ClassFile.FieldType)]
set_option maxRecDepth 65536 in
theorem codes_eq : words1.filter isCode = codes1 := rfl
theorem w_codes : ∀ c ∈ words1.filter isCode, c.before args0 about1 = true := by
  rw [codes_eq]
  intro c hc
  simp only [codes1, List.mem_cons, List.not_mem_nil, or_false] at hc
  rcases hc with rfl | rfl | rfl | rfl | rfl | rfl | rfl | rfl | rfl | rfl | rfl | rfl | rfl | rfl | rfl | rfl | rfl | rfl | rfl | rfl | rfl | rfl | rfl | rfl | rfl | rfl | rfl | rfl | rfl | rfl | rfl | rfl | rfl | rfl | rfl | rfl | rfl | rfl
  · exact w_c0
  · exact w_c1
  · exact w_c2
  · exact w_c3
  · exact w_c4
  · exact w_c5
  · exact w_c6
  · exact w_c7
  · exact w_c8
  · exact w_c9
  · exact w_c10
  · exact w_c11
  · exact w_c12
  · exact w_c13
  · exact w_c14
  · exact w_c15
  · exact w_c16
  · exact w_c17
  · exact w_c18
  · exact w_c19
  · exact w_c20
  · exact w_c21
  · exact w_c22
  · exact w_c23
  · exact w_c24
  · exact w_c25
  · exact w_c26
  · exact w_c27
  · exact w_c28
  · exact w_c29
  · exact w_c30
  · exact w_c31
  · exact w_c32
  · exact w_c33
  · exact w_c34
  · exact w_c35
  · exact w_c36
  · exact w_c37
set_option maxRecDepth 65536 in
theorem w_t1 : (words1.take 24).all (fun c => isCode c || c.before args0 about1) = true := by decide +kernel
set_option maxRecDepth 65536 in
theorem w_t2 : ((words1.drop 24).take 24).all (fun c => isCode c || c.before args0 about1) = true := by decide +kernel
set_option maxRecDepth 65536 in
theorem w_t3 : (((words1.drop 24).drop 24).take 24).all (fun c => isCode c || c.before args0 about1) = true := by decide +kernel
set_option maxRecDepth 65536 in
theorem w_t4 : ((((words1.drop 24).drop 24).drop 24).take 24).all (fun c => isCode c || c.before args0 about1) = true := by decide +kernel
set_option maxRecDepth 65536 in
theorem w_t5 : (((((words1.drop 24).drop 24).drop 24).drop 24).take 24).all (fun c => isCode c || c.before args0 about1) = true := by decide +kernel
set_option maxRecDepth 65536 in
theorem w_t6 : ((((((words1.drop 24).drop 24).drop 24).drop 24).drop 24).take 24).all (fun c => isCode c || c.before args0 about1) = true := by decide +kernel
set_option maxRecDepth 65536 in
theorem w_t7 : (((((((words1.drop 24).drop 24).drop 24).drop 24).drop 24).drop 24).take 24).all (fun c => isCode c || c.before args0 about1) = true := by decide +kernel
set_option maxRecDepth 65536 in
theorem w_t8 : ((((((((words1.drop 24).drop 24).drop 24).drop 24).drop 24).drop 24).drop 24).take 24).all (fun c => isCode c || c.before args0 about1) = true := by decide +kernel
set_option maxRecDepth 65536 in
theorem w_t9 : ((((((((words1.drop 24).drop 24).drop 24).drop 24).drop 24).drop 24).drop 24).drop 24).all (fun c => isCode c || c.before args0 about1) = true := by decide +kernel
theorem w_tables : (allAtoms (Jvm.Cond.code x code maxLocals ret :: tables_1)).before args0 about1 = true := by
  rw [allAtoms_all]
  show words1.all (fun c => c.before args0 about1) = true
  refine all_split ?_ w_codes
  rw [← List.take_append_drop 24 words1, List.all_append, w_t1, ← List.take_append_drop 24 (words1.drop 24), List.all_append, w_t2, ← List.take_append_drop 24 ((words1.drop 24).drop 24), List.all_append, w_t3, ← List.take_append_drop 24 (((words1.drop 24).drop 24).drop 24), List.all_append, w_t4, ← List.take_append_drop 24 ((((words1.drop 24).drop 24).drop 24).drop 24), List.all_append, w_t5, ← List.take_append_drop 24 (((((words1.drop 24).drop 24).drop 24).drop 24).drop 24), List.all_append, w_t6, ← List.take_append_drop 24 ((((((words1.drop 24).drop 24).drop 24).drop 24).drop 24).drop 24), List.all_append, w_t7, ← List.take_append_drop 24 (((((((words1.drop 24).drop 24).drop 24).drop 24).drop 24).drop 24).drop 24), List.all_append, w_t8, w_t9]
  rfl
set_option maxRecDepth 65536 in
theorem w_rest : rest_1_c.before args0 about1 = true := by decide +kernel
set_option maxRecDepth 65536 in
theorem w_case : (Jvm.Cond.and given_1 narrow_1).before args0 about1 = true := by decide +kernel
set_option maxRecDepth 65536 in
theorem w_consts : constsHeld consts_1 about1 := Jvm.Lit.constsHeldB_iff.mp (by decide +kernel)
theorem w_applies : (headSpec (Jvm.Cond.code x code maxLocals ret :: tables_1) room_1).applies x e0.platform about1 = true :=
  (Spec.applies_iff w_frames).mpr ⟨w_running, w_runnable, w_alone, w_named, w_hears, w_ripe, w_room, w_tables⟩
theorem atStart : AtStart classFile x code maxLocals ret World_1 tables_1 room_1 Calls_1 rest_1 Pre_1 launch0 p0 e0 about1 theMethod args0 below0 :=
  ⟨lists_1, trivial, launch0.admits_env _ _ _, launch0.least_env, fairChoices_fair.cas, fairChoices_fair.clock, w_frames, w_args, w_heap, w_applies, ⟨w_consts, trivial⟩, w_rest, w_case⟩
end start1
theorem witness_1 : WitnessClaimed_1 := ⟨start1.p0, start1.e0, start1.about1, start1.theMethod, start1.args0, start1.below0, start1.atStart⟩
end Jvm.Pilot.@@N@@
