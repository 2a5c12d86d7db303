import JvmDerived
import JvmDerived.Pilot.@@N@@Statement
import JvmDerived.Pilot.@@N@@Code
set_option linter.unusedVariables false
set_option linter.unusedSimpArgs false
namespace Jvm.Pilot.@@N@@
open Jvm Jvm.ClassFile Sem Op Lib Jvm.Free Jvm.Stand Jvm.LawKit Jvm.RoadKit Bundle Jvm.Pilot.@@N@@.Jvm.D
section JU
variable {tb : Tables} [Ours tb] {e : Env} {below : List Frame} {T target : State} {m : MethodId} {c : Code} {g : JFrame}
theorem yI (h : At T m c below) (hx : tb.exec = Jvm.exec) (hg : g.method = m) {cd : Jvm.ClassFile.Cond} {x : Int32} {rest : List Value} {o : Int} (pc0 pc' : Nat) (hpc : g.pc = pc0) (hd : decode c.code g.pc = .ok (.ifCond cd o, 3)) (hs : g.stack = .int x :: rest) (hc : ifCond.holds cd x = true) (hr : Steps tb e below (T.setTop { g with pc := pc', stack := rest }) target) (ho : 0 ≤ (pc0 : Int) + o := by decide) (hp : ((pc0 : Int) + o).toNat = pc' := by decide) : Steps tb e below (T.setTop g) target := XS.ifYes h hx hg hpc hd hs hc ho hp hr
theorem yC (h : At T m c below) (hx : tb.exec = Jvm.exec) (hg : g.method = m) {cd : Jvm.ClassFile.Cond} {x y : Int32} {rest : List Value} {o : Int} (pc0 pc' : Nat) (hpc : g.pc = pc0) (hd : decode c.code g.pc = .ok (.if_icmp cd o, 3)) (hs : g.stack = .int y :: .int x :: rest) (hc : if_icmp.holds cd x y = true) (hr : Steps tb e below (T.setTop { g with pc := pc', stack := rest }) target) (ho : 0 ≤ (pc0 : Int) + o := by decide) (hp : ((pc0 : Int) + o).toNat = pc' := by decide) : Steps tb e below (T.setTop g) target := XS.icmpYes h hx hg hpc hd hs hc ho hp hr
theorem yG (h : At T m c below) (hx : tb.exec = Jvm.exec) (hg : g.method = m) {o : Int} (pc0 pc' : Nat) (hpc : g.pc = pc0) (hd : decode c.code g.pc = .ok (.goto o, 3)) (hr : Steps tb e below (T.setTop { g with pc := pc' }) target) (ho : 0 ≤ (pc0 : Int) + o := by decide) (hp : ((pc0 : Int) + o).toNat = pc' := by decide) : Steps tb e below (T.setTop g) target := XS.goto h hx hg hpc hd ho hp hr
end JU
theorem own_w {a b : Nat} (h : a = b) : a ≤ b := Nat.le_of_eq h
abbrev MFP (l : Launch) (Z : State) (y : MethodName) (bytes : ByteArray) (ml : Nat) (rt : Option FieldType) (rm : Room) (ws : List Jvm.Cond) (A : Array Value) (h0 : Heap) (Q : Option Value → Heap → List Loc → Prop) : Prop :=
  MetFree l y (head1 (Jvm.Cond.code y bytes ml rt :: ws) rm) (fun a U => a = A ∧ Z.Warmed39 U.vm ∧ U.heap = h0) (fun _ _ _ _ _ => True) (fun _ U o U' => ∃ v L, o = .returned v ∧ Q v U'.heap L ∧ FrameEnd U o U' L rm.cells rm.slots)
abbrev MFS (l : Launch) (Z : State) (y : MethodName) (bytes : ByteArray) (ml : Nat) (rt : Option FieldType) (rm : Room) (ws : List Jvm.Cond) (A : Array Value) (h0 : Heap) (Q : Option Value → Heap → List Loc → Prop) : Prop :=
  MetFree l y (head1 (Jvm.Cond.code y bytes ml rt :: ws) rm) (fun a U => a = A ∧ Z.Warmed39 U.vm ∧ U.heap = h0) (fun _ _ _ _ _ => True) (fun _ U o U' => ∃ v L, o = .returned v ∧ Q v U'.heap L ∧ ReturnedEndW U o U' L rm.cells rm.slots)
abbrev MFI (l : Launch) (Z : State) (y : MethodName) (bytes : ByteArray) (ml : Nat) (rt : Option FieldType) (rm : Room) (ws : List Jvm.Cond) (A : Array Value) (h0 : Heap) (Q : Option Value → Heap → List Loc → Prop) : Prop :=
  MetFree l y (head1 (Jvm.Cond.code y bytes ml rt :: ws) rm) (fun a U => a = A ∧ Z.Warmed39 U.vm ∧ U.heap = h0 ∧ U.vm.interned = Z.vm.interned) (fun _ _ _ _ _ => True) (fun _ U o U' => ∃ v L, o = .returned v ∧ Q v U'.heap L ∧ ReturnedEndW U o U' L rm.cells rm.slots)
abbrev Kt (p : Program) (e : Env) (below : List Frame) (T st0 : State) (g : JFrame) : Prop := ∀ t, Steps p.tables e below (T.setTop g) t → Steps p.tables e below st0 t
section KL
variable {p : Program} {l : Launch} {e : Env} {R : Room} {s : State} {m : MethodId} {args : Array Value} {below : List Frame} {meth : Method} {c : Code} {T : State} {locs : List Loc} {cells slots : Nat} {Z : State} {a0 : Array Value} {h : Heap} {st0 : State} {g : JFrame}
theorem kget (X : Stand p l e R s m args below meth c T locs cells slots) (hx : p.tables.exec = Jvm.exec) (hZ : Z.Warmed39 s.vm) {own R0 O n d host : String} {index : Nat} (hown : s.vm.findClass own = some m.cls) (w : (Jvm.Cond.fieldLink own index R0 n d).before a0 Z = true ∨ (Jvm.Cond.fieldLinkNest own index R0 n d host).before a0 Z = true) (via : Via Z R0 O n d) (eT : T.heap = h) {a : Addr} {v : Value} (F : Fld Z h a O n d v) (k : Kt p e below T st0 g) (hg : g.method = m) {rest : List Value} (hs : g.stack = .ref a :: rest) (hd : decode c.code g.pc = .ok (.getfield index, 3)) :
    ∃ T', Stand p l e R s m args below meth c T' locs cells slots ∧ T'.heap = h ∧ Kt p e below T' st0 { g with pc := g.pc + 3, stack := v :: rest } := by
  obtain ⟨T', X', e', st⟩ := getF X hx hZ hown w via eT F hg hs hd
  exact ⟨T', X', e', fun t q => k t (st t q)⟩
theorem kgetS (X : Stand p l e R s m args below meth c T locs cells slots) (hx : p.tables.exec = Jvm.exec) (hZ : Z.Warmed39 s.vm) {own R0 O n d host : String} {index : Nat} (hown : s.vm.findClass own = some m.cls) (w : (Jvm.Cond.fieldLink own index R0 n d).before a0 Z = true ∨ (Jvm.Cond.fieldLinkNest own index R0 n d host).before a0 Z = true) (via : Via Z R0 O n d) (eT : T.heap = h) {v : Value} (F : Sta Z h O n d v) (k : Kt p e below T st0 g) (hg : g.method = m) (hd : decode c.code g.pc = .ok (.getstatic index, 3)) :
    ∃ T', Stand p l e R s m args below meth c T' locs cells slots ∧ T'.heap = h ∧ Kt p e below T' st0 { g with pc := g.pc + 3, stack := v :: g.stack } := by
  obtain ⟨T', X', e', st⟩ := getS2 X hx hZ hown w via eT F hg hd
  exact ⟨T', X', e', fun t q => k t (st t q)⟩
theorem kput (X : Stand p l e R s m args below meth c T locs cells slots) (hx : p.tables.exec = Jvm.exec) (hZ : Z.Warmed39 s.vm) {own R0 O n d host C : String} {index kk : Nat} (ty : FieldType) (hown : s.vm.findClass own = some m.cls) (w : (Jvm.Cond.fieldLink own index R0 n d).before a0 Z = true ∨ (Jvm.Cond.fieldLinkNest own index R0 n d host).before a0 Z = true) (via : Via Z R0 O n d) (eT : T.heap = h) {a : Addr} {v old : Value} (F : Fld Z h a O n d old) (E : Exa Z h a C) (L : (Jvm.Cond.lays C O n d).before a0 Z = true ∨ ((Jvm.Cond.laysFinal C O n d).before a0 Z = true ∧ own = O ∧ meth.name = "<init>")) (wi : (Jvm.Cond.instantiable C kk).before a0 Z = true)
    (k : Kt p e below T st0 g) (hg : g.method = m) {rest : List Value} (hs : g.stack = v :: .ref a :: rest) (hd : decode c.code g.pc = .ok (.putfield index, 3)) (hty : parseFieldDescriptor d = some ty) (hn : narrow ty v = v) (hf : fits ty v = true) {n0 : Nat} (O0 : Old Z n0 h) (N : Fr n0 locs) (ge : n0 ≤ a) :
    ∃ T' h', Stand p l e R s m args below meth c T' (locs ++ [⟨a, Jvm.RoadKit.slotOf Z O n d⟩]) cells slots ∧ T'.heap = h' ∧ Wr h h' a (Jvm.RoadKit.slotOf Z O n d) v ∧ Fld Z h' a O n d v ∧ Old Z n0 h' ∧ Fr n0 (locs ++ [⟨a, Jvm.RoadKit.slotOf Z O n d⟩]) ∧ Kt p e below T' st0 { g with pc := g.pc + 3, stack := rest } := by
  obtain ⟨T', h', X', e', W, st⟩ := putF X hx hZ hown w via eT F E L wi hty hn hf hg hs hd
  exact ⟨T', h', X', e', W, F.same W, O0.wr W ge, Fr.snoc X' N ge, fun t q => k t (st t q)⟩
theorem kputN (X : Stand p l e R s m args below meth c T locs cells slots) (hx : p.tables.exec = Jvm.exec) (hZ : Z.Warmed39 s.vm) {own R0 O n d C : String} {index kk : Nat} (ty : FieldType) (hown : s.vm.findClass own = some m.cls) (w : (Jvm.Cond.fieldLink own index R0 n d).before a0 Z = true) (via : Via Z R0 O n d) (eT : T.heap = h) {a : Addr} {v v' old : Value} (F : Fld Z h a O n d old) (E : Exa Z h a C) (L : (Jvm.Cond.lays C O n d).before a0 Z = true ∨ ((Jvm.Cond.laysFinal C O n d).before a0 Z = true ∧ own = O ∧ meth.name = "<init>")) (wi : (Jvm.Cond.instantiable C kk).before a0 Z = true)
    (k : Kt p e below T st0 g) (hg : g.method = m) {rest : List Value} (hs : g.stack = v :: .ref a :: rest) (hd : decode c.code g.pc = .ok (.putfield index, 3)) (hty : parseFieldDescriptor d = some ty) (hn : narrow ty v = v') (hf : fits ty v' = true) {n0 : Nat} (O0 : Old Z n0 h) (N : Fr n0 locs) (ge : n0 ≤ a) :
    ∃ T' h', Stand p l e R s m args below meth c T' (locs ++ [⟨a, Jvm.RoadKit.slotOf Z O n d⟩]) cells slots ∧ T'.heap = h' ∧ Wr h h' a (Jvm.RoadKit.slotOf Z O n d) v' ∧ Fld Z h' a O n d v' ∧ Old Z n0 h' ∧ Fr n0 (locs ++ [⟨a, Jvm.RoadKit.slotOf Z O n d⟩]) ∧ Kt p e below T' st0 { g with pc := g.pc + 3, stack := rest } := by
  obtain ⟨T', h', X', e', W, st⟩ := putFN X hx hZ hown w via eT F E L wi hty hn hf hg hs hd
  exact ⟨T', h', X', e', W, F.same W, O0.wr W ge, Fr.snoc X' N ge, fun t q => k t (st t q)⟩
theorem kcast (X : Stand p l e R s m args below meth c T locs cells slots) (hx : p.tables.exec = Jvm.exec) (hZ : Z.Warmed39 s.vm) {own K : String} {index : Nat} (hown : s.vm.findClass own = some m.cls) (w : (Jvm.Cond.classLink own index K).before a0 Z = true) (eT : T.heap = h) {a : Addr} (F : Ins Z h a K true) (k : Kt p e below T st0 g) (hg : g.method = m) {rest : List Value} (hs : g.stack = .ref a :: rest) (hd : decode c.code g.pc = .ok (.checkcast index, 3)) :
    ∃ T', Stand p l e R s m args below meth c T' locs cells slots ∧ T'.heap = h ∧ Kt p e below T' st0 { g with pc := g.pc + 3 } := by
  obtain ⟨T', X', e', st⟩ := castY X hx hZ hown w eT F hg hs hd
  exact ⟨T', X', e', fun t q => k t (st t q)⟩
theorem kinst (X : Stand p l e R s m args below meth c T locs cells slots) (hx : p.tables.exec = Jvm.exec) (hZ : Z.Warmed39 s.vm) {own K : String} {index : Nat} (hown : s.vm.findClass own = some m.cls) (w : (Jvm.Cond.classLink own index K).before a0 Z = true) (eT : T.heap = h) {a : Addr} (F : Ins Z h a K true) (k : Kt p e below T st0 g) (hg : g.method = m) {rest : List Value} (hs : g.stack = .ref a :: rest) (hd : decode c.code g.pc = .ok (.instanceof index, 3)) :
    ∃ T', Stand p l e R s m args below meth c T' locs cells slots ∧ T'.heap = h ∧ Kt p e below T' st0 { g with pc := g.pc + 3, stack := .int 1 :: rest } := by
  obtain ⟨T', X', e', st⟩ := instY X hx hZ hown w eT F hg hs hd
  exact ⟨T', X', e', fun t q => k t (st t q)⟩
theorem knew (X : Stand p l e R s m args below meth c T locs cells slots) (hx : p.tables.exec = Jvm.exec) (hZ : Z.Warmed39 s.vm) {own C : String} {index n : Nat} (hown : s.vm.findClass own = some m.cls) (w : (Jvm.Cond.classLink own index C).before a0 Z = true) (wi : (Jvm.Cond.instantiable C n).before a0 Z = true) (wz : (Jvm.Cond.initialized C).before a0 Z = true) (eT : T.heap = h) (k : Kt p e below T st0 g) (hg : g.method = m) (hd : decode c.code g.pc = .ok (.new index, 3)) (hc : cells + 1 ≤ R.cells) (hl : slots + n ≤ R.slots) {n0 : Nat} (O0 : Old Z n0 h) :
    ∃ b T' h', h.size ≤ b ∧ n0 ≤ b ∧ Stand p l e R s m args below meth c T' locs (cells + 1) (slots + n) ∧ T'.heap = h' ∧ Ext h h' ∧ Old Z n0 h' ∧ Exa Z h' b C ∧ (∀ {O nm d : String} {ty : FieldType}, Jvm.RoadKit.Laid Z a0 C O nm d → parseFieldDescriptor d = some ty → Fld Z h' b O nm d (defaultValue ty)) ∧ (∃ cell : Cell, h'[b]? = some cell ∧ cell.vm = .none ∧ cell.monitor = {}) ∧ Kt p e below T' st0 { g with pc := g.pc + 3, stack := .ref b :: g.stack } := by
  obtain ⟨T', h', X', e', E, A, D, U, st⟩ := newO X hx hZ hown w wi wz eT hg hd hc hl
  exact ⟨h.size, T', h', Nat.le_refl _, Nat.le_trans (Nat.le_of_eq O0.1.symm) O0.2.1, X', e', E, O0.ext E, A, D, U, fun t q => k t (st t q)⟩
theorem knewP (X : Stand p l e R s m args below meth c T locs cells slots) (hx : p.tables.exec = Jvm.exec) (hZ : Z.Warmed39 s.vm) {aty : ArrayType} (w : (Jvm.Cond.arrayClass (newarray.typeOf aty)).before a0 Z = true) (eT : T.heap = h) (k : Kt p e below T st0 g) (hg : g.method = m) (hd : decode c.code g.pc = .ok (.newarray aty, 2)) {n : Int32} {rest : List Value} (hs : g.stack = .int n :: rest) (hn : ¬ n < 0) (cap : Nat) (hcap : n.toNatClampNeg ≤ cap) (hb : cap * 8 ≤ 536870912) (hc : cells + 1 ≤ R.cells) (hl : slots + cap ≤ R.slots) {n0 : Nat} (O0 : Old Z n0 h) :
    ∃ b T' h' cA, h.size ≤ b ∧ n0 ≤ b ∧ Stand p l e R s m args below meth c T' locs (cells + 1) (slots + cap) ∧ T'.heap = h' ∧ Ext h h' ∧ Old Z n0 h' ∧ Arv Z h' b cA (newarray.typeOf aty) n [] (defaultValue (newarray.typeOf aty)) ∧ Kt p e below T' st0 { g with pc := g.pc + 2, stack := .ref b :: rest } := by
  obtain ⟨T', h', cA, X', e', E, A, st⟩ := newP X hx hZ w eT hg hd hs hn hcap hb hc hl
  exact ⟨h.size, T', h', cA, Nat.le_refl _, Nat.le_trans (Nat.le_of_eq O0.1.symm) O0.2.1, X', e', E, O0.ext E, Arv.new A hn, fun t q => k t (st t q)⟩
theorem kinit (X : Stand p l e R s m args below meth c T locs cells slots) (hx : p.tables.exec = Jvm.exec) (hZ : Z.Warmed39 s.vm) {own : String} {idx : Nat} (hown : s.vm.findClass own = some m.cls) (w1 : (Jvm.Cond.methodLink own idx Lib.objectInit).before a0 Z = true) (w2 : (Jvm.Cond.instanceMethod Lib.objectInit).before a0 Z = true) (w3 : (Jvm.Cond.code Lib.objectInit ⟨#[0xb1]⟩ 1 none).before a0 Z = true) (eT : T.heap = h) (k : Kt p e below T st0 g) (hg : g.method = m) {M : Nat} (hml : c.maxLocals = M) (hsize : g.locals.size = M) {a : Addr} {rest : List Value} (hs : g.stack = .ref a :: rest) (hd : decode c.code g.pc = .ok (.invokespecial idx, 3)) (W : Nat) (hW : 2 * g.monitorRoom + (rest.map fun v => v.category).sum ≤ W) (hf : 1 ≤ R.frames) (hl : W + 12 ≤ R.locals) :
    ∃ T', Stand p l e R s m args below meth c T' locs cells slots ∧ T'.heap = h ∧ Kt p e below T' st0 { g with pc := g.pc + 3, stack := rest } := by
  obtain ⟨T', X', e', st⟩ := initO X hx hZ hown w1 w2 w3 eT hg (hsize.trans hml.symm) hs hd hf hW hl
  exact ⟨T', X', e', fun t q => k t (st t q)⟩
theorem kstC (X : Stand p l e R s m args below meth c T locs cells slots) (hx : p.tables.exec = Jvm.exec) (hZ : Z.Warmed39 s.vm) (eT : T.heap = h) {a : Addr} {ka : ClassId} {z : Int32} {vs : List Value} {dv : Value} (A : Arv Z h a ka .char z vs dv) {j x : Int32} (q1 : ¬ j < 0) (q2 : j < z) (i : Nat) (hj : j.toNatClampNeg = i) (hi : i < vs.length) (k : Kt p e below T st0 g) (hg : g.method = m) {rest : List Value} (hs : g.stack = .int x :: .int j :: .ref a :: rest) (hd : decode c.code g.pc = .ok (.castore, 1)) {n0 : Nat} (O0 : Old Z n0 h) (N : Fr n0 locs) (ge : n0 ≤ a) :
    ∃ T' h', Stand p l e R s m args below meth c T' (locs ++ [⟨a, j.toNatClampNeg⟩]) cells slots ∧ T'.heap = h' ∧ Wr h h' a j.toNatClampNeg (.int (nar .char x)) ∧ Arv Z h' a ka .char z (vs.set i (.int (nar .char x))) dv ∧ Old Z n0 h' ∧ Fr n0 (locs ++ [⟨a, j.toNatClampNeg⟩]) ∧ Kt p e below T' st0 { g with pc := g.pc + 1, stack := rest } := by
  obtain ⟨cl, Ar, b1, S, M, H, G⟩ := A
  obtain ⟨T', h', X', e', W, st⟩ := stC X hx hZ eT Ar (inb_of S ⟨q1, q2⟩) hg hs hd
  exact ⟨T', h', X', e', W, Arv.set Ar b1 S M H G (fits_nar_char _) W i hj hi, O0.wr W ge, Fr.snoc X' N ge, fun t q => k t (st t q)⟩
theorem kstB (X : Stand p l e R s m args below meth c T locs cells slots) (hx : p.tables.exec = Jvm.exec) (hZ : Z.Warmed39 s.vm) (eT : T.heap = h) {a : Addr} {ka : ClassId} {z : Int32} {vs : List Value} {dv : Value} (A : Arv Z h a ka .byte z vs dv) {j x : Int32} (q1 : ¬ j < 0) (q2 : j < z) (i : Nat) (hj : j.toNatClampNeg = i) (hi : i < vs.length) (k : Kt p e below T st0 g) (hg : g.method = m) {rest : List Value} (hs : g.stack = .int x :: .int j :: .ref a :: rest) (hd : decode c.code g.pc = .ok (.bastore, 1)) {n0 : Nat} (O0 : Old Z n0 h) (N : Fr n0 locs) (ge : n0 ≤ a) :
    ∃ T' h', Stand p l e R s m args below meth c T' (locs ++ [⟨a, j.toNatClampNeg⟩]) cells slots ∧ T'.heap = h' ∧ Wr h h' a j.toNatClampNeg (.int (nar .byte x)) ∧ Arv Z h' a ka .byte z (vs.set i (.int (nar .byte x))) dv ∧ Old Z n0 h' ∧ Fr n0 (locs ++ [⟨a, j.toNatClampNeg⟩]) ∧ Kt p e below T' st0 { g with pc := g.pc + 1, stack := rest } := by
  obtain ⟨cl, Ar, b1, S, M, H, G⟩ := A
  obtain ⟨T', h', X', e', W, st⟩ := stB X hx hZ eT Ar (inb_of S ⟨q1, q2⟩) hg hs hd
  exact ⟨T', h', X', e', W, Arv.set Ar b1 S M H G (fits_nar_byte _) W i hj hi, O0.wr W ge, Fr.snoc X' N ge, fun t q => k t (st t q)⟩
theorem kstI (X : Stand p l e R s m args below meth c T locs cells slots) (hx : p.tables.exec = Jvm.exec) (hZ : Z.Warmed39 s.vm) (eT : T.heap = h) {a : Addr} {ka : ClassId} {z : Int32} {vs : List Value} {dv : Value} (A : Arv Z h a ka .int z vs dv) {j x : Int32} (q1 : ¬ j < 0) (q2 : j < z) (i : Nat) (hj : j.toNatClampNeg = i) (hi : i < vs.length) (k : Kt p e below T st0 g) (hg : g.method = m) {rest : List Value} (hs : g.stack = .int x :: .int j :: .ref a :: rest) (hd : decode c.code g.pc = .ok (.iastore, 1)) {n0 : Nat} (O0 : Old Z n0 h) (N : Fr n0 locs) (ge : n0 ≤ a) :
    ∃ T' h', Stand p l e R s m args below meth c T' (locs ++ [⟨a, j.toNatClampNeg⟩]) cells slots ∧ T'.heap = h' ∧ Wr h h' a j.toNatClampNeg (.int x) ∧ Arv Z h' a ka .int z (vs.set i (.int x)) dv ∧ Old Z n0 h' ∧ Fr n0 (locs ++ [⟨a, j.toNatClampNeg⟩]) ∧ Kt p e below T' st0 { g with pc := g.pc + 1, stack := rest } := by
  obtain ⟨cl, Ar, b1, S, M, H, G⟩ := A
  obtain ⟨T', h', X', e', W, st⟩ := stI X hx hZ eT Ar (inb_of S ⟨q1, q2⟩) hg hs hd
  exact ⟨T', h', X', e', W, Arv.set Ar b1 S M H G rfl W i hj hi, O0.wr W ge, Fr.snoc X' N ge, fun t q => k t (st t q)⟩
theorem ldC {t : State} (X : Stand p l e R s m args below meth c T locs cells slots) (hx : p.tables.exec = Jvm.exec) (hZ : Z.Warmed39 s.vm) (eT : T.heap = h) {a : Addr} {ka : ClassId} {z : Int32} {vs : List Value} {dv v : Value} (A : Arv Z h a ka .char z vs dv) {j : Int32} (q1 : ¬ j < 0) (q2 : j < z) (hv : vs.getD j.toNatClampNeg dv = v) (hg : g.method = m) {rest : List Value} (hs : g.stack = .int j :: .ref a :: rest) (hd : decode c.code g.pc = .ok (.caload, 1)) (q : Steps p.tables e below (T.setTop { g with pc := g.pc + 1, stack := v :: rest }) t) : Steps p.tables e below (T.setTop g) t := by
  obtain ⟨cl, Ar, b1, S, M, H, G⟩ := A
  exact X.caload hx (by rw [eT]; exact Ar.1) (State.isArrayOf_alike hZ.alike Ar.2.1) Ar.2.2 (inb_of S ⟨q1, q2⟩) (Has.at H (inb_of S ⟨q1, q2⟩) hv) hg hs hd _ q
theorem ldB {t : State} (X : Stand p l e R s m args below meth c T locs cells slots) (hx : p.tables.exec = Jvm.exec) (hZ : Z.Warmed39 s.vm) (eT : T.heap = h) {a : Addr} {ka : ClassId} {z : Int32} {vs : List Value} {dv v : Value} (A : Arv Z h a ka .byte z vs dv) {j : Int32} (q1 : ¬ j < 0) (q2 : j < z) (hv : vs.getD j.toNatClampNeg dv = v) (hg : g.method = m) {rest : List Value} (hs : g.stack = .int j :: .ref a :: rest) (hd : decode c.code g.pc = .ok (.baload, 1)) (q : Steps p.tables e below (T.setTop { g with pc := g.pc + 1, stack := v :: rest }) t) : Steps p.tables e below (T.setTop g) t := by
  obtain ⟨cl, Ar, b1, S, M, H, G⟩ := A
  exact X.baloadBytes hx (by rw [eT]; exact Ar.1) (State.isArrayOf_alike hZ.alike Ar.2.1) Ar.2.2 (inb_of S ⟨q1, q2⟩) (Has.at H (inb_of S ⟨q1, q2⟩) hv) hg hs hd _ q
theorem ldI {t : State} (X : Stand p l e R s m args below meth c T locs cells slots) (hx : p.tables.exec = Jvm.exec) (hZ : Z.Warmed39 s.vm) (eT : T.heap = h) {a : Addr} {ka : ClassId} {z : Int32} {vs : List Value} {dv v : Value} (A : Arv Z h a ka .int z vs dv) {j : Int32} (q1 : ¬ j < 0) (q2 : j < z) (hv : vs.getD j.toNatClampNeg dv = v) (hg : g.method = m) {rest : List Value} (hs : g.stack = .int j :: .ref a :: rest) (hd : decode c.code g.pc = .ok (.iaload, 1)) (q : Steps p.tables e below (T.setTop { g with pc := g.pc + 1, stack := v :: rest }) t) : Steps p.tables e below (T.setTop g) t := by
  obtain ⟨cl, Ar, b1, S, M, H, G⟩ := A
  exact X.iaload hx (by rw [eT]; exact Ar.1) (State.isArrayOf_alike hZ.alike Ar.2.1) Ar.2.2 (inb_of S ⟨q1, q2⟩) (Has.at H (inb_of S ⟨q1, q2⟩) hv) hg hs hd _ q
theorem ldA {t : State} (X : Stand p l e R s m args below meth c T locs cells slots) (hx : p.tables.exec = Jvm.exec) (hZ : Z.Warmed39 s.vm) (eT : T.heap = h) {a : Addr} {ka : ClassId} {C : String} {z : Int32} {vs : List Value} {dv v : Value} (A : Arv Z h a ka (.object C) z vs dv) {j : Int32} (q1 : ¬ j < 0) (q2 : j < z) (hv : vs.getD j.toNatClampNeg dv = v) (hg : g.method = m) {rest : List Value} (hs : g.stack = .int j :: .ref a :: rest) (hd : decode c.code g.pc = .ok (.aaload, 1)) (q : Steps p.tables e below (T.setTop { g with pc := g.pc + 1, stack := v :: rest }) t) : Steps p.tables e below (T.setTop g) t := by
  obtain ⟨cl, Ar, b1, S, M, H, G⟩ := A
  exact X.aaload hx (by rw [eT]; exact Ar.1) (State.isArrayOf_alike hZ.alike Ar.2.1) rfl Ar.2.2 (inb_of S ⟨q1, q2⟩) (Has.at H (inb_of S ⟨q1, q2⟩) hv) hg hs hd _ q
theorem ldLen {t : State} (X : Stand p l e R s m args below meth c T locs cells slots) (hx : p.tables.exec = Jvm.exec) (hZ : Z.Warmed39 s.vm) (eT : T.heap = h) {a : Addr} {ka : ClassId} {ty : FieldType} {z : Int32} {vs : List Value} {dv : Value} (A : Arv Z h a ka ty z vs dv) (hg : g.method = m) {rest : List Value} (hs : g.stack = .ref a :: rest) (hd : decode c.code g.pc = .ok (.arraylength, 1)) (q : Steps p.tables e below (T.setTop { g with pc := g.pc + 1, stack := .int z :: rest }) t) : Steps p.tables e below (T.setTop g) t := by
  obtain ⟨cl, Ar, b1, S, M, H, G⟩ := A
  refine X.arraylength hx (by rw [eT]; exact Ar.1) (State.isArrayOf_alike hZ.alike Ar.2.1) hg hs hd _ ?_
  rw [len_of S M]; exact q
variable {y z : MethodName} {bytes : ByteArray} {ml : Nat} {rt : Option FieldType} {rm : Room} {as' : Array Value} {Q : Option Value → Heap → List Loc → Prop}
theorem kstat (X : Stand p l e R s m args below meth c T locs cells slots) (hx : p.tables.exec = Jvm.exec) (hZ : Z.Warmed39 s.vm) {own : String} {index : Nat} (hown : s.vm.findClass own = some m.cls) (w1 : (Jvm.Cond.methodLink own index y).before a0 Z = true) (w2 : (Jvm.Cond.static y).before a0 Z = true) (w3 : (Jvm.Cond.initialized y.cls).before a0 Z = true) (w4 : (Jvm.Cond.code y bytes ml rt).before a0 Z = true) (hM : MFP l Z y bytes ml rt rm [] as' h Q) (eT : T.heap = h) (k : Kt p e below T st0 g) {M : Nat} (hml : c.maxLocals = M) {ps : List FieldType} {r : Option FieldType} (pd : parseMethodDescriptor y.desc = some ⟨ps, r⟩) (argsL rest : List Value) (W : Nat) (hd : decode c.code g.pc = .ok (.invokestatic index, 3))
    (hg : g.method = m) (hsize : g.locals.size = M) (hln : argsL.length = ps.length) (hst : g.stack = argsL.reverse ++ rest) (ha : argsL.toArray = as') (hW : 2 * g.monitorRoom + (rest.map fun v => v.category).sum = W) (hy : y.cls ≠ "java/lang/invoke/MethodHandle" ∧ y.cls ≠ "java/lang/invoke/VarHandle" := by decide) (hf : rm.frames + 1 ≤ R.frames := by decide) (hl : W + (ml + 11) + rm.locals ≤ R.locals := by decide) (hc : cells + rm.cells ≤ R.cells := by decide) (hs : slots + rm.slots ≤ R.slots := by decide) :
    ∃ v T' L', Stand p l e R s m args below meth c T' (locs ++ L') (cells + rm.cells) (slots + rm.slots) ∧ Q v T'.heap L' ∧ Kt p e below T' st0 { g with pc := g.pc + 3, stack := v.toList ++ rest } := by
  obtain ⟨v, _, ⟨T', L, k', n'⟩, -, X', ⟨Lc, hQ, e1, e2, e3⟩, st⟩ := Jvm.LawKit.callS X hx hown (mvT hZ w1) (mvT hZ w2) (mvT hZ w3) (mvT hZ w4) hy (backOf (W := W) hM hZ w4 w3 hf hl) hg (hsize.trans hml.symm) (argsL := argsL) (rest := rest) (lenOf pd hln) hst (Nat.le_of_eq hW) hd (fun _ _ => ⟨ha, eT, hc, hs⟩)
  dsimp only [Pt.U, Pt.locs, Pt.cells, Pt.slots] at X' e1 e2 e3 st hQ
  subst e1 e2 e3
  exact ⟨v, T', Lc, X', hQ, fun t q => k t (st t q)⟩
theorem kspec (X : Stand p l e R s m args below meth c T locs cells slots) (hx : p.tables.exec = Jvm.exec) (hZ : Z.Warmed39 s.vm) {own : String} {index : Nat} (hown : s.vm.findClass own = some m.cls) (w1 : (Jvm.Cond.methodLink own index y).before a0 Z = true) (w2 : (Jvm.Cond.instanceMethod y).before a0 Z = true) (w3 : (Jvm.Cond.initialized y.cls).before a0 Z = true) (w4 : (Jvm.Cond.code y bytes ml none).before a0 Z = true) (hM : MFP l Z y bytes ml none rm [] as' h Q) (eT : T.heap = h) (k : Kt p e below T st0 g) {M : Nat} (hml : c.maxLocals = M) {ps : List FieldType} {r : Option FieldType} (pd : parseMethodDescriptor y.desc = some ⟨ps, r⟩) (a : Addr) (argsL rest : List Value) (W : Nat) (hd : decode c.code g.pc = .ok (.invokespecial index, 3))
    (hg : g.method = m) (hsize : g.locals.size = M) (hln : argsL.length = ps.length) (hst : g.stack = argsL.reverse ++ .ref a :: rest) (ha : (Value.ref a :: argsL).toArray = as') (hW : 2 * g.monitorRoom + (rest.map fun v => v.category).sum = W) (hy1 : y.name = "<init>" := by rfl) (hy : y.cls ≠ "java/lang/invoke/MethodHandle" ∧ y.cls ≠ "java/lang/invoke/VarHandle" := by decide) (hf : rm.frames + 1 ≤ R.frames := by decide) (hl : W + (ml + 11) + rm.locals ≤ R.locals := by decide) (hc : cells + rm.cells ≤ R.cells := by decide) (hs : slots + rm.slots ≤ R.slots := by decide) :
    ∃ v T' L', Stand p l e R s m args below meth c T' (locs ++ L') (cells + rm.cells) (slots + rm.slots) ∧ Q v T'.heap L' ∧ Kt p e below T' st0 { g with pc := g.pc + 3, stack := v.toList ++ rest } := by
  obtain ⟨v, _, ⟨T', L, k', n'⟩, -, X', ⟨Lc, hQ, e1, e2, e3⟩, st⟩ := X.specialBack hx hy1 hown (mvT hZ w1) (mvT hZ w2) (mvT hZ w4) hy (backOf (W := W) hM hZ w4 w3 hf hl) hg (hsize.trans hml.symm) (Steps.refl _) (a := a) (argsL := argsL) (rest := rest) (lenOf pd hln) hst (Nat.le_of_eq hW) hd (fun _ _ => ⟨ha, eT, hc, hs⟩)
  dsimp only [Pt.U, Pt.locs, Pt.cells, Pt.slots] at X' e1 e2 e3 st hQ
  subst e1 e2 e3
  exact ⟨v, T', Lc, X', hQ, fun t q => k t (st.trans q)⟩
theorem kvirt (X : Stand p l e R s m args below meth c T locs cells slots) (hx : p.tables.exec = Jvm.exec) (hZ : Z.Warmed39 s.vm) {own C : String} {index : Nat} (hown : s.vm.findClass own = some m.cls) (w1 : (Jvm.Cond.methodLink own index y).before a0 Z = true) (w2 : (Jvm.Cond.declares y).before a0 Z = true) (w3 : (Jvm.Cond.selects C y y).before a0 Z = true) (w4 : (Jvm.Cond.instanceMethod y).before a0 Z = true) (w5 : (Jvm.Cond.code y bytes ml rt).before a0 Z = true) (w6 : (Jvm.Cond.initialized y.cls).before a0 Z = true) (hM : MFP l Z y bytes ml rt rm [] as' h Q) (eT : T.heap = h) {b : Addr} (E : Exa Z h b C) (k : Kt p e below T st0 g) {M : Nat} (hml : c.maxLocals = M) {ps : List FieldType} {r : Option FieldType} (pd : parseMethodDescriptor y.desc = some ⟨ps, r⟩) (argsL rest : List Value) (W : Nat) (hd : decode c.code g.pc = .ok (.invokevirtual index, 3))
    (hg : g.method = m) (hsize : g.locals.size = M) (hln : argsL.length = ps.length) (hst : g.stack = argsL.reverse ++ .ref b :: rest) (ha : (Value.ref b :: argsL).toArray = as') (hW : 2 * g.monitorRoom + (rest.map fun v => v.category).sum = W) (hy : y.cls ≠ "java/lang/invoke/MethodHandle" ∧ y.cls ≠ "java/lang/invoke/VarHandle" := by decide) (hf : rm.frames + 1 ≤ R.frames := by decide) (hl : W + (ml + 11) + rm.locals ≤ R.locals := by decide) (hc : cells + rm.cells ≤ R.cells := by decide) (hs : slots + rm.slots ≤ R.slots := by decide) :
    ∃ v T' L', Stand p l e R s m args below meth c T' (locs ++ L') (cells + rm.cells) (slots + rm.slots) ∧ Q v T'.heap L' ∧ Kt p e below T' st0 { g with pc := g.pc + 3, stack := v.toList ++ rest } := by
  obtain ⟨cB, kB, qa, qb, qc⟩ := isOf hZ eT E
  obtain ⟨v, _, ⟨T', L, k', n'⟩, -, X', ⟨Lc, hQ, e1, e2, e3⟩, st⟩ := X.virtualBack hx (y := y) (z := y) hown (mvT hZ w1) (mvT hZ w2) (notFace_of_selects (args := #[]) (mvT hZ w3)) (mvT hZ w3) (mvT hZ w4) hy (backOf (W := W) hM hZ w5 w6 hf hl) qa qc hg (hsize.trans hml.symm) (Steps.refl _) (argsL := argsL) (rest := rest) (lenOf pd hln) hst (Nat.le_of_eq hW) hd (fun _ _ => ⟨ha, eT, hc, hs⟩)
  dsimp only [Pt.U, Pt.locs, Pt.cells, Pt.slots] at X' e1 e2 e3 st hQ
  subst e1 e2 e3
  exact ⟨v, T', Lc, X', hQ, fun t q => k t (st.trans q)⟩
theorem kface (X : Stand p l e R s m args below meth c T locs cells slots) (hx : p.tables.exec = Jvm.exec) (hZ : Z.Warmed39 s.vm) {own C : String} {index count : Nat} (hown : s.vm.findClass own = some m.cls) (w1 : (Jvm.Cond.methodLink own index y).before a0 Z = true) (w2 : (Jvm.Cond.declares y).before a0 Z = true) (w3 : (Jvm.Cond.interfaceMethod y.cls y.cls y.name y.desc).before a0 Z = true) (w4 : (Jvm.Cond.selects C y z).before a0 Z = true) (w5 : (Jvm.Cond.instanceMethod z).before a0 Z = true) (w6 : (Jvm.Cond.publicMethod z).before a0 Z = true) (w7 : (Jvm.Cond.unhidden C y.name y.desc).before a0 Z = true) (w8 : (Jvm.Cond.castable C y.cls).before a0 Z = true) (w9 : (Jvm.Cond.code z bytes ml rt).before a0 Z = true) (w10 : (Jvm.Cond.initialized z.cls).before a0 Z = true) (hM : MFP l Z z bytes ml rt rm [] as' h Q) (eT : T.heap = h) {b : Addr} (E : Exa Z h b C) (k : Kt p e below T st0 g) {M : Nat} (hml : c.maxLocals = M) {ps : List FieldType} {r : Option FieldType} (pd : parseMethodDescriptor y.desc = some ⟨ps, r⟩) (argsL rest : List Value) (W : Nat) (hd : decode c.code g.pc = .ok (.invokeinterface index count, 5))
    (hg : g.method = m) (hsize : g.locals.size = M) (hln : argsL.length = ps.length) (hst : g.stack = argsL.reverse ++ .ref b :: rest) (ha : (Value.ref b :: argsL).toArray = as') (hW : 2 * g.monitorRoom + (rest.map fun v => v.category).sum = W) (hy : y.cls ≠ "java/lang/invoke/MethodHandle" ∧ y.cls ≠ "java/lang/invoke/VarHandle" := by decide) (hf : rm.frames + 1 ≤ R.frames := by decide) (hl : W + (ml + 11) + rm.locals ≤ R.locals := by decide) (hc : cells + rm.cells ≤ R.cells := by decide) (hs : slots + rm.slots ≤ R.slots := by decide) :
    ∃ v T' L', Stand p l e R s m args below meth c T' (locs ++ L') (cells + rm.cells) (slots + rm.slots) ∧ Q v T'.heap L' ∧ Kt p e below T' st0 { g with pc := g.pc + 5, stack := v.toList ++ rest } := by
  obtain ⟨cB, kB, qa, qb, qc⟩ := isOf hZ eT E
  obtain ⟨v, _, ⟨T', L, k', n'⟩, -, X', ⟨Lc, hQ, e1, e2, e3⟩, st⟩ := X.interfaceBack hx (xi := y) (y := z) hown (mvT hZ w1) (mvT hZ w2) (mvT hZ w3 (by simp [Jvm.Cond.onTables, Jvm.Cond.keepsFace, Jvm.Cond.keeps, Jvm.Cond.steady, Jvm.Cond.faceAtom, hy.1, hy.2])) (mvT hZ w4) (mvT hZ w5) (mvT hZ w6) (mvT hZ w7) (mvT hZ w8) hy (backOf (W := W) hM hZ w9 w10 hf hl) qa qb qc hg (hsize.trans hml.symm) (Steps.refl _) (argsL := argsL) (rest := rest) (lenOf pd hln) hst (Nat.le_of_eq hW) hd (fun _ _ => ⟨ha, eT, hc, hs⟩)
  dsimp only [Pt.U, Pt.locs, Pt.cells, Pt.slots] at X' e1 e2 e3 st hQ
  subst e1 e2 e3
  exact ⟨v, T', Lc, X', hQ, fun t q => k t (st.trans q)⟩
end KL
abbrev vi (x : Int32) : Slot := .val (.int x)
abbrev vr (a : Addr) : Slot := .val (.ref a)
abbrev vj (x : Int64) : Slot := .val (.long x)
abbrev ii (x : Int32) : Value := .int x
abbrev rr (a : Addr) : Value := .ref a
abbrev u_ : Slot := .unset
abbrev S_ (p : Program) (e : Env) (below : List Frame) (T : State) (m : MethodId) (pc : Nat) (L : Array Slot) (S : List Value) (t : State) : Prop := Steps p.tables e below (T.setTop (mkF m pc L S)) t
abbrev nm0 : String := "java/lang/String"
abbrev nm1 : String := "java/lang/StringUTF16"
abbrev nm2 : String := "jdk/internal/util/Preconditions"
abbrev nm3 : String := "com/example/countersign/countersign/Utf8"
abbrev nm4 : String := "Ljava/util/function/BiFunction;"
abbrev nm10 : String := "com/example/countersign/countersign/Utf8IsAsciiPinLaw"
abbrev HW (Z : State) (a0 : Array Value) : Prop := ∀ d ∈ tables_1, d.before a0 Z = true
theorem w0 {Z a0} (hw : HW Z a0) : (Jvm.Cond.constant nm10 (7 : Nat) (2147483647 : Int32)).before a0 Z = true := hw _ (List.mem_of_getElem? (i := 0) rfl)
theorem w1 {Z a0} (hw : HW Z a0) : (Jvm.Cond.constant nm10 (8 : Nat) (65535 : Int32)).before a0 Z = true := hw _ (List.mem_of_getElem? (i := 1) rfl)
theorem w2 {Z a0} (hw : HW Z a0) : (Jvm.Cond.arrayClass Jvm.ClassFile.FieldType.char).before a0 Z = true := hw _ (List.mem_of_getElem? (i := 2) rfl)
theorem w3 {Z a0} (hw : HW Z a0) : (Jvm.Cond.classLink nm10 (9 : Nat) nm0).before a0 Z = true := hw _ (List.mem_of_getElem? (i := 3) rfl)
theorem w4 {Z a0} (hw : HW Z a0) : (Jvm.Cond.instantiable nm0 (4 : Nat)).before a0 Z = true := hw _ (List.mem_of_getElem? (i := 4) rfl)
theorem w5 {Z a0} (hw : HW Z a0) : (Jvm.Cond.initialized nm0).before a0 Z = true := hw _ (List.mem_of_getElem? (i := 5) rfl)
theorem w6 {Z a0} (hw : HW Z a0) : (Jvm.Cond.methodLink nm10 (11 : Nat) ({ cls := nm0, name := "<init>", desc := "([C)V" } : Jvm.MethodName)).before a0 Z = true := hw _ (List.mem_of_getElem? (i := 6) rfl)
theorem w7 {Z a0} (hw : HW Z a0) : (Jvm.Cond.instanceMethod ({ cls := nm0, name := "<init>", desc := "([C)V" } : Jvm.MethodName)).before a0 Z = true := hw _ (List.mem_of_getElem? (i := 7) rfl)
theorem w8 {Z a0} (hw : HW Z a0) : (Jvm.Cond.code ({ cls := nm0, name := "<init>", desc := "([C)V" } : Jvm.MethodName) jdk_42_method_3_code (2 : Nat) (Option.none : Option Jvm.ClassFile.FieldType)).before a0 Z = true := hw _ (List.mem_of_getElem? (i := 8) rfl)
theorem w9 {Z a0} (hw : HW Z a0) : (Jvm.Cond.methodLink nm0 (27 : Nat) ({ cls := nm0, name := "<init>", desc := "([CIILjava/lang/Void;)V" } : Jvm.MethodName)).before a0 Z = true := hw _ (List.mem_of_getElem? (i := 9) rfl)
theorem w10 {Z a0} (hw : HW Z a0) : (Jvm.Cond.instanceMethod ({ cls := nm0, name := "<init>", desc := "([CIILjava/lang/Void;)V" } : Jvm.MethodName)).before a0 Z = true := hw _ (List.mem_of_getElem? (i := 10) rfl)
theorem w12 {Z a0} (hw : HW Z a0) : (Jvm.Cond.code ({ cls := nm0, name := "<init>", desc := "([CIILjava/lang/Void;)V" } : Jvm.MethodName) jdk_42_method_149_code (6 : Nat) (Option.none : Option Jvm.ClassFile.FieldType)).before a0 Z = true := hw _ (List.mem_of_getElem? (i := 12) rfl)
theorem w13 {Z a0} (hw : HW Z a0) : (Jvm.Cond.methodLink nm0 (1 : Nat) ({ cls := "java/lang/Object", name := "<init>", desc := "()V" } : Jvm.MethodName)).before a0 Z = true := hw _ (List.mem_of_getElem? (i := 13) rfl)
theorem w14 {Z a0} (hw : HW Z a0) : (Jvm.Cond.instanceMethod ({ cls := "java/lang/Object", name := "<init>", desc := "()V" } : Jvm.MethodName)).before a0 Z = true := hw _ (List.mem_of_getElem? (i := 14) rfl)
theorem w15 {Z a0} (hw : HW Z a0) : (Jvm.Cond.code ({ cls := "java/lang/Object", name := "<init>", desc := "()V" } : Jvm.MethodName) object_method_1_code (1 : Nat) (Option.none : Option Jvm.ClassFile.FieldType)).before a0 Z = true := hw _ (List.mem_of_getElem? (i := 15) rfl)
theorem w16 {Z a0} (hw : HW Z a0) : (Jvm.Cond.stringLink nm0 (7 : Nat) "").before a0 Z = true := hw _ (List.mem_of_getElem? (i := 16) rfl)
theorem w17 {Z a0} (hw : HW Z a0) : (Jvm.Cond.arrayClass Jvm.ClassFile.FieldType.byte).before a0 Z = true := hw _ (List.mem_of_getElem? (i := 17) rfl)
theorem w18 {Z a0} (hw : HW Z a0) : (Jvm.Cond.laysFinal nm0 nm0 "value" "[B").before a0 Z = true := hw _ (List.mem_of_getElem? (i := 18) rfl)
theorem w19 {Z a0} (hw : HW Z a0) : (Jvm.Cond.laysFinal nm0 nm0 "coder" "B").before a0 Z = true := hw _ (List.mem_of_getElem? (i := 19) rfl)
theorem w22 {Z a0} (hw : HW Z a0) : (Jvm.Cond.fieldLink nm0 (9 : Nat) nm0 "value" "[B").before a0 Z = true := hw _ (List.mem_of_getElem? (i := 22) rfl)
theorem w23 {Z a0} (hw : HW Z a0) : (Jvm.Cond.fieldLink nm0 (15 : Nat) nm0 "coder" "B").before a0 Z = true := hw _ (List.mem_of_getElem? (i := 23) rfl)
theorem w24 {Z a0} (hw : HW Z a0) : (Jvm.Cond.methodLink nm10 (14 : Nat) ({ cls := nm3, name := "isAscii", desc := "(Ljava/lang/String;)Z" } : Jvm.MethodName)).before a0 Z = true := hw _ (List.mem_of_getElem? (i := 24) rfl)
theorem w25 {Z a0} (hw : HW Z a0) : (Jvm.Cond.static ({ cls := nm3, name := "isAscii", desc := "(Ljava/lang/String;)Z" } : Jvm.MethodName)).before a0 Z = true := hw _ (List.mem_of_getElem? (i := 25) rfl)
theorem w26 {Z a0} (hw : HW Z a0) : (Jvm.Cond.initialized nm3).before a0 Z = true := hw _ (List.mem_of_getElem? (i := 26) rfl)
theorem w27 {Z a0} (hw : HW Z a0) : (Jvm.Cond.code ({ cls := nm3, name := "isAscii", desc := "(Ljava/lang/String;)Z" } : Jvm.MethodName) prog_48_method_3_code (2 : Nat) (Option.some Jvm.ClassFile.FieldType.boolean)).before a0 Z = true := hw _ (List.mem_of_getElem? (i := 27) rfl)
theorem w28 {Z a0} (hw : HW Z a0) : (Jvm.Cond.methodLink nm3 (58 : Nat) ({ cls := nm0, name := "length", desc := "()I" } : Jvm.MethodName)).before a0 Z = true := hw _ (List.mem_of_getElem? (i := 28) rfl)
theorem w29 {Z a0} (hw : HW Z a0) : (Jvm.Cond.declares ({ cls := nm0, name := "length", desc := "()I" } : Jvm.MethodName)).before a0 Z = true := hw _ (List.mem_of_getElem? (i := 29) rfl)
theorem w30 {Z a0} (hw : HW Z a0) : (Jvm.Cond.instanceMethod ({ cls := nm0, name := "length", desc := "()I" } : Jvm.MethodName)).before a0 Z = true := hw _ (List.mem_of_getElem? (i := 30) rfl)
theorem w31 {Z a0} (hw : HW Z a0) : (Jvm.Cond.selects nm0 ({ cls := nm0, name := "length", desc := "()I" } : Jvm.MethodName) ({ cls := nm0, name := "length", desc := "()I" } : Jvm.MethodName)).before a0 Z = true := hw _ (List.mem_of_getElem? (i := 31) rfl)
theorem w32 {Z a0} (hw : HW Z a0) : (Jvm.Cond.code ({ cls := nm0, name := "length", desc := "()I" } : Jvm.MethodName) jdk_42_method_54_code (1 : Nat) (Option.some Jvm.ClassFile.FieldType.int)).before a0 Z = true := hw _ (List.mem_of_getElem? (i := 32) rfl)
theorem w33 {Z a0} (hw : HW Z a0) : (Jvm.Cond.methodLink nm0 (335 : Nat) ({ cls := nm0, name := "coder", desc := "()B" } : Jvm.MethodName)).before a0 Z = true := hw _ (List.mem_of_getElem? (i := 33) rfl)
theorem w34 {Z a0} (hw : HW Z a0) : (Jvm.Cond.declares ({ cls := nm0, name := "coder", desc := "()B" } : Jvm.MethodName)).before a0 Z = true := hw _ (List.mem_of_getElem? (i := 34) rfl)
theorem w35 {Z a0} (hw : HW Z a0) : (Jvm.Cond.instanceMethod ({ cls := nm0, name := "coder", desc := "()B" } : Jvm.MethodName)).before a0 Z = true := hw _ (List.mem_of_getElem? (i := 35) rfl)
theorem w36 {Z a0} (hw : HW Z a0) : (Jvm.Cond.selects nm0 ({ cls := nm0, name := "coder", desc := "()B" } : Jvm.MethodName) ({ cls := nm0, name := "coder", desc := "()B" } : Jvm.MethodName)).before a0 Z = true := hw _ (List.mem_of_getElem? (i := 36) rfl)
theorem w37 {Z a0} (hw : HW Z a0) : (Jvm.Cond.code ({ cls := nm0, name := "coder", desc := "()B" } : Jvm.MethodName) jdk_42_method_152_code (1 : Nat) (Option.some Jvm.ClassFile.FieldType.byte)).before a0 Z = true := hw _ (List.mem_of_getElem? (i := 37) rfl)
theorem w38 {Z a0} (hw : HW Z a0) : (Jvm.Cond.fieldLink nm0 (38 : Nat) nm0 "COMPACT_STRINGS" "Z").before a0 Z = true := hw _ (List.mem_of_getElem? (i := 38) rfl)
theorem w39 {Z a0} (hw : HW Z a0) : (Jvm.Cond.methodLink nm0 (177 : Nat) ({ cls := nm1, name := "compress", desc := "([CII)[B" } : Jvm.MethodName)).before a0 Z = true := hw _ (List.mem_of_getElem? (i := 39) rfl)
theorem w40 {Z a0} (hw : HW Z a0) : (Jvm.Cond.static ({ cls := nm1, name := "compress", desc := "([CII)[B" } : Jvm.MethodName)).before a0 Z = true := hw _ (List.mem_of_getElem? (i := 40) rfl)
theorem w41 {Z a0} (hw : HW Z a0) : (Jvm.Cond.initialized nm1).before a0 Z = true := hw _ (List.mem_of_getElem? (i := 41) rfl)
theorem w42 {Z a0} (hw : HW Z a0) : (Jvm.Cond.code ({ cls := nm1, name := "compress", desc := "([CII)[B" } : Jvm.MethodName) jdk_52_method_16_code (6 : Nat) (Option.some (Jvm.ClassFile.FieldType.array Jvm.ClassFile.FieldType.byte))).before a0 Z = true := hw _ (List.mem_of_getElem? (i := 42) rfl)
theorem w43 {Z a0} (hw : HW Z a0) : (Jvm.Cond.methodLink nm1 (115 : Nat) ({ cls := nm1, name := "compress", desc := "([CI[BII)I" } : Jvm.MethodName)).before a0 Z = true := hw _ (List.mem_of_getElem? (i := 43) rfl)
theorem w44 {Z a0} (hw : HW Z a0) : (Jvm.Cond.static ({ cls := nm1, name := "compress", desc := "([CI[BII)I" } : Jvm.MethodName)).before a0 Z = true := hw _ (List.mem_of_getElem? (i := 44) rfl)
theorem w45 {Z a0} (hw : HW Z a0) : (Jvm.Cond.code ({ cls := nm1, name := "compress", desc := "([CI[BII)I" } : Jvm.MethodName) jdk_52_method_21_code (7 : Nat) (Option.some Jvm.ClassFile.FieldType.int)).before a0 Z = true := hw _ (List.mem_of_getElem? (i := 45) rfl)
theorem w46 {Z a0} (hw : HW Z a0) : (Jvm.Cond.methodLink nm0 (47 : Nat) ({ cls := nm1, name := "coderFromArrayLen", desc := "([BI)B" } : Jvm.MethodName)).before a0 Z = true := hw _ (List.mem_of_getElem? (i := 46) rfl)
theorem w47 {Z a0} (hw : HW Z a0) : (Jvm.Cond.static ({ cls := nm1, name := "coderFromArrayLen", desc := "([BI)B" } : Jvm.MethodName)).before a0 Z = true := hw _ (List.mem_of_getElem? (i := 47) rfl)
theorem w48 {Z a0} (hw : HW Z a0) : (Jvm.Cond.code ({ cls := nm1, name := "coderFromArrayLen", desc := "([BI)B" } : Jvm.MethodName) jdk_52_method_15_code (2 : Nat) (Option.some Jvm.ClassFile.FieldType.byte)).before a0 Z = true := hw _ (List.mem_of_getElem? (i := 48) rfl)
theorem w49 {Z a0} (hw : HW Z a0) : (Jvm.Cond.methodLink nm3 (62 : Nat) ({ cls := nm0, name := "charAt", desc := "(I)C" } : Jvm.MethodName)).before a0 Z = true := hw _ (List.mem_of_getElem? (i := 49) rfl)
theorem w50 {Z a0} (hw : HW Z a0) : (Jvm.Cond.declares ({ cls := nm0, name := "charAt", desc := "(I)C" } : Jvm.MethodName)).before a0 Z = true := hw _ (List.mem_of_getElem? (i := 50) rfl)
theorem w51 {Z a0} (hw : HW Z a0) : (Jvm.Cond.instanceMethod ({ cls := nm0, name := "charAt", desc := "(I)C" } : Jvm.MethodName)).before a0 Z = true := hw _ (List.mem_of_getElem? (i := 51) rfl)
theorem w52 {Z a0} (hw : HW Z a0) : (Jvm.Cond.selects nm0 ({ cls := nm0, name := "charAt", desc := "(I)C" } : Jvm.MethodName) ({ cls := nm0, name := "charAt", desc := "(I)C" } : Jvm.MethodName)).before a0 Z = true := hw _ (List.mem_of_getElem? (i := 52) rfl)
theorem w53 {Z a0} (hw : HW Z a0) : (Jvm.Cond.code ({ cls := nm0, name := "charAt", desc := "(I)C" } : Jvm.MethodName) jdk_42_method_56_code (2 : Nat) (Option.some Jvm.ClassFile.FieldType.char)).before a0 Z = true := hw _ (List.mem_of_getElem? (i := 53) rfl)
theorem w54 {Z a0} (hw : HW Z a0) : (Jvm.Cond.methodLink nm0 (492 : Nat) ({ cls := nm0, name := "isLatin1", desc := "()Z" } : Jvm.MethodName)).before a0 Z = true := hw _ (List.mem_of_getElem? (i := 54) rfl)
theorem w55 {Z a0} (hw : HW Z a0) : (Jvm.Cond.declares ({ cls := nm0, name := "isLatin1", desc := "()Z" } : Jvm.MethodName)).before a0 Z = true := hw _ (List.mem_of_getElem? (i := 55) rfl)
theorem w56 {Z a0} (hw : HW Z a0) : (Jvm.Cond.instanceMethod ({ cls := nm0, name := "isLatin1", desc := "()Z" } : Jvm.MethodName)).before a0 Z = true := hw _ (List.mem_of_getElem? (i := 56) rfl)
theorem w57 {Z a0} (hw : HW Z a0) : (Jvm.Cond.selects nm0 ({ cls := nm0, name := "isLatin1", desc := "()Z" } : Jvm.MethodName) ({ cls := nm0, name := "isLatin1", desc := "()Z" } : Jvm.MethodName)).before a0 Z = true := hw _ (List.mem_of_getElem? (i := 57) rfl)
theorem w58 {Z a0} (hw : HW Z a0) : (Jvm.Cond.code ({ cls := nm0, name := "isLatin1", desc := "()Z" } : Jvm.MethodName) jdk_42_method_154_code (1 : Nat) (Option.some Jvm.ClassFile.FieldType.boolean)).before a0 Z = true := hw _ (List.mem_of_getElem? (i := 58) rfl)
theorem w59 {Z a0} (hw : HW Z a0) : (Jvm.Cond.methodLink nm0 (495 : Nat) ({ cls := "java/lang/StringLatin1", name := "charAt", desc := "([BI)C" } : Jvm.MethodName)).before a0 Z = true := hw _ (List.mem_of_getElem? (i := 59) rfl)
theorem w60 {Z a0} (hw : HW Z a0) : (Jvm.Cond.static ({ cls := "java/lang/StringLatin1", name := "charAt", desc := "([BI)C" } : Jvm.MethodName)).before a0 Z = true := hw _ (List.mem_of_getElem? (i := 60) rfl)
theorem w61 {Z a0} (hw : HW Z a0) : (Jvm.Cond.initialized "java/lang/StringLatin1").before a0 Z = true := hw _ (List.mem_of_getElem? (i := 61) rfl)
theorem w62 {Z a0} (hw : HW Z a0) : (Jvm.Cond.code ({ cls := "java/lang/StringLatin1", name := "charAt", desc := "([BI)C" } : Jvm.MethodName) jdk_43_method_2_code (2 : Nat) (Option.some Jvm.ClassFile.FieldType.char)).before a0 Z = true := hw _ (List.mem_of_getElem? (i := 62) rfl)
theorem w63 {Z a0} (hw : HW Z a0) : (Jvm.Cond.methodLink "java/lang/StringLatin1" (9 : Nat) ({ cls := nm0, name := "checkIndex", desc := "(II)V" } : Jvm.MethodName)).before a0 Z = true := hw _ (List.mem_of_getElem? (i := 63) rfl)
theorem w64 {Z a0} (hw : HW Z a0) : (Jvm.Cond.static ({ cls := nm0, name := "checkIndex", desc := "(II)V" } : Jvm.MethodName)).before a0 Z = true := hw _ (List.mem_of_getElem? (i := 64) rfl)
theorem w65 {Z a0} (hw : HW Z a0) : (Jvm.Cond.code ({ cls := nm0, name := "checkIndex", desc := "(II)V" } : Jvm.MethodName) jdk_42_method_155_code (2 : Nat) (Option.none : Option Jvm.ClassFile.FieldType)).before a0 Z = true := hw _ (List.mem_of_getElem? (i := 65) rfl)
theorem w66 {Z a0} (hw : HW Z a0) : (Jvm.Cond.fieldLink nm0 (1053 : Nat) nm2 "SIOOBE_FORMATTER" nm4).before a0 Z = true := hw _ (List.mem_of_getElem? (i := 66) rfl)
theorem w67 {Z a0} (hw : HW Z a0) : (Jvm.Cond.initialized nm2).before a0 Z = true := hw _ (List.mem_of_getElem? (i := 67) rfl)
theorem w68 {Z a0} (hw : HW Z a0) : (Jvm.Cond.methodLink nm0 (1059 : Nat) ({ cls := nm2, name := "checkIndex", desc := "(IILjava/util/function/BiFunction;)I" } : Jvm.MethodName)).before a0 Z = true := hw _ (List.mem_of_getElem? (i := 68) rfl)
theorem w69 {Z a0} (hw : HW Z a0) : (Jvm.Cond.static ({ cls := nm2, name := "checkIndex", desc := "(IILjava/util/function/BiFunction;)I" } : Jvm.MethodName)).before a0 Z = true := hw _ (List.mem_of_getElem? (i := 69) rfl)
theorem w70 {Z a0} (hw : HW Z a0) : (Jvm.Cond.code ({ cls := nm2, name := "checkIndex", desc := "(IILjava/util/function/BiFunction;)I" } : Jvm.MethodName) jdk_41_method_11_code (3 : Nat) (Option.some Jvm.ClassFile.FieldType.int)).before a0 Z = true := hw _ (List.mem_of_getElem? (i := 70) rfl)
theorem w71 {Z a0} (hw : HW Z a0) : (Jvm.Cond.methodLink nm1 (119 : Nat) ({ cls := nm1, name := "toBytes", desc := "([CII)[B" } : Jvm.MethodName)).before a0 Z = true := hw _ (List.mem_of_getElem? (i := 71) rfl)
theorem w72 {Z a0} (hw : HW Z a0) : (Jvm.Cond.static ({ cls := nm1, name := "toBytes", desc := "([CII)[B" } : Jvm.MethodName)).before a0 Z = true := hw _ (List.mem_of_getElem? (i := 72) rfl)
theorem w73 {Z a0} (hw : HW Z a0) : (Jvm.Cond.code ({ cls := nm1, name := "toBytes", desc := "([CII)[B" } : Jvm.MethodName) jdk_52_method_14_code (5 : Nat) (Option.some (Jvm.ClassFile.FieldType.array Jvm.ClassFile.FieldType.byte))).before a0 Z = true := hw _ (List.mem_of_getElem? (i := 73) rfl)
theorem w74 {Z a0} (hw : HW Z a0) : (Jvm.Cond.methodLink nm1 (107 : Nat) ({ cls := nm1, name := "newBytesFor", desc := "(I)[B" } : Jvm.MethodName)).before a0 Z = true := hw _ (List.mem_of_getElem? (i := 74) rfl)
theorem w75 {Z a0} (hw : HW Z a0) : (Jvm.Cond.static ({ cls := nm1, name := "newBytesFor", desc := "(I)[B" } : Jvm.MethodName)).before a0 Z = true := hw _ (List.mem_of_getElem? (i := 75) rfl)
theorem w76 {Z a0} (hw : HW Z a0) : (Jvm.Cond.code ({ cls := nm1, name := "newBytesFor", desc := "(I)[B" } : Jvm.MethodName) jdk_52_method_2_code (1 : Nat) (Option.some (Jvm.ClassFile.FieldType.array Jvm.ClassFile.FieldType.byte))).before a0 Z = true := hw _ (List.mem_of_getElem? (i := 76) rfl)
theorem w77 {Z a0} (hw : HW Z a0) : (Jvm.Cond.methodLink nm1 (11 : Nat) ({ cls := nm1, name := "newBytesLength", desc := "(I)I" } : Jvm.MethodName)).before a0 Z = true := hw _ (List.mem_of_getElem? (i := 77) rfl)
theorem w78 {Z a0} (hw : HW Z a0) : (Jvm.Cond.static ({ cls := nm1, name := "newBytesLength", desc := "(I)I" } : Jvm.MethodName)).before a0 Z = true := hw _ (List.mem_of_getElem? (i := 78) rfl)
theorem w79 {Z a0} (hw : HW Z a0) : (Jvm.Cond.code ({ cls := nm1, name := "newBytesLength", desc := "(I)I" } : Jvm.MethodName) jdk_52_method_3_code (1 : Nat) (Option.some Jvm.ClassFile.FieldType.int)).before a0 Z = true := hw _ (List.mem_of_getElem? (i := 79) rfl)
theorem w80 {Z a0} (hw : HW Z a0) : (Jvm.Cond.constant nm1 (20 : Nat) (1073741823 : Int32)).before a0 Z = true := hw _ (List.mem_of_getElem? (i := 80) rfl)
theorem w81 {Z a0} (hw : HW Z a0) : (Jvm.Cond.methodLink nm1 (111 : Nat) ({ cls := nm1, name := "putChar", desc := "([BII)V" } : Jvm.MethodName)).before a0 Z = true := hw _ (List.mem_of_getElem? (i := 81) rfl)
theorem w82 {Z a0} (hw : HW Z a0) : (Jvm.Cond.static ({ cls := nm1, name := "putChar", desc := "([BII)V" } : Jvm.MethodName)).before a0 Z = true := hw _ (List.mem_of_getElem? (i := 82) rfl)
theorem w83 {Z a0} (hw : HW Z a0) : (Jvm.Cond.code ({ cls := nm1, name := "putChar", desc := "([BII)V" } : Jvm.MethodName) jdk_52_method_4_code (3 : Nat) (Option.none : Option Jvm.ClassFile.FieldType)).before a0 Z = true := hw _ (List.mem_of_getElem? (i := 83) rfl)
theorem w84 {Z a0} (hw : HW Z a0) : (Jvm.Cond.fieldLink nm1 (44 : Nat) nm1 "$assertionsDisabled" "Z").before a0 Z = true := hw _ (List.mem_of_getElem? (i := 84) rfl)
theorem w85 {Z a0} (hw : HW Z a0) : (Jvm.Cond.fieldLink nm1 (59 : Nat) nm1 "HI_BYTE_SHIFT" "I").before a0 Z = true := hw _ (List.mem_of_getElem? (i := 85) rfl)
theorem w86 {Z a0} (hw : HW Z a0) : (Jvm.Cond.fieldLink nm1 (63 : Nat) nm1 "LO_BYTE_SHIFT" "I").before a0 Z = true := hw _ (List.mem_of_getElem? (i := 86) rfl)
theorem w87 {Z a0} (hw : HW Z a0) : (Jvm.Cond.methodLink nm1 (71 : Nat) ({ cls := nm1, name := "getChar", desc := "([BI)C" } : Jvm.MethodName)).before a0 Z = true := hw _ (List.mem_of_getElem? (i := 87) rfl)
theorem w88 {Z a0} (hw : HW Z a0) : (Jvm.Cond.static ({ cls := nm1, name := "getChar", desc := "([BI)C" } : Jvm.MethodName)).before a0 Z = true := hw _ (List.mem_of_getElem? (i := 88) rfl)
theorem w89 {Z a0} (hw : HW Z a0) : (Jvm.Cond.code ({ cls := nm1, name := "getChar", desc := "([BI)C" } : Jvm.MethodName) jdk_52_method_5_code (2 : Nat) (Option.some Jvm.ClassFile.FieldType.char)).before a0 Z = true := hw _ (List.mem_of_getElem? (i := 89) rfl)
theorem w90 {Z a0} (hw : HW Z a0) : (Jvm.Cond.methodLink nm0 (498 : Nat) ({ cls := nm1, name := "charAt", desc := "([BI)C" } : Jvm.MethodName)).before a0 Z = true := hw _ (List.mem_of_getElem? (i := 90) rfl)
theorem w91 {Z a0} (hw : HW Z a0) : (Jvm.Cond.static ({ cls := nm1, name := "charAt", desc := "([BI)C" } : Jvm.MethodName)).before a0 Z = true := hw _ (List.mem_of_getElem? (i := 91) rfl)
theorem w92 {Z a0} (hw : HW Z a0) : (Jvm.Cond.code ({ cls := nm1, name := "charAt", desc := "([BI)C" } : Jvm.MethodName) jdk_52_method_83_code (2 : Nat) (Option.some Jvm.ClassFile.FieldType.char)).before a0 Z = true := hw _ (List.mem_of_getElem? (i := 92) rfl)
theorem w93 {Z a0} (hw : HW Z a0) : (Jvm.Cond.methodLink nm1 (67 : Nat) ({ cls := nm1, name := "checkIndex", desc := "(I[B)V" } : Jvm.MethodName)).before a0 Z = true := hw _ (List.mem_of_getElem? (i := 93) rfl)
theorem w94 {Z a0} (hw : HW Z a0) : (Jvm.Cond.static ({ cls := nm1, name := "checkIndex", desc := "(I[B)V" } : Jvm.MethodName)).before a0 Z = true := hw _ (List.mem_of_getElem? (i := 94) rfl)
theorem w95 {Z a0} (hw : HW Z a0) : (Jvm.Cond.code ({ cls := nm1, name := "checkIndex", desc := "(I[B)V" } : Jvm.MethodName) jdk_52_method_91_code (2 : Nat) (Option.none : Option Jvm.ClassFile.FieldType)).before a0 Z = true := hw _ (List.mem_of_getElem? (i := 95) rfl)
theorem w96 {Z a0} (hw : HW Z a0) : (Jvm.Cond.methodLink nm1 (48 : Nat) ({ cls := nm1, name := "length", desc := "([B)I" } : Jvm.MethodName)).before a0 Z = true := hw _ (List.mem_of_getElem? (i := 96) rfl)
theorem w97 {Z a0} (hw : HW Z a0) : (Jvm.Cond.static ({ cls := nm1, name := "length", desc := "([B)I" } : Jvm.MethodName)).before a0 Z = true := hw _ (List.mem_of_getElem? (i := 97) rfl)
theorem w98 {Z a0} (hw : HW Z a0) : (Jvm.Cond.code ({ cls := nm1, name := "length", desc := "([B)I" } : Jvm.MethodName) jdk_52_method_6_code (1 : Nat) (Option.some Jvm.ClassFile.FieldType.int)).before a0 Z = true := hw _ (List.mem_of_getElem? (i := 98) rfl)
theorem w99 {Z a0} (hw : HW Z a0) : (Jvm.Cond.methodLink nm1 (414 : Nat) ({ cls := nm0, name := "checkIndex", desc := "(II)V" } : Jvm.MethodName)).before a0 Z = true := hw _ (List.mem_of_getElem? (i := 99) rfl)
theorem own_in : ∀ a ∈ Bundle.stringAtoms, a ∈ tables_1 := by decide +kernel
theorem own_atoms {Z : State} {a0 : Array Value} (hw : HW Z a0) : ∀ a ∈ Bundle.stringAtoms, a.before a0 Z = true := fun a ha => hw a (own_in a ha)
section KW
variable {p : Program} {l : Launch} {e : Env} {R : Room} {s : State} {vm0 : Vm} {m : MethodId} {args : Array Value} {below : List Frame} {meth : Method} {c : Code} {T : State} {locs : List Loc} {cells slots : Nat} {Z : State} {a0 : Array Value} {h : Heap} {st0 : State} {g : JFrame} {y : MethodName} {bytes : ByteArray} {ml : Nat} {rt : Option FieldType} {rm : Room} {as' : Array Value} {Q : Option Value → Heap → List Loc → Prop}
theorem kstatB (X : Stand p l e R (s.setVm vm0) m args below meth c T locs cells slots) (hx : p.tables.exec = Jvm.exec) (hZ : Z.Warmed39 vm0) {own : String} {index : Nat} (hown : vm0.findClass own = some m.cls) {k0 : Nat} (hS : s.Since vm0 k0) (hk : k0 ≤ h.size) (w1 : (Jvm.Cond.methodLink own index y).before a0 Z = true) (w2 : (Jvm.Cond.static y).before a0 Z = true) (w3 : (Jvm.Cond.initialized y.cls).before a0 Z = true) (w4 : (Jvm.Cond.code y bytes ml rt).before a0 Z = true) {W : Nat} (hB : BackS l R p e below (s.setVm vm0) args y 3 W (fun A a => a = as' ∧ A.U.heap = h ∧ A.cells + rm.cells ≤ R.cells ∧ A.slots + rm.slots ≤ R.slots) (fun A _ v B => ∃ L, Q v B.U.heap L ∧ B.locs = A.locs ++ L ∧ B.cells = A.cells + rm.cells ∧ B.slots = A.slots + rm.slots)) (eT : T.heap = h) (k : Kt p e below T st0 g) {M : Nat} (hml : c.maxLocals = M) {ps : List FieldType} {r : Option FieldType} (pd : parseMethodDescriptor y.desc = some ⟨ps, r⟩) (argsL rest : List Value) (hd : decode c.code g.pc = .ok (.invokestatic index, 3))
  (hg : g.method = m) (hsize : g.locals.size = M) (hln : argsL.length = ps.length) (hst : g.stack = argsL.reverse ++ rest) (ha : argsL.toArray = as') (hW : 2 * g.monitorRoom + (rest.map fun v => v.category).sum = W) (hy : y.cls ≠ "java/lang/invoke/MethodHandle" ∧ y.cls ≠ "java/lang/invoke/VarHandle" := by decide) (hc : cells + rm.cells ≤ R.cells := by decide) (hs : slots + rm.slots ≤ R.slots := by decide) :
  ∃ v T' L', Stand p l e R (s.setVm T'.vm) m args below meth c T' (locs ++ L') (cells + rm.cells) (slots + rm.slots) ∧ Q v T'.heap L' ∧ s.Since T'.vm T'.heap.size ∧ Z.Warmed39 T'.vm ∧ T'.vm.findClass own = some m.cls ∧ Kt p e below T' st0 { g with pc := g.pc + 3, stack := v.toList ++ rest } := by
 obtain ⟨v, _, ⟨T', L, k', n'⟩, -, X', hS', hg', ⟨Lc, hQ, e1, e2, e3⟩, st⟩ := callSS X hx hown (mvT (s := s.setVm vm0) hZ w1) (mvT (s := s.setVm vm0) hZ w2) (mvT (s := s.setVm vm0) hZ w3) (mvT (s := s.setVm vm0) hZ w4) hy hB hg (hsize.trans hml.symm) (argsL := argsL) (rest := rest) (lenOf pd hln) hst (Nat.le_of_eq hW) hd (fun _ _ => ⟨ha, eT, hc, hs⟩)
 dsimp only [Pt.U, Pt.locs, Pt.cells, Pt.slots] at X' hS' hg' e1 e2 e3 st hQ
 subst e1 e2 e3
 obtain ⟨X2, hS2, hZ2, ho2⟩ := rebS hS (by rw [eT]; exact hk) X' hS' hg' hZ hown
 exact ⟨v, T', Lc, X2, hQ, hS2, hZ2, ho2, fun t q => k t (st.trans q)⟩
theorem kspecB (X : Stand p l e R (s.setVm vm0) m args below meth c T locs cells slots) (hx : p.tables.exec = Jvm.exec) (hZ : Z.Warmed39 vm0) {own : String} {index : Nat} (hown : vm0.findClass own = some m.cls) {k0 : Nat} (hS : s.Since vm0 k0) (hk : k0 ≤ h.size) (w1 : (Jvm.Cond.methodLink own index y).before a0 Z = true) (w2 : (Jvm.Cond.instanceMethod y).before a0 Z = true) (w4 : (Jvm.Cond.code y bytes ml none).before a0 Z = true) {W : Nat} (hB : BackS l R p e below (s.setVm vm0) args y 3 W (fun A a => a = as' ∧ A.U.heap = h ∧ A.cells + rm.cells ≤ R.cells ∧ A.slots + rm.slots ≤ R.slots) (fun A _ v B => ∃ L, Q v B.U.heap L ∧ B.locs = A.locs ++ L ∧ B.cells = A.cells + rm.cells ∧ B.slots = A.slots + rm.slots)) (eT : T.heap = h) (k : Kt p e below T st0 g) {M : Nat} (hml : c.maxLocals = M) {ps : List FieldType} {r : Option FieldType} (pd : parseMethodDescriptor y.desc = some ⟨ps, r⟩) (a : Addr) (argsL rest : List Value) (hd : decode c.code g.pc = .ok (.invokespecial index, 3))
  (hg : g.method = m) (hsize : g.locals.size = M) (hln : argsL.length = ps.length) (hst : g.stack = argsL.reverse ++ .ref a :: rest) (ha : (Value.ref a :: argsL).toArray = as') (hW : 2 * g.monitorRoom + (rest.map fun v => v.category).sum = W) (hy1 : y.name = "<init>" := by rfl) (hy : y.cls ≠ "java/lang/invoke/MethodHandle" ∧ y.cls ≠ "java/lang/invoke/VarHandle" := by decide) (hc : cells + rm.cells ≤ R.cells := by decide) (hs : slots + rm.slots ≤ R.slots := by decide) :
  ∃ v T' L', Stand p l e R (s.setVm T'.vm) m args below meth c T' (locs ++ L') (cells + rm.cells) (slots + rm.slots) ∧ Q v T'.heap L' ∧ s.Since T'.vm T'.heap.size ∧ Z.Warmed39 T'.vm ∧ T'.vm.findClass own = some m.cls ∧ Kt p e below T' st0 { g with pc := g.pc + 3, stack := v.toList ++ rest } := by
 obtain ⟨v, _, ⟨T', L, k', n'⟩, -, X', hS', hg', ⟨Lc, hQ, e1, e2, e3⟩, st⟩ := X.specialBackS hx hy1 hown (mvT (s := s.setVm vm0) hZ w1) (mvT (s := s.setVm vm0) hZ w2) (mvT (s := s.setVm vm0) hZ w4) hy hB hg (hsize.trans hml.symm) (Steps.refl _) (a := a) (argsL := argsL) (rest := rest) (lenOf pd hln) hst (Nat.le_of_eq hW) hd (fun _ _ => ⟨ha, eT, hc, hs⟩)
 dsimp only [Pt.U, Pt.locs, Pt.cells, Pt.slots] at X' hS' hg' e1 e2 e3 st hQ
 subst e1 e2 e3
 obtain ⟨X2, hS2, hZ2, ho2⟩ := rebS hS (by rw [eT]; exact hk) X' hS' hg' hZ hown
 exact ⟨v, T', Lc, X2, hQ, hS2, hZ2, ho2, fun t q => k t (st.trans q)⟩
theorem kldc (X : Stand p l e R (s.setVm vm0) m args below meth c T locs cells slots) (hx : p.tables.exec = Jvm.exec) (hZ : Z.Warmed39 vm0) {own text : String} {index : Nat} (hown : vm0.findClass own = some m.cls) {k0 : Nat} (hS : s.Since vm0 k0) (hk : k0 ≤ h.size) (w : (Jvm.Cond.stringLink own index text).before a0 Z = true) (wS : ∀ a ∈ Bundle.stringAtoms, a.before a0 Z = true) (eT : T.heap = h) (k : Kt p e below T st0 g) (n : Nat) (hd : decode c.code g.pc = .ok (.ldc index, 2)) (hg : g.method = m) (hn : 4 * text.toList.length ≤ n) (hbig : n ≤ 536870912) (hc : cells + 2 ≤ R.cells) (hl : slots + (n + 4) ≤ R.slots) {n0 : Nat} (O0 : Old Z n0 h) :
  ∃ (a : Addr) (T' : State) (h' : Heap) (k1 : Nat), Stand p l e R (s.setVm T'.vm) m args below meth c T' locs (cells + 2) (slots + (n + 4)) ∧ T'.heap = h' ∧ Ext h h' ∧ Old Z n0 h' ∧ s.Since T'.vm k1 ∧ k1 ≤ h'.size ∧ Z.Warmed39 T'.vm ∧ T'.vm.findClass own = some m.cls ∧ Kt p e below T' st0 { g with pc := g.pc + 2, stack := .ref a :: g.stack } := by
 obtain ⟨a, T', h', k1, X', e', E, hS', hk', hZ', ho', st⟩ := ldcS X hx hZ hown w wS eT hS hk hg hd hn hbig hc hl
 exact ⟨a, T', h', k1, X', e', E, O0.ext E, hS', hk', hZ', ho', fun t q => k t (st t q)⟩
theorem kldcV (X : Stand p l e R (s.setVm s.vm) m args below meth c T [] cells slots) (hx : p.tables.exec = Jvm.exec) (hZ : Z.Warmed39 s.vm) {own text : String} {index : Nat} (hown : s.vm.findClass own = some m.cls) (w : (Jvm.Cond.stringLink own index text).before a0 Z = true) (wS : ∀ a ∈ Bundle.stringAtoms, a.before a0 Z = true) (eT : T.heap = h) (k : Kt p e below T st0 g) (n : Nat) (hd : decode c.code g.pc = .ok (.ldc index, 2)) (hg : g.method = m) {h0 : Heap} (hh : s.heap = h0) {n0 : Nat} (Oh : Old Z n0 h0) (hI : s.vm.interned = Z.vm.interned) (hlit : Jvm.Lit.constHeld Z own index) (hcw : Jvm.Lit.compactW.before a0 Z = true) {vs : List Value} {z : Int32} (ht : (∀ c ∈ text.toList, c.toNat < 256) ∧ text.toList.map (fun c => Value.int (Jvm.Lit.byteI c.toNat.toUInt16)) = vs) (hz : ¬ z < 0) (hl : z.toNatClampNeg = vs.length) (hn : 4 * text.toList.length ≤ n) (hbig : n ≤ 536870912) (hc : cells + 2 ≤ R.cells) (hl' : slots + (n + 4) ≤ R.slots) (O0 : Old Z n0 h) :
  ∃ (a : Addr) (T' : State) (h' : Heap) (k1 : Nat) (b : Addr) (kb : ClassId), Stand p l e R (s.setVm T'.vm) m args below meth c T' [] (cells + 2) (slots + (n + 4)) ∧ T'.heap = h' ∧ Ext h h' ∧ Old Z n0 h' ∧ s.Since T'.vm k1 ∧ k1 ≤ h'.size ∧ Z.Warmed39 T'.vm ∧ T'.vm.findClass own = some m.cls ∧ Exa Z h' a nm0 ∧ Fld Z h' a nm0 "coder" "B" (.int 0) ∧ Fld Z h' a nm0 "value" "[B" (rr b) ∧ Arv Z h' b kb .byte z vs (.int 0) ∧ Lit (s.setVm T'.vm) own index a ∧ Kt p e below T' st0 { g with pc := g.pc + 2, stack := .ref a :: g.stack } := by
 have hib : IB Z s.vm [] := ⟨#[], by rw [hI]; simp, fun q hq => by simp at hq⟩
 obtain ⟨a, T', h', k1, b, kb, X', e', E, hS', hk', hZ', ho', f1, f2, f3, f4, -, -, -, L, st⟩ := ldcSVL X hx hZ hown w wS eT ((State.WarmedH.refl s).since 0) (Nat.zero_le _) (Fr.nil _) (fun b cl q => by rw [hh]; exact Oh.2.2 b cl q) hib (by simp) hlit hcw ht hz hl hg hd hn hbig hc hl'
 exact ⟨a, T', h', k1, b, kb, X', e', E, O0.ext E, hS', hk', hZ', ho', f1, f2, f3, f4, L, fun t q => k t (st t q)⟩
theorem backOfSI {len W : Nat}
  (hM : MFI l Z y bytes ml rt rm [] as' h Q) (hZ : Z.Warmed39 vm0) (hI : vm0.interned = Z.vm.interned) (wc : (Jvm.Cond.code y bytes ml rt).before a0 Z = true) (wz : (Jvm.Cond.initialized y.cls).before a0 Z = true) (hf : rm.frames + 1 ≤ R.frames) (hl : W + (ml + 11) + rm.locals ≤ R.locals) :
  BackS l R p e below (s.setVm vm0) args y len W (fun A a => a = as' ∧ A.U.heap = h ∧ A.cells + rm.cells ≤ R.cells ∧ A.slots + rm.slots ≤ R.slots)
   (fun A _ v B => ∃ L, Q v B.U.heap L ∧ B.locs = A.locs ++ L ∧ B.cells = A.cells + rm.cells ∧ B.slots = A.slots + rm.slots) :=
 BackS.of_freeW (bytes := bytes) (maxL := ml) (ret := rt) (E := fun _ _ o t L k n => k = rm.cells ∧ n = rm.slots ∧ ∃ v, o = .returned v ∧ Q v t.heap L) hM hf hl
  (fun m meth c A a Y hp => have hU : Z.Warmed39 A.U.vm := wtrans (s := s.setVm vm0) hZ Y.warmed
   ⟨by show (Jvm.Cond.and _ .tt).before a A.U = true; rw [Jvm.Cond.before_and, mv hU wc]; rfl, mv hU wc, mv hU wz, hp.2.2.1, hp.2.2.2⟩)
  (fun m meth c A a g mk Y hp => ⟨hp.1, wtrans (s := s.setVm vm0) hZ Y.warmed, hp.2.1, Y.warmed.interned_eq.trans hI⟩) (fun _ _ _ _ _ _ _ _ _ => trivial)
  (fun _ _ _ _ ⟨v, L, h1, h2, h3⟩ => ⟨L, _, _, h3, rfl, rfl, v, h1, h2⟩)
  (fun m meth c A a g mk v t L k n Y hp _ _ ⟨e1, e2, v', e3, e4⟩ => by cases e3; subst e1 e2; exact ⟨L, e4, rfl, rfl, rfl⟩)
end KW
theorem own_len {s : State} {args : Array Value} {t : Term} {a : Addr} {cl : Cell} {ty : FieldType} {n : Int32} (ev : t.eval args s none [] s = some (rr a)) (A : Arr s s.heap a cl ty) (h : (Term.length t).eval args s none [] s = some (.int n)) : cl.slots.size < 2 ^ 31 ∧ cl.slots.size.toInt32 = n := by
 have ha : s.arrayAt? a = some cl := A.fin (Vm.Alike.refl _)
 have hl := SBG.length_lt ev ha h
 rw [len_f ev ha hl] at h
 exact ⟨hl, by simpa using h⟩
theorem own_cc (x : Int32) : nar .char (x.toUInt32.toUInt16.toUInt32.toInt32) = x.toUInt32.toUInt16.toUInt32.toInt32 := by
 show (x.toUInt32.toUInt16.toUInt32.toInt32).toUInt32.toUInt16.toUInt32.toInt32 = _
 have e : ∀ u : UInt16, u.toUInt32.toInt32.toUInt32.toUInt16 = u := fun u => by simp
 rw [e]
theorem own_bits {x : Int32} (h : nar .char x = x) : x.toBitVec.toNat < 65536 := by
 have e : x.toBitVec = ((x.toUInt32.toUInt16).toUInt32.toInt32).toBitVec := congrArg Int32.toBitVec h.symm
 have q := (x.toUInt32.toUInt16).toNat_lt
 have e2 : (((x.toUInt32.toUInt16).toUInt32.toInt32).toBitVec).toNat = (x.toUInt32.toUInt16).toNat := by
  show ((x.toUInt32.toUInt16).toUInt32).toNat = _
  simp
 rw [e, e2]; exact q
theorem own_chL {x : Int32} (h : nar .char x = x) (h2 : ¬ ((255 : Int32) < x)) : (nar .char (((nar .byte (x.toInt8.toInt32)) &&& (255 : Int32)).toUInt32.toUInt16.toUInt32.toInt32)) = x := by
 have t : ∀ k : Fin 256, (nar .char (((nar .byte ((Int32.ofNat k.val).toInt8.toInt32)) &&& (255 : Int32)).toUInt32.toUInt16.toUInt32.toInt32)) = Int32.ofNat k.val := by decide +kernel
 have q := own_bits h
 have q2 : x.toBitVec.toNat < 256 := by
  rcases Nat.lt_or_ge x.toBitVec.toNat 256 with r | r
  ·exact r
  ·exfalso; apply h2
   rw [Int32.lt_iff_toInt_lt]
   have e1 : (255 : Int32).toInt = 255 := by decide
   have e3 : x.toInt = x.toBitVec.toNat := by
    show x.toBitVec.toInt = _
    rw [BitVec.toInt_eq_toNat_cond, if_pos (by omega)]
   rw [e1, e3]; omega
 have e : x = Int32.ofNat x.toBitVec.toNat := by
  apply Int32.toBitVec_inj.mp
  show _ = BitVec.ofNat 32 _
  rw [BitVec.ofNat_toNat]; simp
 rw [e]; exact t ⟨_, q2⟩
theorem own_mask (x : Int32) : (x.toInt8.toInt32) &&& (255 : Int32) = x &&& (255 : Int32) := by
 apply Int32.toBitVec_inj.mp
 simp only [Int32.toBitVec_and, Int8.toBitVec_toInt32, Int32.toBitVec_toInt8]
 ext i hi
 have hd : ∀ j, j < 32 → 8 ≤ j → (255#32).getLsbD j = false := by decide
 simp only [BitVec.getElem_and]
 by_cases h8 : i < 8
 ·simp [BitVec.getElem_signExtend, h8, hi]
 ·have := hd i hi (by omega)
  rw [BitVec.getLsbD_eq_getElem hi] at this
  show (_ && (255#32)[i]) = (_ && (255#32)[i])
  rw [this]; simp

theorem own_bv16 (b : BitVec 32) (h : b.toNat < 65536) : (((b &&& 255#32) ||| ((b >>> 8) &&& 255#32) <<< 8)) = b := by
 apply BitVec.eq_of_toNat_eq
 have e0 : (255#32).toNat = 2 ^ 8 - 1 := by decide
 have h1 : (b &&& 255#32).toNat = b.toNat % 2 ^ 8 := by rw [BitVec.toNat_and, e0, Nat.and_two_pow_sub_one_eq_mod]
 have h2 : ((b >>> 8) &&& 255#32).toNat = b.toNat / 2 ^ 8 := by
  rw [BitVec.toNat_and, e0, Nat.and_two_pow_sub_one_eq_mod, BitVec.toNat_ushiftRight, Nat.shiftRight_eq_div_pow]
  exact Nat.mod_eq_of_lt (by omega)
 have h3 : (((b >>> 8) &&& 255#32) <<< 8).toNat = 2 ^ 8 * (b.toNat / 2 ^ 8) := by
  rw [BitVec.toNat_shiftLeft, h2, Nat.shiftLeft_eq, Nat.mul_comm]
  exact Nat.mod_eq_of_lt (by omega)
 rw [BitVec.toNat_or, h1, h3, Nat.or_comm, ← Nat.two_pow_add_eq_or_of_lt (Nat.mod_lt _ (by decide))]
 omega
theorem own_get16 {x : Int32} (h : nar .char x = x) : (nar .char (((((nar .byte ((x >>> ((0 : Int32) &&& 31)).toInt8.toInt32)) &&& (255 : Int32)) <<< ((0 : Int32) &&& 31)) ||| (((nar .byte ((x >>> ((8 : Int32) &&& 31)).toInt8.toInt32)) &&& (255 : Int32)) <<< ((8 : Int32) &&& 31))).toUInt32.toUInt16.toUInt32.toInt32)) = x := by
 have hb := own_bits h
 have a0 : ((0 : Int32) &&& 31) = 0 := by decide
 have a8 : ((8 : Int32) &&& 31) = 8 := by decide
 have z0 : (0 : Int32).toBitVec.smod 32 = 0#32 := by decide
 have z8 : (8 : Int32).toBitVec.smod 32 = 8#32 := by decide
 have s0 : x >>> (0 : Int32) = x := by
  apply Int32.toBitVec_inj.mp
  rw [Int32.toBitVec_shiftRight, z0]
  show x.toBitVec.sshiftRight 0 = _
  simp
 rw [a0, a8]
 have m0 : ((nar .byte ((x >>> (0 : Int32)).toInt8.toInt32)) &&& (255 : Int32)) = x &&& 255 := by
  show (((x >>> (0 : Int32)).toInt8.toInt32).toInt8.toInt32) &&& 255 = _
  rw [own_mask, own_mask, s0]
 have m1 : ((nar .byte ((x >>> (8 : Int32)).toInt8.toInt32)) &&& (255 : Int32)) = (x >>> (8 : Int32)) &&& 255 := by
  show (((x >>> (8 : Int32)).toInt8.toInt32).toInt8.toInt32) &&& 255 = _
  rw [own_mask, own_mask]
 have hE : ((x &&& 255) <<< (0 : Int32)) ||| (((x >>> (8 : Int32)) &&& 255) <<< (8 : Int32)) = x := by
  apply Int32.toBitVec_inj.mp
  have hm : x.toBitVec.msb = false := by rw [BitVec.msb_eq_decide]; simp; omega
  have e8 : x.toBitVec.sshiftRight' 8#32 = x.toBitVec >>> 8 := by
   show x.toBitVec.sshiftRight 8 = _
   rw [BitVec.sshiftRight_eq_of_msb_false hm]
  have l0 : ∀ z : BitVec 32, z <<< (0#32) = z := fun z => by simp
  have l8 : ∀ z : BitVec 32, z <<< (8#32) = z <<< 8 := fun z => rfl
  rw [Int32.toBitVec_or, Int32.toBitVec_shiftLeft, Int32.toBitVec_shiftLeft, z0, z8, Int32.toBitVec_and, Int32.toBitVec_and, Int32.toBitVec_shiftRight, z8, e8, l0, l8]
  exact own_bv16 _ hb
 rw [m0, m1, hE]
 show nar .char (nar .char x) = x
 rw [h, h]
theorem own_rem5 (x : Int32) : ((x &&& (2147483647 : Int32)) % (5 : Int32)) = 0 ∨ ((x &&& (2147483647 : Int32)) % (5 : Int32)) = 1 ∨ ((x &&& (2147483647 : Int32)) % (5 : Int32)) = 2 ∨ ((x &&& (2147483647 : Int32)) % (5 : Int32)) = 3 ∨ ((x &&& (2147483647 : Int32)) % (5 : Int32)) = 4 := by
 have hb : (x &&& 2147483647).toBitVec.toNat ≤ 2147483647 := by
  simp only [Int32.toBitVec_and, BitVec.toNat_and]
  exact Nat.and_le_right
 have h0 : 0 ≤ (x &&& 2147483647).toInt := by
  show 0 ≤ (x &&& 2147483647).toBitVec.toInt
  rw [BitVec.toInt_eq_toNat_cond, if_pos (by omega)]; omega
 have e : ((x &&& 2147483647) % 5).toInt = (x &&& 2147483647).toInt.tmod 5 := by rw [Int32.toInt_mod]; rfl
 have a := Int.tmod_nonneg 5 h0
 have b := Int.tmod_lt_of_pos (x &&& 2147483647).toInt (show (0 : Int) < 5 by decide)
 rw [← e] at a b
 have k : ((x &&& 2147483647) % 5).toInt = 0 ∨ ((x &&& 2147483647) % 5).toInt = 1 ∨ ((x &&& 2147483647) % 5).toInt = 2 ∨ ((x &&& 2147483647) % 5).toInt = 3 ∨ ((x &&& 2147483647) % 5).toInt = 4 := by omega
 rcases k with k | k | k | k | k
 ·exact Or.inl (Int32.toInt_inj.mp (k.trans (by decide)))
 ·exact Or.inr (Or.inl (Int32.toInt_inj.mp (k.trans (by decide))))
 ·exact Or.inr (Or.inr (Or.inl (Int32.toInt_inj.mp (k.trans (by decide)))))
 ·exact Or.inr (Or.inr (Or.inr (Or.inl (Int32.toInt_inj.mp (k.trans (by decide))))))
 ·exact Or.inr (Or.inr (Or.inr (Or.inr (Int32.toInt_inj.mp (k.trans (by decide))))))
theorem pn_jdk_internal_util_Preconditions : plainName nm2 = true := by first | (simp [plainName, overriddenIn]; done) | decide +kernel
theorem d0_0 : decode jdk_41_method_11_code 0 = .ok (.iload_n 0, 1) := by decide +kernel
theorem d0_1 : decode jdk_41_method_11_code 1 = .ok (.ifCond .lt 8, 3) := by decide +kernel
theorem d0_4 : decode jdk_41_method_11_code 4 = .ok (.iload_n 0, 1) := by decide +kernel
theorem d0_5 : decode jdk_41_method_11_code 5 = .ok (.iload_n 1, 1) := by decide +kernel
theorem d0_6 : decode jdk_41_method_11_code 6 = .ok (.if_icmp .lt 10, 3) := by decide +kernel
theorem d0_16 : decode jdk_41_method_11_code 16 = .ok (.iload_n 0, 1) := by decide +kernel
theorem d0_17 : decode jdk_41_method_11_code 17 = .ok (.ireturn, 1) := by decide +kernel
theorem ef_pchk (m : MethodId) (i_ : Int32) (n_ : Int32) (fm_ : Value) (hfm_ : fm_.isRef = true) : entryFrame m #[(.int i_), (.int n_), fm_] 3 = mkF m 0 #[vi i_, vi n_, .val fm_] [] := by (rcases ref_cases hfm_ with rfl | ⟨_, rfl⟩) <;> first | (simp [entryFrame, mkF, argsToLocals, Value.category]; done) | rfl
def Q_pchk (Z : State) (i_ : Int32) (n_ : Int32) (fm_ : Value) (h0 : Heap) (n0 : Nat) (v : Option Value) (h : Heap) (L : List Loc) : Prop := v = some (.int i_) ∧ Fr n0 L ∧ h = h0
set_option maxRecDepth 65536 in
set_option maxHeartbeats 40000000 in
theorem rm_pchk (l : Launch) (Z : State) (a0 : Array Value) (hw : HW Z a0) (ws : List Jvm.Cond) (i_ : Int32) (n_ : Int32) (fm_ : Value) (h0 : Heap) (n0 : Nat) (O0 : Old Z n0 h0) (hfm_ : fm_.isRef = true) (h1_ : ¬ (i_ < (0 : Int32))) (h2_ : i_ < n_) :
  MFP l Z (⟨nm2, "checkIndex", "(IILjava/util/function/BiFunction;)I"⟩ : MethodName) jdk_41_method_11_code 3 (some .int) ({ frames := 0, cells := 0, slots := 0, locals := 0 } : Room) ws #[(.int i_), (.int n_), fm_] h0 (Q_pchk Z i_ n_ fm_ h0 n0) := by
 refine MetFree.of_bodySF (plainFor_of_name pn_jdk_internal_util_Preconditions) hisR ?_
 intro p e s m args below meth c s₁ Bd hml0 hP hK
 obtain ⟨rfl, hZ, hh⟩ := hP
 have hx := Bd.exec
 have hby := Bd.bytes
 have hml : c.maxLocals = 3 := hml0
 have hown : s.vm.findClass nm2 = some m.cls := findClass_of_methodNamed Bd.named
 have hnm := (name_of_methodNamed Bd.named Bd.method).1
 have X0 : Stand p l e ({ frames := 0, cells := 0, slots := 0, locals := 0 } : Room) s m #[(.int i_), (.int n_), fm_] below meth c s₁ [] 0 0 := Stand.of_body Bd
 have e0 : s₁.heap = h0 := by rw [← hh, Bd.state]; rfl
 have N0 := Fr.nil n0
 have kp0 : Keep h0 h0 [] := Keep.refl _ _
 have c0 : ∀ t, S_ p e below s₁ m 0 #[vi i_, vi n_, .val fm_] [] t → Steps p.tables e below (s₁.setTop (entryFrame m #[(.int i_), (.int n_), fm_] 3)) t := fun t k => castTop (ef_pchk m i_ n_ fm_ hfm_) k
 generalize s₁.setTop (entryFrame m #[(.int i_), (.int n_), fm_] 3) = st0 at c0 ⊢
 replace c0 : Kt p e below s₁ st0 (mkF m 0 #[vi i_, vi n_, .val fm_] []) := c0
 obtain ⟨fs, hr, hrun, hended, hW, hsame⟩ := X0.leave (v := some (.int i_)) (fun h => by rw [Bd.returns] at h; cases h)
 refine ⟨_, _, c0 _ ?_, hrun, hended, _, _, rfl, ?_, ⟨_, rfl⟩, hW, hsame.mono (by decide) (by decide)⟩
 ·show S_ p e below s₁ m 0 #[vi i_, vi n_, .val fm_] [] _
  refine XS.iloadN X0.here hx rfl (hb hby d0_0) rfl ?_
  show S_ p e below s₁ m 1 #[vi i_, vi n_, .val fm_] [(.int i_)] _
  refine XS.ifNo X0.here hx rfl (hb hby d0_1) rfl ((if0 _ _).trans (flt h1_).1) ?_
  show S_ p e below s₁ m 4 #[vi i_, vi n_, .val fm_] [] _
  refine XS.iloadN X0.here hx rfl (hb hby d0_4) rfl ?_
  show S_ p e below s₁ m 5 #[vi i_, vi n_, .val fm_] [(.int i_)] _
  refine XS.iloadN X0.here hx rfl (hb hby d0_5) rfl ?_
  show S_ p e below s₁ m 6 #[vi i_, vi n_, .val fm_] [(.int n_), (.int i_)] _
  refine yC X0.here hx rfl 6 16 rfl (hb hby d0_6) rfl (tlt h2_).1 ?_
  show S_ p e below s₁ m 16 #[vi i_, vi n_, .val fm_] [] _
  refine XS.iloadN X0.here hx rfl (hb hby d0_16) rfl ?_
  show S_ p e below s₁ m 17 #[vi i_, vi n_, .val fm_] [(.int i_)] _
  exact retOut X0 hx Bd.returns rfl (Or.inl ⟨rfl, Or.inl rfl, _, rfl⟩) (hb hby d0_17) hr
 ·show Q_pchk Z i_ n_ fm_ h0 n0 _ s₁.heap _
  rw [e0]
  exact ⟨rfl, N0, rfl⟩
theorem pn_java_lang_String : plainName nm0 = true := by first | (simp [plainName, overriddenIn]; done) | decide +kernel
theorem d1_0 : decode jdk_42_method_155_code 0 = .ok (.iload_n 0, 1) := by decide +kernel
theorem d1_1 : decode jdk_42_method_155_code 1 = .ok (.iload_n 1, 1) := by decide +kernel
theorem d1_2 : decode jdk_42_method_155_code 2 = .ok (.getstatic 1053, 3) := by decide +kernel
theorem d1_5 : decode jdk_42_method_155_code 5 = .ok (.invokestatic 1059, 3) := by decide +kernel
theorem pd_pIILjava_util_function_BiFunction_rI : parseMethodDescriptor "(IILjava/util/function/BiFunction;)I" = some ⟨[.int, .int, (.object "java/util/function/BiFunction")], some .int⟩ := by decide +kernel
theorem d1_8 : decode jdk_42_method_155_code 8 = .ok (.pop, 1) := by decide +kernel
theorem d1_9 : decode jdk_42_method_155_code 9 = .ok (.return_, 1) := by decide +kernel
theorem ef_schk (m : MethodId) (i_ : Int32) (n_ : Int32) : entryFrame m #[(.int i_), (.int n_)] 2 = mkF m 0 #[vi i_, vi n_] [] := by first | (simp [entryFrame, mkF, argsToLocals, Value.category]; done) | rfl
def Q_schk (Z : State) (i_ : Int32) (n_ : Int32) (fm_ : Value) (h0 : Heap) (n0 : Nat) (v : Option Value) (h : Heap) (L : List Loc) : Prop := v = none ∧ Fr n0 L ∧ h = h0
set_option maxRecDepth 65536 in
set_option maxHeartbeats 40000000 in
theorem rm_schk (l : Launch) (Z : State) (a0 : Array Value) (hw : HW Z a0) (ws : List Jvm.Cond) (i_ : Int32) (n_ : Int32) (fm_ : Value) (h0 : Heap) (n0 : Nat) (O0 : Old Z n0 h0) (ZS0_ : Sta Z Z.heap nm2 "SIOOBE_FORMATTER" nm4 fm_) (hfm_ : fm_.isRef = true) (h1_ : ¬ (i_ < (0 : Int32))) (h2_ : i_ < n_) :
  MFP l Z (⟨nm0, "checkIndex", "(II)V"⟩ : MethodName) jdk_42_method_155_code 2 none ({ frames := 1, cells := 0, slots := 0, locals := 14 } : Room) ws #[(.int i_), (.int n_)] h0 (Q_schk Z i_ n_ fm_ h0 n0) := by
 refine MetFree.of_bodySF (plainFor_of_name pn_java_lang_String) hisR ?_
 intro p e s m args below meth c s₁ Bd hml0 hP hK
 obtain ⟨rfl, hZ, hh⟩ := hP
 have hx := Bd.exec
 have hby := Bd.bytes
 have hml : c.maxLocals = 2 := hml0
 have hown : s.vm.findClass nm0 = some m.cls := findClass_of_methodNamed Bd.named
 have hnm := (name_of_methodNamed Bd.named Bd.method).1
 have X0 : Stand p l e ({ frames := 1, cells := 0, slots := 0, locals := 14 } : Room) s m #[(.int i_), (.int n_)] below meth c s₁ [] 0 0 := Stand.of_body Bd
 have e0 : s₁.heap = h0 := by rw [← hh, Bd.state]; rfl
 have N0 := Fr.nil n0
 have kp0 : Keep h0 h0 [] := Keep.refl _ _
 have c0 : ∀ t, S_ p e below s₁ m 0 #[vi i_, vi n_] [] t → Steps p.tables e below (s₁.setTop (entryFrame m #[(.int i_), (.int n_)] 2)) t := fun t k => castTop (ef_schk m i_ n_) k
 generalize s₁.setTop (entryFrame m #[(.int i_), (.int n_)] 2) = st0 at c0 ⊢
 replace c0 : Kt p e below s₁ st0 (mkF m 0 #[vi i_, vi n_] []) := c0
 have c1 : Kt p e below s₁ st0 (mkF m 2 #[vi i_, vi n_] [(.int n_), (.int i_)]) := fun t k => by
  refine c0 t ?_
  show S_ p e below s₁ m 0 #[vi i_, vi n_] [] t
  refine XS.iloadN X0.here hx rfl (hb hby d1_0) rfl ?_
  show S_ p e below s₁ m 1 #[vi i_, vi n_] [(.int i_)] t
  refine XS.iloadN X0.here hx rfl (hb hby d1_1) rfl ?_
  exact k
 obtain ⟨T2, X2, e2, c2⟩ := kgetS X0 hx hZ hown (host := "") (Or.inl (w66 hw)) Via.refl e0 (ZS0_.ext O0.2) c1 rfl (hb hby d1_2)
 obtain ⟨_, T3, L3, X3, hQ3, c3⟩ := kstat X2 hx hZ hown (w68 hw) (w69 hw) (w67 hw) (w70 hw) (rm_pchk l Z a0 hw [] i_ n_ fm_ h0 n0 O0 hfm_ h1_ h2_) e2 c2 hml pd_pIILjava_util_function_BiFunction_rI [(.int i_), (.int n_), fm_] [] 0 (hb hby d1_5) rfl rfl rfl rfl rfl rfl
 obtain ⟨rfl, N4q, K5⟩ := hQ3
 have N4 := Fr.app N0 N4q
 obtain ⟨fs, hr, hrun, hended, hW, hsame⟩ := X3.leave (v := none) (fun _ => rfl)
 refine ⟨_, _, c3 _ ?_, hrun, hended, _, _, rfl, ?_, ⟨_, rfl⟩, hW, hsame.mono (by decide) (by decide)⟩
 ·show S_ p e below T3 m 8 #[vi i_, vi n_] [(.int i_)] _
  refine XS.pop X3.here hx rfl (hb hby d1_8) rfl rfl ?_
  show S_ p e below T3 m 9 #[vi i_, vi n_] [] _
  exact X3.returnOut hx Bd.returns (hb hby d1_9) hr
 ·show Q_schk Z i_ n_ fm_ h0 n0 _ T3.heap _
  rw [K5]
  exact ⟨rfl, N4, rfl⟩
theorem pn_java_lang_StringLatin1 : plainName "java/lang/StringLatin1" = true := by first | (simp [plainName, overriddenIn]; done) | decide +kernel
theorem d2_0 : decode jdk_43_method_2_code 0 = .ok (.iload_n 1, 1) := by decide +kernel
theorem d2_1 : decode jdk_43_method_2_code 1 = .ok (.aload_n 0, 1) := by decide +kernel
theorem d2_2 : decode jdk_43_method_2_code 2 = .ok (.arraylength, 1) := by decide +kernel
theorem d2_3 : decode jdk_43_method_2_code 3 = .ok (.invokestatic 9, 3) := by decide +kernel
theorem pd_pIIrV : parseMethodDescriptor "(II)V" = some ⟨[.int, .int], none⟩ := by decide +kernel
theorem d2_6 : decode jdk_43_method_2_code 6 = .ok (.aload_n 0, 1) := by decide +kernel
theorem d2_7 : decode jdk_43_method_2_code 7 = .ok (.iload_n 1, 1) := by decide +kernel
theorem d2_8 : decode jdk_43_method_2_code 8 = .ok (.baload, 1) := by decide +kernel
theorem d2_9 : decode jdk_43_method_2_code 9 = .ok (.sipush 255, 3) := by decide +kernel
theorem d2_12 : decode jdk_43_method_2_code 12 = .ok (.iand, 1) := by decide +kernel
theorem d2_13 : decode jdk_43_method_2_code 13 = .ok (.i2c, 1) := by decide +kernel
theorem d2_14 : decode jdk_43_method_2_code 14 = .ok (.ireturn, 1) := by decide +kernel
theorem ef_l1ch (m : MethodId) (s_ : Addr) (i_ : Int32) : entryFrame m #[(rr s_), (.int i_)] 2 = mkF m 0 #[vr s_, vi i_] [] := by first | (simp [entryFrame, mkF, argsToLocals, Value.category]; done) | rfl
def Q_l1ch (Z : State) (s_ : Addr) (ks_ : ClassId) (n_ : Int32) (vs_ : List Value) (i_ : Int32) (b_ : Int32) (c_ : Int32) (fm_ : Value) (h0 : Heap) (n0 : Nat) (v : Option Value) (h : Heap) (L : List Loc) : Prop := v = some (.int c_) ∧ Fr n0 L ∧ h = h0
set_option maxRecDepth 65536 in
set_option maxHeartbeats 40000000 in
theorem rm_l1ch (l : Launch) (Z : State) (a0 : Array Value) (hw : HW Z a0) (ws : List Jvm.Cond) (s_ : Addr) (ks_ : ClassId) (n_ : Int32) (vs_ : List Value) (i_ : Int32) (b_ : Int32) (c_ : Int32) (fm_ : Value) (h0 : Heap) (n0 : Nat) (O0 : Old Z n0 h0) (A0_ : Arv Z h0 s_ ks_ .byte n_ vs_ (ii 0)) (ZS1_ : Sta Z Z.heap nm2 "SIOOBE_FORMATTER" nm4 fm_) (hfm_ : fm_.isRef = true) (h1_ : ¬ (i_ < (0 : Int32))) (h2_ : i_ < n_) (h3_ : vs_.getD (i_).toNatClampNeg (ii 0) = (.int b_)) (h4_ : (nar .char ((b_ &&& (255 : Int32)).toUInt32.toUInt16.toUInt32.toInt32)) = c_) :
  MFP l Z (⟨"java/lang/StringLatin1", "charAt", "([BI)C"⟩ : MethodName) jdk_43_method_2_code 2 (some .char) ({ frames := 2, cells := 0, slots := 0, locals := 27 } : Room) ws #[(rr s_), (.int i_)] h0 (Q_l1ch Z s_ ks_ n_ vs_ i_ b_ c_ fm_ h0 n0) := by
 refine MetFree.of_bodySF (plainFor_of_name pn_java_lang_StringLatin1) hisR ?_
 intro p e s m args below meth c s₁ Bd hml0 hP hK
 obtain ⟨rfl, hZ, hh⟩ := hP
 have hx := Bd.exec
 have hby := Bd.bytes
 have hml : c.maxLocals = 2 := hml0
 have hown : s.vm.findClass "java/lang/StringLatin1" = some m.cls := findClass_of_methodNamed Bd.named
 have hnm := (name_of_methodNamed Bd.named Bd.method).1
 have X0 : Stand p l e ({ frames := 2, cells := 0, slots := 0, locals := 27 } : Room) s m #[(rr s_), (.int i_)] below meth c s₁ [] 0 0 := Stand.of_body Bd
 have e0 : s₁.heap = h0 := by rw [← hh, Bd.state]; rfl
 have N0 := Fr.nil n0
 have kp0 : Keep h0 h0 [] := Keep.refl _ _
 have c0 : ∀ t, S_ p e below s₁ m 0 #[vr s_, vi i_] [] t → Steps p.tables e below (s₁.setTop (entryFrame m #[(rr s_), (.int i_)] 2)) t := fun t k => castTop (ef_l1ch m s_ i_) k
 generalize s₁.setTop (entryFrame m #[(rr s_), (.int i_)] 2) = st0 at c0 ⊢
 replace c0 : Kt p e below s₁ st0 (mkF m 0 #[vr s_, vi i_] []) := c0
 have c1 : Kt p e below s₁ st0 (mkF m 3 #[vr s_, vi i_] [(.int n_), (.int i_)]) := fun t k => by
  refine c0 t ?_
  show S_ p e below s₁ m 0 #[vr s_, vi i_] [] t
  refine XS.iloadN X0.here hx rfl (hb hby d2_0) rfl ?_
  show S_ p e below s₁ m 1 #[vr s_, vi i_] [(.int i_)] t
  refine XS.aloadN X0.here hx rfl (hb hby d2_1) rfl rfl ?_
  show S_ p e below s₁ m 2 #[vr s_, vi i_] [(rr s_), (.int i_)] t
  refine ldLen X0 hx hZ e0 A0_ rfl rfl (hb hby d2_2) ?_
  exact k
 obtain ⟨_, T2, L2, X2, hQ2, c2⟩ := kstat X0 hx hZ hown (w63 hw) (w64 hw) (w5 hw) (w65 hw) (rm_schk l Z a0 hw [] i_ n_ fm_ h0 n0 O0 ZS1_ hfm_ h1_ h2_) e0 c1 hml pd_pIIrV [(.int i_), (.int n_)] [] 0 (hb hby d2_3) rfl rfl rfl rfl rfl rfl
 obtain ⟨rfl, N3q, K4⟩ := hQ2
 have N3 := Fr.app N0 N3q
 obtain ⟨fs, hr, hrun, hended, hW, hsame⟩ := X2.leave (v := some (.int (nar .char ((b_ &&& (255 : Int32)).toUInt32.toUInt16.toUInt32.toInt32)))) (fun h => by rw [Bd.returns] at h; cases h)
 refine ⟨_, _, c2 _ ?_, hrun, hended, _, _, rfl, ?_, ⟨_, rfl⟩, hW, hsame.mono (by decide) (by decide)⟩
 ·show S_ p e below T2 m 6 #[vr s_, vi i_] [] _
  refine XS.aloadN X2.here hx rfl (hb hby d2_6) rfl rfl ?_
  show S_ p e below T2 m 7 #[vr s_, vi i_] [(rr s_)] _
  refine XS.iloadN X2.here hx rfl (hb hby d2_7) rfl ?_
  show S_ p e below T2 m 8 #[vr s_, vi i_] [(.int i_), (rr s_)] _
  refine ldB X2 hx hZ K4 A0_ (v := (.int b_)) h1_ h2_ h3_ rfl rfl (hb hby d2_8) ?_
  show S_ p e below T2 m 9 #[vr s_, vi i_] [(.int b_)] _
  refine XS.sipush X2.here hx rfl (hb hby d2_9) ?_
  show S_ p e below T2 m 12 #[vr s_, vi i_] [(ii 255), (.int b_)] _
  refine XS.iand X2.here hx rfl (hb hby d2_12) rfl ?_
  show S_ p e below T2 m 13 #[vr s_, vi i_] [(.int (b_ &&& (255 : Int32)))] _
  refine XS.i2c X2.here hx rfl (hb hby d2_13) rfl ?_
  show S_ p e below T2 m 14 #[vr s_, vi i_] [(.int ((b_ &&& (255 : Int32)).toUInt32.toUInt16.toUInt32.toInt32))] _
  exact retN X2 hx (t := .char) Bd.returns (by simp) (hb hby d2_14) hr
 ·show Q_l1ch Z s_ ks_ n_ vs_ i_ b_ c_ fm_ h0 n0 _ T2.heap _
  rw [K4]
  exact ⟨(by rw [h4_]), N3, rfl⟩
theorem pn_java_lang_StringUTF16 : plainName nm1 = true := by first | (simp [plainName, overriddenIn]; done) | decide +kernel
theorem d3_0 : decode jdk_52_method_4_code 0 = .ok (.getstatic 44, 3) := by decide +kernel
theorem d3_3 : decode jdk_52_method_4_code 3 = .ok (.ifCond .ne 25, 3) := by decide +kernel
theorem d3_28 : decode jdk_52_method_4_code 28 = .ok (.iload_n 1, 1) := by decide +kernel
theorem d3_29 : decode jdk_52_method_4_code 29 = .ok (.iconst 1, 1) := by decide +kernel
theorem d3_30 : decode jdk_52_method_4_code 30 = .ok (.ishl, 1) := by decide +kernel
theorem d3_31 : decode jdk_52_method_4_code 31 = .ok (.istore_n 1, 1) := by decide +kernel
theorem d3_32 : decode jdk_52_method_4_code 32 = .ok (.aload_n 0, 1) := by decide +kernel
theorem d3_33 : decode jdk_52_method_4_code 33 = .ok (.iload_n 1, 1) := by decide +kernel
theorem d3_34 : decode jdk_52_method_4_code 34 = .ok (.iinc 1 1, 3) := by decide +kernel
theorem d3_37 : decode jdk_52_method_4_code 37 = .ok (.iload_n 2, 1) := by decide +kernel
theorem d3_38 : decode jdk_52_method_4_code 38 = .ok (.getstatic 59, 3) := by decide +kernel
theorem d3_41 : decode jdk_52_method_4_code 41 = .ok (.ishr, 1) := by decide +kernel
theorem d3_42 : decode jdk_52_method_4_code 42 = .ok (.i2b, 1) := by decide +kernel
theorem d3_43 : decode jdk_52_method_4_code 43 = .ok (.bastore, 1) := by decide +kernel
theorem d3_44 : decode jdk_52_method_4_code 44 = .ok (.aload_n 0, 1) := by decide +kernel
theorem d3_45 : decode jdk_52_method_4_code 45 = .ok (.iload_n 1, 1) := by decide +kernel
theorem d3_46 : decode jdk_52_method_4_code 46 = .ok (.iload_n 2, 1) := by decide +kernel
theorem d3_47 : decode jdk_52_method_4_code 47 = .ok (.getstatic 63, 3) := by decide +kernel
theorem d3_50 : decode jdk_52_method_4_code 50 = .ok (.ishr, 1) := by decide +kernel
theorem d3_51 : decode jdk_52_method_4_code 51 = .ok (.i2b, 1) := by decide +kernel
theorem d3_52 : decode jdk_52_method_4_code 52 = .ok (.bastore, 1) := by decide +kernel
theorem d3_53 : decode jdk_52_method_4_code 53 = .ok (.return_, 1) := by decide +kernel
theorem ef_putc (m : MethodId) (d_ : Addr) (i_ : Int32) (c_ : Int32) : entryFrame m #[(rr d_), (.int i_), (.int c_)] 3 = mkF m 0 #[vr d_, vi i_, vi c_] [] := by first | (simp [entryFrame, mkF, argsToLocals, Value.category]; done) | rfl
def Q_putc (Z : State) (d_ : Addr) (kd_ : ClassId) (n_ : Int32) (vs_ : List Value) (i_ : Int32) (c_ : Int32) (h0 : Heap) (n0 : Nat) (v : Option Value) (h : Heap) (L : List Loc) : Prop := v = none ∧ Fr n0 L ∧ Keep h0 h [d_] ∧ Arv Z h d_ kd_ .byte n_ ((vs_.set ((i_ <<< ((1 : Int32) &&& 31))).toNatClampNeg (.int (nar .byte ((c_ >>> ((0 : Int32) &&& 31)).toInt8.toInt32)))).set (((i_ <<< ((1 : Int32) &&& 31)) + (1 : Int32))).toNatClampNeg (.int (nar .byte ((c_ >>> ((8 : Int32) &&& 31)).toInt8.toInt32)))) (ii 0)
set_option maxRecDepth 65536 in
set_option maxHeartbeats 40000000 in
theorem rm_putc (l : Launch) (Z : State) (a0 : Array Value) (hw : HW Z a0) (ws : List Jvm.Cond) (d_ : Addr) (kd_ : ClassId) (n_ : Int32) (vs_ : List Value) (i_ : Int32) (c_ : Int32) (h0 : Heap) (n0 : Nat) (O0 : Old Z n0 h0) (A0_ : Arv Z h0 d_ kd_ .byte n_ vs_ (ii 0)) (G1_ : n0 ≤ d_) (ZS2_ : Sta Z Z.heap nm1 "$assertionsDisabled" "Z" (ii 1)) (ZS3_ : Sta Z Z.heap nm1 "HI_BYTE_SHIFT" "I" (ii 0)) (ZS4_ : Sta Z Z.heap nm1 "LO_BYTE_SHIFT" "I" (ii 8)) (h1_ : ¬ ((i_ <<< ((1 : Int32) &&& 31)) < (0 : Int32))) (h2_ : (i_ <<< ((1 : Int32) &&& 31)) < n_) (h3_ : ¬ (((i_ <<< ((1 : Int32) &&& 31)) + (1 : Int32)) < (0 : Int32))) (h4_ : ((i_ <<< ((1 : Int32) &&& 31)) + (1 : Int32)) < n_) (h5_ : ((i_ <<< ((1 : Int32) &&& 31))).toNatClampNeg < vs_.length) (h6_ : (((i_ <<< ((1 : Int32) &&& 31)) + (1 : Int32))).toNatClampNeg < (vs_.set ((i_ <<< ((1 : Int32) &&& 31))).toNatClampNeg (.int (nar .byte ((c_ >>> ((0 : Int32) &&& 31)).toInt8.toInt32)))).length) :
  MFP l Z (⟨nm1, "putChar", "([BII)V"⟩ : MethodName) jdk_52_method_4_code 3 none ({ frames := 0, cells := 0, slots := 0, locals := 0 } : Room) ws #[(rr d_), (.int i_), (.int c_)] h0 (Q_putc Z d_ kd_ n_ vs_ i_ c_ h0 n0) := by
 refine MetFree.of_bodySF (plainFor_of_name pn_java_lang_StringUTF16) hisR ?_
 intro p e s m args below meth c s₁ Bd hml0 hP hK
 obtain ⟨rfl, hZ, hh⟩ := hP
 have hx := Bd.exec
 have hby := Bd.bytes
 have hml : c.maxLocals = 3 := hml0
 have hown : s.vm.findClass nm1 = some m.cls := findClass_of_methodNamed Bd.named
 have hnm := (name_of_methodNamed Bd.named Bd.method).1
 have X0 : Stand p l e ({ frames := 0, cells := 0, slots := 0, locals := 0 } : Room) s m #[(rr d_), (.int i_), (.int c_)] below meth c s₁ [] 0 0 := Stand.of_body Bd
 have e0 : s₁.heap = h0 := by rw [← hh, Bd.state]; rfl
 have N0 := Fr.nil n0
 have kp0 : Keep h0 h0 [d_] := Keep.refl _ _
 have c0 : ∀ t, S_ p e below s₁ m 0 #[vr d_, vi i_, vi c_] [] t → Steps p.tables e below (s₁.setTop (entryFrame m #[(rr d_), (.int i_), (.int c_)] 3)) t := fun t k => castTop (ef_putc m d_ i_ c_) k
 generalize s₁.setTop (entryFrame m #[(rr d_), (.int i_), (.int c_)] 3) = st0 at c0 ⊢
 replace c0 : Kt p e below s₁ st0 (mkF m 0 #[vr d_, vi i_, vi c_] []) := c0
 obtain ⟨T1, X1, e1, c1⟩ := kgetS X0 hx hZ hown (host := "") (Or.inl (w84 hw)) Via.refl e0 (ZS2_.ext O0.2) c0 rfl (hb hby d3_0)
 have c2 : Kt p e below T1 st0 (mkF m 38 #[vr d_, .val (.int ((i_ <<< ((1 : Int32) &&& 31)) + (1 : Int32))), vi c_] [(.int c_), (.int (i_ <<< ((1 : Int32) &&& 31))), (rr d_)]) := fun t k => by
  refine c1 t ?_
  show S_ p e below T1 m 3 #[vr d_, vi i_, vi c_] [(ii 1)] t
  refine yI X1.here hx rfl 3 28 rfl (hb hby d3_3) rfl rfl ?_
  show S_ p e below T1 m 28 #[vr d_, vi i_, vi c_] [] t
  refine XS.iloadN X1.here hx rfl (hb hby d3_28) rfl ?_
  show S_ p e below T1 m 29 #[vr d_, vi i_, vi c_] [(.int i_)] t
  refine XS.iconst X1.here hx rfl (hb hby d3_29) ?_
  show S_ p e below T1 m 30 #[vr d_, vi i_, vi c_] [(ii 1), (.int i_)] t
  refine XS.ishl X1.here hx rfl (hb hby d3_30) rfl ?_
  show S_ p e below T1 m 31 #[vr d_, vi i_, vi c_] [(.int (i_ <<< ((1 : Int32) &&& 31)))] t
  refine XS.istoreN X1.here hx rfl (hb hby d3_31) rfl (l' := #[vr d_, .val (.int (i_ <<< ((1 : Int32) &&& 31))), vi c_]) rfl ?_
  show S_ p e below T1 m 32 #[vr d_, .val (.int (i_ <<< ((1 : Int32) &&& 31))), vi c_] [] t
  refine XS.aloadN X1.here hx rfl (hb hby d3_32) rfl rfl ?_
  show S_ p e below T1 m 33 #[vr d_, .val (.int (i_ <<< ((1 : Int32) &&& 31))), vi c_] [(rr d_)] t
  refine XS.iloadN X1.here hx rfl (hb hby d3_33) rfl ?_
  show S_ p e below T1 m 34 #[vr d_, .val (.int (i_ <<< ((1 : Int32) &&& 31))), vi c_] [(.int (i_ <<< ((1 : Int32) &&& 31))), (rr d_)] t
  refine XS.iinc X1.here hx rfl (hb hby d3_34) rfl (l' := #[vr d_, .val (.int ((i_ <<< ((1 : Int32) &&& 31)) + (1 : Int32))), vi c_]) rfl ?_
  show S_ p e below T1 m 37 #[vr d_, .val (.int ((i_ <<< ((1 : Int32) &&& 31)) + (1 : Int32))), vi c_] [(.int (i_ <<< ((1 : Int32) &&& 31))), (rr d_)] t
  refine XS.iloadN X1.here hx rfl (hb hby d3_37) rfl ?_
  exact k
 obtain ⟨T3, X3, e3, c3⟩ := kgetS X1 hx hZ hown (host := "") (Or.inl (w85 hw)) Via.refl e1 (ZS3_.ext O0.2) c2 rfl (hb hby d3_38)
 have c4 : Kt p e below T3 st0 (mkF m 43 #[vr d_, .val (.int ((i_ <<< ((1 : Int32) &&& 31)) + (1 : Int32))), vi c_] [(.int ((c_ >>> ((0 : Int32) &&& 31)).toInt8.toInt32)), (.int (i_ <<< ((1 : Int32) &&& 31))), (rr d_)]) := fun t k => by
  refine c3 t ?_
  show S_ p e below T3 m 41 #[vr d_, .val (.int ((i_ <<< ((1 : Int32) &&& 31)) + (1 : Int32))), vi c_] [(ii 0), (.int c_), (.int (i_ <<< ((1 : Int32) &&& 31))), (rr d_)] t
  refine XS.ishr X3.here hx rfl (hb hby d3_41) rfl ?_
  show S_ p e below T3 m 42 #[vr d_, .val (.int ((i_ <<< ((1 : Int32) &&& 31)) + (1 : Int32))), vi c_] [(.int (c_ >>> ((0 : Int32) &&& 31))), (.int (i_ <<< ((1 : Int32) &&& 31))), (rr d_)] t
  refine XS.i2b X3.here hx rfl (hb hby d3_42) rfl ?_
  exact k
 obtain ⟨T5, h5, X5, e5, W5, f8, o6, N7, c5⟩ := kstB X3 hx hZ e3 A0_ (j := (i_ <<< ((1 : Int32) &&& 31))) h1_ h2_ _ rfl h5_ c4 rfl rfl (hb hby d3_43) O0 N0 G1_
 have f9 : Arv Z h5 d_ kd_ .byte n_ (vs_.set ((i_ <<< ((1 : Int32) &&& 31))).toNatClampNeg (.int (nar .byte ((c_ >>> ((0 : Int32) &&& 31)).toInt8.toInt32)))) (ii 0) := f8
 have kp10 := kp0.wr W5 (Or.inl (List.mem_of_getElem? (i := 0) rfl))
 have c11 : Kt p e below T5 st0 (mkF m 47 #[vr d_, .val (.int ((i_ <<< ((1 : Int32) &&& 31)) + (1 : Int32))), vi c_] [(.int c_), (.int ((i_ <<< ((1 : Int32) &&& 31)) + (1 : Int32))), (rr d_)]) := fun t k => by
  refine c5 t ?_
  show S_ p e below T5 m 44 #[vr d_, .val (.int ((i_ <<< ((1 : Int32) &&& 31)) + (1 : Int32))), vi c_] [] t
  refine XS.aloadN X5.here hx rfl (hb hby d3_44) rfl rfl ?_
  show S_ p e below T5 m 45 #[vr d_, .val (.int ((i_ <<< ((1 : Int32) &&& 31)) + (1 : Int32))), vi c_] [(rr d_)] t
  refine XS.iloadN X5.here hx rfl (hb hby d3_45) rfl ?_
  show S_ p e below T5 m 46 #[vr d_, .val (.int ((i_ <<< ((1 : Int32) &&& 31)) + (1 : Int32))), vi c_] [(.int ((i_ <<< ((1 : Int32) &&& 31)) + (1 : Int32))), (rr d_)] t
  refine XS.iloadN X5.here hx rfl (hb hby d3_46) rfl ?_
  exact k
 obtain ⟨T12, X12, e12, c12⟩ := kgetS X5 hx hZ hown (host := "") (Or.inl (w86 hw)) Via.refl e5 (ZS4_.ext o6.2) c11 rfl (hb hby d3_47)
 have c13 : Kt p e below T12 st0 (mkF m 52 #[vr d_, .val (.int ((i_ <<< ((1 : Int32) &&& 31)) + (1 : Int32))), vi c_] [(.int ((c_ >>> ((8 : Int32) &&& 31)).toInt8.toInt32)), (.int ((i_ <<< ((1 : Int32) &&& 31)) + (1 : Int32))), (rr d_)]) := fun t k => by
  refine c12 t ?_
  show S_ p e below T12 m 50 #[vr d_, .val (.int ((i_ <<< ((1 : Int32) &&& 31)) + (1 : Int32))), vi c_] [(ii 8), (.int c_), (.int ((i_ <<< ((1 : Int32) &&& 31)) + (1 : Int32))), (rr d_)] t
  refine XS.ishr X12.here hx rfl (hb hby d3_50) rfl ?_
  show S_ p e below T12 m 51 #[vr d_, .val (.int ((i_ <<< ((1 : Int32) &&& 31)) + (1 : Int32))), vi c_] [(.int (c_ >>> ((8 : Int32) &&& 31))), (.int ((i_ <<< ((1 : Int32) &&& 31)) + (1 : Int32))), (rr d_)] t
  refine XS.i2b X12.here hx rfl (hb hby d3_51) rfl ?_
  exact k
 obtain ⟨T14, h14, X14, e14, W14, f17, o15, N16, c14⟩ := kstB X12 hx hZ e12 f9 (j := ((i_ <<< ((1 : Int32) &&& 31)) + (1 : Int32))) h3_ h4_ _ rfl h6_ c13 rfl rfl (hb hby d3_52) o6 N7 G1_
 have f18 : Arv Z h14 d_ kd_ .byte n_ ((vs_.set ((i_ <<< ((1 : Int32) &&& 31))).toNatClampNeg (.int (nar .byte ((c_ >>> ((0 : Int32) &&& 31)).toInt8.toInt32)))).set (((i_ <<< ((1 : Int32) &&& 31)) + (1 : Int32))).toNatClampNeg (.int (nar .byte ((c_ >>> ((8 : Int32) &&& 31)).toInt8.toInt32)))) (ii 0) := f17
 have kp19 := kp10.wr W14 (Or.inl (List.mem_of_getElem? (i := 0) rfl))
 obtain ⟨fs, hr, hrun, hended, hW, hsame⟩ := X14.leave (v := none) (fun _ => rfl)
 refine ⟨_, _, c14 _ ?_, hrun, hended, _, _, rfl, ?_, ⟨_, rfl⟩, hW, hsame.mono (by decide) (by decide)⟩
 ·show S_ p e below T14 m 53 #[vr d_, .val (.int ((i_ <<< ((1 : Int32) &&& 31)) + (1 : Int32))), vi c_] [] _
  exact X14.returnOut hx Bd.returns (hb hby d3_53) hr
 ·show Q_putc Z d_ kd_ n_ vs_ i_ c_ h0 n0 _ T14.heap _
  rw [e14]
  exact ⟨rfl, N16, kp19, f18⟩
theorem d4_0 : decode jdk_52_method_5_code 0 = .ok (.getstatic 44, 3) := by decide +kernel
theorem d4_3 : decode jdk_52_method_5_code 3 = .ok (.ifCond .ne 25, 3) := by decide +kernel
theorem d4_28 : decode jdk_52_method_5_code 28 = .ok (.iload_n 1, 1) := by decide +kernel
theorem d4_29 : decode jdk_52_method_5_code 29 = .ok (.iconst 1, 1) := by decide +kernel
theorem d4_30 : decode jdk_52_method_5_code 30 = .ok (.ishl, 1) := by decide +kernel
theorem d4_31 : decode jdk_52_method_5_code 31 = .ok (.istore_n 1, 1) := by decide +kernel
theorem d4_32 : decode jdk_52_method_5_code 32 = .ok (.aload_n 0, 1) := by decide +kernel
theorem d4_33 : decode jdk_52_method_5_code 33 = .ok (.iload_n 1, 1) := by decide +kernel
theorem d4_34 : decode jdk_52_method_5_code 34 = .ok (.iinc 1 1, 3) := by decide +kernel
theorem d4_37 : decode jdk_52_method_5_code 37 = .ok (.baload, 1) := by decide +kernel
theorem d4_38 : decode jdk_52_method_5_code 38 = .ok (.sipush 255, 3) := by decide +kernel
theorem d4_41 : decode jdk_52_method_5_code 41 = .ok (.iand, 1) := by decide +kernel
theorem d4_42 : decode jdk_52_method_5_code 42 = .ok (.getstatic 59, 3) := by decide +kernel
theorem d4_45 : decode jdk_52_method_5_code 45 = .ok (.ishl, 1) := by decide +kernel
theorem d4_46 : decode jdk_52_method_5_code 46 = .ok (.aload_n 0, 1) := by decide +kernel
theorem d4_47 : decode jdk_52_method_5_code 47 = .ok (.iload_n 1, 1) := by decide +kernel
theorem d4_48 : decode jdk_52_method_5_code 48 = .ok (.baload, 1) := by decide +kernel
theorem d4_49 : decode jdk_52_method_5_code 49 = .ok (.sipush 255, 3) := by decide +kernel
theorem d4_52 : decode jdk_52_method_5_code 52 = .ok (.iand, 1) := by decide +kernel
theorem d4_53 : decode jdk_52_method_5_code 53 = .ok (.getstatic 63, 3) := by decide +kernel
theorem d4_56 : decode jdk_52_method_5_code 56 = .ok (.ishl, 1) := by decide +kernel
theorem d4_57 : decode jdk_52_method_5_code 57 = .ok (.ior, 1) := by decide +kernel
theorem d4_58 : decode jdk_52_method_5_code 58 = .ok (.i2c, 1) := by decide +kernel
theorem d4_59 : decode jdk_52_method_5_code 59 = .ok (.ireturn, 1) := by decide +kernel
theorem ef_getc (m : MethodId) (s_ : Addr) (i_ : Int32) : entryFrame m #[(rr s_), (.int i_)] 2 = mkF m 0 #[vr s_, vi i_] [] := by first | (simp [entryFrame, mkF, argsToLocals, Value.category]; done) | rfl
def Q_getc (Z : State) (s_ : Addr) (ks_ : ClassId) (n_ : Int32) (vs_ : List Value) (i_ : Int32) (b_ : Int32) (d_ : Int32) (c_ : Int32) (h0 : Heap) (n0 : Nat) (v : Option Value) (h : Heap) (L : List Loc) : Prop := v = some (.int c_) ∧ Fr n0 L ∧ h = h0
set_option maxRecDepth 65536 in
set_option maxHeartbeats 40000000 in
theorem rm_getc (l : Launch) (Z : State) (a0 : Array Value) (hw : HW Z a0) (ws : List Jvm.Cond) (s_ : Addr) (ks_ : ClassId) (n_ : Int32) (vs_ : List Value) (i_ : Int32) (b_ : Int32) (d_ : Int32) (c_ : Int32) (h0 : Heap) (n0 : Nat) (O0 : Old Z n0 h0) (A0_ : Arv Z h0 s_ ks_ .byte n_ vs_ (ii 0)) (ZS1_ : Sta Z Z.heap nm1 "$assertionsDisabled" "Z" (ii 1)) (ZS2_ : Sta Z Z.heap nm1 "HI_BYTE_SHIFT" "I" (ii 0)) (ZS3_ : Sta Z Z.heap nm1 "LO_BYTE_SHIFT" "I" (ii 8)) (h1_ : ¬ ((i_ <<< ((1 : Int32) &&& 31)) < (0 : Int32))) (h2_ : (i_ <<< ((1 : Int32) &&& 31)) < n_) (h3_ : ¬ (((i_ <<< ((1 : Int32) &&& 31)) + (1 : Int32)) < (0 : Int32))) (h4_ : ((i_ <<< ((1 : Int32) &&& 31)) + (1 : Int32)) < n_) (h5_ : vs_.getD ((i_ <<< ((1 : Int32) &&& 31))).toNatClampNeg (ii 0) = (.int b_)) (h6_ : vs_.getD (((i_ <<< ((1 : Int32) &&& 31)) + (1 : Int32))).toNatClampNeg (ii 0) = (.int d_)) (h7_ : (nar .char ((((b_ &&& (255 : Int32)) <<< ((0 : Int32) &&& 31)) ||| ((d_ &&& (255 : Int32)) <<< ((8 : Int32) &&& 31))).toUInt32.toUInt16.toUInt32.toInt32)) = c_) :
  MFP l Z (⟨nm1, "getChar", "([BI)C"⟩ : MethodName) jdk_52_method_5_code 2 (some .char) ({ frames := 0, cells := 0, slots := 0, locals := 0 } : Room) ws #[(rr s_), (.int i_)] h0 (Q_getc Z s_ ks_ n_ vs_ i_ b_ d_ c_ h0 n0) := by
 refine MetFree.of_bodySF (plainFor_of_name pn_java_lang_StringUTF16) hisR ?_
 intro p e s m args below meth c s₁ Bd hml0 hP hK
 obtain ⟨rfl, hZ, hh⟩ := hP
 have hx := Bd.exec
 have hby := Bd.bytes
 have hml : c.maxLocals = 2 := hml0
 have hown : s.vm.findClass nm1 = some m.cls := findClass_of_methodNamed Bd.named
 have hnm := (name_of_methodNamed Bd.named Bd.method).1
 have X0 : Stand p l e ({ frames := 0, cells := 0, slots := 0, locals := 0 } : Room) s m #[(rr s_), (.int i_)] below meth c s₁ [] 0 0 := Stand.of_body Bd
 have e0 : s₁.heap = h0 := by rw [← hh, Bd.state]; rfl
 have N0 := Fr.nil n0
 have kp0 : Keep h0 h0 [] := Keep.refl _ _
 have c0 : ∀ t, S_ p e below s₁ m 0 #[vr s_, vi i_] [] t → Steps p.tables e below (s₁.setTop (entryFrame m #[(rr s_), (.int i_)] 2)) t := fun t k => castTop (ef_getc m s_ i_) k
 generalize s₁.setTop (entryFrame m #[(rr s_), (.int i_)] 2) = st0 at c0 ⊢
 replace c0 : Kt p e below s₁ st0 (mkF m 0 #[vr s_, vi i_] []) := c0
 obtain ⟨T1, X1, e1, c1⟩ := kgetS X0 hx hZ hown (host := "") (Or.inl (w84 hw)) Via.refl e0 (ZS1_.ext O0.2) c0 rfl (hb hby d4_0)
 have c2 : Kt p e below T1 st0 (mkF m 42 #[vr s_, .val (.int ((i_ <<< ((1 : Int32) &&& 31)) + (1 : Int32)))] [(.int (b_ &&& (255 : Int32)))]) := fun t k => by
  refine c1 t ?_
  show S_ p e below T1 m 3 #[vr s_, vi i_] [(ii 1)] t
  refine yI X1.here hx rfl 3 28 rfl (hb hby d4_3) rfl rfl ?_
  show S_ p e below T1 m 28 #[vr s_, vi i_] [] t
  refine XS.iloadN X1.here hx rfl (hb hby d4_28) rfl ?_
  show S_ p e below T1 m 29 #[vr s_, vi i_] [(.int i_)] t
  refine XS.iconst X1.here hx rfl (hb hby d4_29) ?_
  show S_ p e below T1 m 30 #[vr s_, vi i_] [(ii 1), (.int i_)] t
  refine XS.ishl X1.here hx rfl (hb hby d4_30) rfl ?_
  show S_ p e below T1 m 31 #[vr s_, vi i_] [(.int (i_ <<< ((1 : Int32) &&& 31)))] t
  refine XS.istoreN X1.here hx rfl (hb hby d4_31) rfl (l' := #[vr s_, .val (.int (i_ <<< ((1 : Int32) &&& 31)))]) rfl ?_
  show S_ p e below T1 m 32 #[vr s_, .val (.int (i_ <<< ((1 : Int32) &&& 31)))] [] t
  refine XS.aloadN X1.here hx rfl (hb hby d4_32) rfl rfl ?_
  show S_ p e below T1 m 33 #[vr s_, .val (.int (i_ <<< ((1 : Int32) &&& 31)))] [(rr s_)] t
  refine XS.iloadN X1.here hx rfl (hb hby d4_33) rfl ?_
  show S_ p e below T1 m 34 #[vr s_, .val (.int (i_ <<< ((1 : Int32) &&& 31)))] [(.int (i_ <<< ((1 : Int32) &&& 31))), (rr s_)] t
  refine XS.iinc X1.here hx rfl (hb hby d4_34) rfl (l' := #[vr s_, .val (.int ((i_ <<< ((1 : Int32) &&& 31)) + (1 : Int32)))]) rfl ?_
  show S_ p e below T1 m 37 #[vr s_, .val (.int ((i_ <<< ((1 : Int32) &&& 31)) + (1 : Int32)))] [(.int (i_ <<< ((1 : Int32) &&& 31))), (rr s_)] t
  refine ldB X1 hx hZ e1 A0_ (v := (.int b_)) h1_ h2_ h5_ rfl rfl (hb hby d4_37) ?_
  show S_ p e below T1 m 38 #[vr s_, .val (.int ((i_ <<< ((1 : Int32) &&& 31)) + (1 : Int32)))] [(.int b_)] t
  refine XS.sipush X1.here hx rfl (hb hby d4_38) ?_
  show S_ p e below T1 m 41 #[vr s_, .val (.int ((i_ <<< ((1 : Int32) &&& 31)) + (1 : Int32)))] [(ii 255), (.int b_)] t
  refine XS.iand X1.here hx rfl (hb hby d4_41) rfl ?_
  exact k
 obtain ⟨T3, X3, e3, c3⟩ := kgetS X1 hx hZ hown (host := "") (Or.inl (w85 hw)) Via.refl e1 (ZS2_.ext O0.2) c2 rfl (hb hby d4_42)
 have c4 : Kt p e below T3 st0 (mkF m 53 #[vr s_, .val (.int ((i_ <<< ((1 : Int32) &&& 31)) + (1 : Int32)))] [(.int (d_ &&& (255 : Int32))), (.int ((b_ &&& (255 : Int32)) <<< ((0 : Int32) &&& 31)))]) := fun t k => by
  refine c3 t ?_
  show S_ p e below T3 m 45 #[vr s_, .val (.int ((i_ <<< ((1 : Int32) &&& 31)) + (1 : Int32)))] [(ii 0), (.int (b_ &&& (255 : Int32)))] t
  refine XS.ishl X3.here hx rfl (hb hby d4_45) rfl ?_
  show S_ p e below T3 m 46 #[vr s_, .val (.int ((i_ <<< ((1 : Int32) &&& 31)) + (1 : Int32)))] [(.int ((b_ &&& (255 : Int32)) <<< ((0 : Int32) &&& 31)))] t
  refine XS.aloadN X3.here hx rfl (hb hby d4_46) rfl rfl ?_
  show S_ p e below T3 m 47 #[vr s_, .val (.int ((i_ <<< ((1 : Int32) &&& 31)) + (1 : Int32)))] [(rr s_), (.int ((b_ &&& (255 : Int32)) <<< ((0 : Int32) &&& 31)))] t
  refine XS.iloadN X3.here hx rfl (hb hby d4_47) rfl ?_
  show S_ p e below T3 m 48 #[vr s_, .val (.int ((i_ <<< ((1 : Int32) &&& 31)) + (1 : Int32)))] [(.int ((i_ <<< ((1 : Int32) &&& 31)) + (1 : Int32))), (rr s_), (.int ((b_ &&& (255 : Int32)) <<< ((0 : Int32) &&& 31)))] t
  refine ldB X3 hx hZ e3 A0_ (v := (.int d_)) h3_ h4_ h6_ rfl rfl (hb hby d4_48) ?_
  show S_ p e below T3 m 49 #[vr s_, .val (.int ((i_ <<< ((1 : Int32) &&& 31)) + (1 : Int32)))] [(.int d_), (.int ((b_ &&& (255 : Int32)) <<< ((0 : Int32) &&& 31)))] t
  refine XS.sipush X3.here hx rfl (hb hby d4_49) ?_
  show S_ p e below T3 m 52 #[vr s_, .val (.int ((i_ <<< ((1 : Int32) &&& 31)) + (1 : Int32)))] [(ii 255), (.int d_), (.int ((b_ &&& (255 : Int32)) <<< ((0 : Int32) &&& 31)))] t
  refine XS.iand X3.here hx rfl (hb hby d4_52) rfl ?_
  exact k
 obtain ⟨T5, X5, e5, c5⟩ := kgetS X3 hx hZ hown (host := "") (Or.inl (w86 hw)) Via.refl e3 (ZS3_.ext O0.2) c4 rfl (hb hby d4_53)
 obtain ⟨fs, hr, hrun, hended, hW, hsame⟩ := X5.leave (v := some (.int (nar .char ((((b_ &&& (255 : Int32)) <<< ((0 : Int32) &&& 31)) ||| ((d_ &&& (255 : Int32)) <<< ((8 : Int32) &&& 31))).toUInt32.toUInt16.toUInt32.toInt32)))) (fun h => by rw [Bd.returns] at h; cases h)
 refine ⟨_, _, c5 _ ?_, hrun, hended, _, _, rfl, ?_, ⟨_, rfl⟩, hW, hsame.mono (by decide) (by decide)⟩
 ·show S_ p e below T5 m 56 #[vr s_, .val (.int ((i_ <<< ((1 : Int32) &&& 31)) + (1 : Int32)))] [(ii 8), (.int (d_ &&& (255 : Int32))), (.int ((b_ &&& (255 : Int32)) <<< ((0 : Int32) &&& 31)))] _
  refine XS.ishl X5.here hx rfl (hb hby d4_56) rfl ?_
  show S_ p e below T5 m 57 #[vr s_, .val (.int ((i_ <<< ((1 : Int32) &&& 31)) + (1 : Int32)))] [(.int ((d_ &&& (255 : Int32)) <<< ((8 : Int32) &&& 31))), (.int ((b_ &&& (255 : Int32)) <<< ((0 : Int32) &&& 31)))] _
  refine XS.ior X5.here hx rfl (hb hby d4_57) rfl ?_
  show S_ p e below T5 m 58 #[vr s_, .val (.int ((i_ <<< ((1 : Int32) &&& 31)) + (1 : Int32)))] [(.int (((b_ &&& (255 : Int32)) <<< ((0 : Int32) &&& 31)) ||| ((d_ &&& (255 : Int32)) <<< ((8 : Int32) &&& 31))))] _
  refine XS.i2c X5.here hx rfl (hb hby d4_58) rfl ?_
  show S_ p e below T5 m 59 #[vr s_, .val (.int ((i_ <<< ((1 : Int32) &&& 31)) + (1 : Int32)))] [(.int ((((b_ &&& (255 : Int32)) <<< ((0 : Int32) &&& 31)) ||| ((d_ &&& (255 : Int32)) <<< ((8 : Int32) &&& 31))).toUInt32.toUInt16.toUInt32.toInt32))] _
  exact retN X5 hx (t := .char) Bd.returns (by simp) (hb hby d4_59) hr
 ·show Q_getc Z s_ ks_ n_ vs_ i_ b_ d_ c_ h0 n0 _ T5.heap _
  rw [e5]
  exact ⟨(by rw [h7_]), N0, rfl⟩
theorem d5_0 : decode jdk_52_method_21_code 0 = .ok (.iconst 0, 1) := by decide +kernel
theorem d5_1 : decode jdk_52_method_21_code 1 = .ok (.istore 5, 2) := by decide +kernel
theorem d5_3 : decode jdk_52_method_21_code 3 = .ok (.iload 5, 2) := by decide +kernel
theorem d5_5 : decode jdk_52_method_21_code 5 = .ok (.iload 4, 2) := by decide +kernel
theorem d5_7 : decode jdk_52_method_21_code 7 = .ok (.if_icmp .ge 37, 3) := by decide +kernel
theorem d5_10 : decode jdk_52_method_21_code 10 = .ok (.aload_n 0, 1) := by decide +kernel
theorem d5_11 : decode jdk_52_method_21_code 11 = .ok (.iload_n 1, 1) := by decide +kernel
theorem d5_12 : decode jdk_52_method_21_code 12 = .ok (.caload, 1) := by decide +kernel
theorem d5_13 : decode jdk_52_method_21_code 13 = .ok (.istore 6, 2) := by decide +kernel
theorem d5_15 : decode jdk_52_method_21_code 15 = .ok (.iload 6, 2) := by decide +kernel
theorem d5_17 : decode jdk_52_method_21_code 17 = .ok (.sipush 255, 3) := by decide +kernel
theorem d5_20 : decode jdk_52_method_21_code 20 = .ok (.if_icmp .le 6, 3) := by decide +kernel
theorem d5_23 : decode jdk_52_method_21_code 23 = .ok (.iload 5, 2) := by decide +kernel
theorem d5_25 : decode jdk_52_method_21_code 25 = .ok (.ireturn, 1) := by decide +kernel
theorem d5_26 : decode jdk_52_method_21_code 26 = .ok (.aload_n 2, 1) := by decide +kernel
theorem d5_27 : decode jdk_52_method_21_code 27 = .ok (.iload_n 3, 1) := by decide +kernel
theorem d5_28 : decode jdk_52_method_21_code 28 = .ok (.iload 6, 2) := by decide +kernel
theorem d5_30 : decode jdk_52_method_21_code 30 = .ok (.i2b, 1) := by decide +kernel
theorem d5_31 : decode jdk_52_method_21_code 31 = .ok (.bastore, 1) := by decide +kernel
theorem d5_32 : decode jdk_52_method_21_code 32 = .ok (.iinc 1 1, 3) := by decide +kernel
theorem d5_35 : decode jdk_52_method_21_code 35 = .ok (.iinc 3 1, 3) := by decide +kernel
theorem d5_38 : decode jdk_52_method_21_code 38 = .ok (.iinc 5 1, 3) := by decide +kernel
theorem d5_41 : decode jdk_52_method_21_code 41 = .ok (.goto (-38), 3) := by decide +kernel
theorem d5_44 : decode jdk_52_method_21_code 44 = .ok (.iload 4, 2) := by decide +kernel
theorem d5_46 : decode jdk_52_method_21_code 46 = .ok (.ireturn, 1) := by decide +kernel
theorem ef_cmp5a_1 (m : MethodId) (s_ : Addr) (d_ : Addr) : entryFrame m #[(rr s_), (ii 0), (rr d_), (ii 0), (ii 1)] 7 = mkF m 0 #[vr s_, vi 0, vr d_, vi 0, vi 1, u_, u_] [] := by first | (simp [entryFrame, mkF, argsToLocals, Value.category]; done) | rfl
def Q_cmp5a_1 (Z : State) (s_ : Addr) (ks_ : ClassId) (d_ : Addr) (kd_ : ClassId) (c0_ : Int32) (h0 : Heap) (n0 : Nat) (v : Option Value) (h : Heap) (L : List Loc) : Prop := (v = some (ii 1) ∧ Fr n0 L ∧ Keep h0 h [d_] ∧ Arv Z h d_ kd_ .byte (1 : Int32) [(.int (nar .byte (c0_.toInt8.toInt32)))] (ii 0) ∧ ¬ ((255 : Int32) < c0_)) ∨ (v = some (ii 0) ∧ Fr n0 L ∧ Keep h0 h [d_] ∧ (255 : Int32) < c0_)
set_option maxRecDepth 65536 in
set_option maxHeartbeats 40000000 in
theorem rm_cmp5a_1 (l : Launch) (Z : State) (a0 : Array Value) (hw : HW Z a0) (ws : List Jvm.Cond) (s_ : Addr) (ks_ : ClassId) (d_ : Addr) (kd_ : ClassId) (c0_ : Int32) (h0 : Heap) (n0 : Nat) (O0 : Old Z n0 h0) (A0_ : Arv Z h0 s_ ks_ .char (1 : Int32) [(.int c0_)] (ii 0)) (A1_ : Arv Z h0 d_ kd_ .byte (1 : Int32) [(ii 0)] (ii 0)) (G2_ : n0 ≤ d_) (NE3_ : s_ ≠ d_) :
  MFP l Z (⟨nm1, "compress", "([CI[BII)I"⟩ : MethodName) jdk_52_method_21_code 7 (some .int) ({ frames := 0, cells := 0, slots := 0, locals := 0 } : Room) ws #[(rr s_), (ii 0), (rr d_), (ii 0), (ii 1)] h0 (Q_cmp5a_1 Z s_ ks_ d_ kd_ c0_ h0 n0) := by
 refine MetFree.of_bodySF (plainFor_of_name pn_java_lang_StringUTF16) hisR ?_
 intro p e s m args below meth c s₁ Bd hml0 hP hK
 obtain ⟨rfl, hZ, hh⟩ := hP
 have hx := Bd.exec
 have hby := Bd.bytes
 have hml : c.maxLocals = 7 := hml0
 have hown : s.vm.findClass nm1 = some m.cls := findClass_of_methodNamed Bd.named
 have hnm := (name_of_methodNamed Bd.named Bd.method).1
 have X0 : Stand p l e ({ frames := 0, cells := 0, slots := 0, locals := 0 } : Room) s m #[(rr s_), (ii 0), (rr d_), (ii 0), (ii 1)] below meth c s₁ [] 0 0 := Stand.of_body Bd
 have e0 : s₁.heap = h0 := by rw [← hh, Bd.state]; rfl
 have N0 := Fr.nil n0
 have kp0 : Keep h0 h0 [d_] := Keep.refl _ _
 have c0 : ∀ t, S_ p e below s₁ m 0 #[vr s_, vi 0, vr d_, vi 0, vi 1, u_, u_] [] t → Steps p.tables e below (s₁.setTop (entryFrame m #[(rr s_), (ii 0), (rr d_), (ii 0), (ii 1)] 7)) t := fun t k => castTop (ef_cmp5a_1 m s_ d_) k
 generalize s₁.setTop (entryFrame m #[(rr s_), (ii 0), (rr d_), (ii 0), (ii 1)] 7) = st0 at c0 ⊢
 replace c0 : Kt p e below s₁ st0 (mkF m 0 #[vr s_, vi 0, vr d_, vi 0, vi 1, u_, u_] []) := c0
 have c1 : Kt p e below s₁ st0 (mkF m 20 #[vr s_, vi 0, vr d_, vi 0, vi 1, vi 0, vi c0_] [(ii 255), (.int c0_)]) := fun t k => by
  refine c0 t ?_
  show S_ p e below s₁ m 0 #[vr s_, vi 0, vr d_, vi 0, vi 1, u_, u_] [] t
  refine XS.iconst X0.here hx rfl (hb hby d5_0) ?_
  show S_ p e below s₁ m 1 #[vr s_, vi 0, vr d_, vi 0, vi 1, u_, u_] [(ii 0)] t
  refine XS.istore X0.here hx rfl (hb hby d5_1) rfl (l' := #[vr s_, vi 0, vr d_, vi 0, vi 1, vi 0, u_]) rfl ?_
  show S_ p e below s₁ m 3 #[vr s_, vi 0, vr d_, vi 0, vi 1, vi 0, u_] [] t
  refine XS.iload X0.here hx rfl (hb hby d5_3) rfl ?_
  show S_ p e below s₁ m 5 #[vr s_, vi 0, vr d_, vi 0, vi 1, vi 0, u_] [(ii 0)] t
  refine XS.iload X0.here hx rfl (hb hby d5_5) rfl ?_
  show S_ p e below s₁ m 7 #[vr s_, vi 0, vr d_, vi 0, vi 1, vi 0, u_] [(ii 1), (ii 0)] t
  refine XS.icmpNo X0.here hx rfl (hb hby d5_7) rfl rfl ?_
  show S_ p e below s₁ m 10 #[vr s_, vi 0, vr d_, vi 0, vi 1, vi 0, u_] [] t
  refine XS.aloadN X0.here hx rfl (hb hby d5_10) rfl rfl ?_
  show S_ p e below s₁ m 11 #[vr s_, vi 0, vr d_, vi 0, vi 1, vi 0, u_] [(rr s_)] t
  refine XS.iloadN X0.here hx rfl (hb hby d5_11) rfl ?_
  show S_ p e below s₁ m 12 #[vr s_, vi 0, vr d_, vi 0, vi 1, vi 0, u_] [(ii 0), (rr s_)] t
  refine ldC X0 hx hZ e0 A0_ (v := (.int c0_)) (by decide) (by decide) rfl rfl rfl (hb hby d5_12) ?_
  show S_ p e below s₁ m 13 #[vr s_, vi 0, vr d_, vi 0, vi 1, vi 0, u_] [(.int c0_)] t
  refine XS.istore X0.here hx rfl (hb hby d5_13) rfl (l' := #[vr s_, vi 0, vr d_, vi 0, vi 1, vi 0, vi c0_]) rfl ?_
  show S_ p e below s₁ m 15 #[vr s_, vi 0, vr d_, vi 0, vi 1, vi 0, vi c0_] [] t
  refine XS.iload X0.here hx rfl (hb hby d5_15) rfl ?_
  show S_ p e below s₁ m 17 #[vr s_, vi 0, vr d_, vi 0, vi 1, vi 0, vi c0_] [(.int c0_)] t
  refine XS.sipush X0.here hx rfl (hb hby d5_17) ?_
  exact k
 by_cases hc2 : (255 : Int32) < c0_
 ·obtain ⟨fs, hr, hrun, hended, hW, hsame⟩ := X0.leave (v := some (ii 0)) (fun h => by rw [Bd.returns] at h; cases h)
  refine ⟨_, _, c1 _ ?_, hrun, hended, _, _, rfl, ?_, ⟨_, rfl⟩, hW, hsame.mono (by decide) (by decide)⟩
  ·show S_ p e below s₁ m 20 #[vr s_, vi 0, vr d_, vi 0, vi 1, vi 0, vi c0_] [(ii 255), (.int c0_)] _
   refine XS.icmpNo X0.here hx rfl (hb hby d5_20) rfl (tlt hc2).2.2.2 ?_
   show S_ p e below s₁ m 23 #[vr s_, vi 0, vr d_, vi 0, vi 1, vi 0, vi c0_] [] _
   refine XS.iload X0.here hx rfl (hb hby d5_23) rfl ?_
   show S_ p e below s₁ m 25 #[vr s_, vi 0, vr d_, vi 0, vi 1, vi 0, vi c0_] [(ii 0)] _
   exact retOut X0 hx Bd.returns rfl (Or.inl ⟨rfl, Or.inl rfl, _, rfl⟩) (hb hby d5_25) hr
  ·show Q_cmp5a_1 Z s_ ks_ d_ kd_ c0_ h0 n0 _ s₁.heap _
   rw [e0]
   exact (Or.inr (⟨rfl, N0, kp0, hc2⟩))
 ·have c3 : Kt p e below s₁ st0 (mkF m 31 #[vr s_, vi 0, vr d_, vi 0, vi 1, vi 0, vi c0_] [(.int (c0_.toInt8.toInt32)), (ii 0), (rr d_)]) := fun t k => by
   refine c1 t ?_
   show S_ p e below s₁ m 20 #[vr s_, vi 0, vr d_, vi 0, vi 1, vi 0, vi c0_] [(ii 255), (.int c0_)] t
   refine yC X0.here hx rfl 20 26 rfl (hb hby d5_20) rfl (flt hc2).2.2.2 ?_
   show S_ p e below s₁ m 26 #[vr s_, vi 0, vr d_, vi 0, vi 1, vi 0, vi c0_] [] t
   refine XS.aloadN X0.here hx rfl (hb hby d5_26) rfl rfl ?_
   show S_ p e below s₁ m 27 #[vr s_, vi 0, vr d_, vi 0, vi 1, vi 0, vi c0_] [(rr d_)] t
   refine XS.iloadN X0.here hx rfl (hb hby d5_27) rfl ?_
   show S_ p e below s₁ m 28 #[vr s_, vi 0, vr d_, vi 0, vi 1, vi 0, vi c0_] [(ii 0), (rr d_)] t
   refine XS.iload X0.here hx rfl (hb hby d5_28) rfl ?_
   show S_ p e below s₁ m 30 #[vr s_, vi 0, vr d_, vi 0, vi 1, vi 0, vi c0_] [(.int c0_), (ii 0), (rr d_)] t
   refine XS.i2b X0.here hx rfl (hb hby d5_30) rfl ?_
   exact k
  obtain ⟨T4, h4, X4, e4, W4, f7, o5, N6, c4⟩ := kstB X0 hx hZ e0 A1_ (j := (0 : Int32)) (by decide) (by decide) 0 rfl (Nat.le_of_ble_eq_true rfl) c3 rfl rfl (hb hby d5_31) O0 N0 G2_
  have f8 : Arv Z h4 d_ kd_ .byte (1 : Int32) [(.int (nar .byte (c0_.toInt8.toInt32)))] (ii 0) := f7
  have kp9 := kp0.wr W4 (Or.inl (List.mem_of_getElem? (i := 0) rfl))
  obtain ⟨fs, hr, hrun, hended, hW, hsame⟩ := X4.leave (v := some (ii 1)) (fun h => by rw [Bd.returns] at h; cases h)
  refine ⟨_, _, c4 _ ?_, hrun, hended, _, _, rfl, ?_, ⟨_, rfl⟩, hW, hsame.mono (by decide) (by decide)⟩
  ·show S_ p e below T4 m 32 #[vr s_, vi 0, vr d_, vi 0, vi 1, vi 0, vi c0_] [] _
   refine XS.iinc X4.here hx rfl (hb hby d5_32) rfl (l' := #[vr s_, vi 1, vr d_, vi 0, vi 1, vi 0, vi c0_]) rfl ?_
   show S_ p e below T4 m 35 #[vr s_, vi 1, vr d_, vi 0, vi 1, vi 0, vi c0_] [] _
   refine XS.iinc X4.here hx rfl (hb hby d5_35) rfl (l' := #[vr s_, vi 1, vr d_, vi 1, vi 1, vi 0, vi c0_]) rfl ?_
   show S_ p e below T4 m 38 #[vr s_, vi 1, vr d_, vi 1, vi 1, vi 0, vi c0_] [] _
   refine XS.iinc X4.here hx rfl (hb hby d5_38) rfl (l' := #[vr s_, vi 1, vr d_, vi 1, vi 1, vi 1, vi c0_]) rfl ?_
   show S_ p e below T4 m 41 #[vr s_, vi 1, vr d_, vi 1, vi 1, vi 1, vi c0_] [] _
   refine yG X4.here hx rfl 41 3 rfl (hb hby d5_41) ?_
   show S_ p e below T4 m 3 #[vr s_, vi 1, vr d_, vi 1, vi 1, vi 1, vi c0_] [] _
   refine XS.iload X4.here hx rfl (hb hby d5_3) rfl ?_
   show S_ p e below T4 m 5 #[vr s_, vi 1, vr d_, vi 1, vi 1, vi 1, vi c0_] [(ii 1)] _
   refine XS.iload X4.here hx rfl (hb hby d5_5) rfl ?_
   show S_ p e below T4 m 7 #[vr s_, vi 1, vr d_, vi 1, vi 1, vi 1, vi c0_] [(ii 1), (ii 1)] _
   refine yC X4.here hx rfl 7 44 rfl (hb hby d5_7) rfl rfl ?_
   show S_ p e below T4 m 44 #[vr s_, vi 1, vr d_, vi 1, vi 1, vi 1, vi c0_] [] _
   refine XS.iload X4.here hx rfl (hb hby d5_44) rfl ?_
   show S_ p e below T4 m 46 #[vr s_, vi 1, vr d_, vi 1, vi 1, vi 1, vi c0_] [(ii 1)] _
   exact retOut X4 hx Bd.returns rfl (Or.inl ⟨rfl, Or.inl rfl, _, rfl⟩) (hb hby d5_46) hr
  ·show Q_cmp5a_1 Z s_ ks_ d_ kd_ c0_ h0 n0 _ T4.heap _
   rw [e4]
   exact (Or.inl ⟨rfl, N6, kp9, f8, hc2⟩)
theorem d6_0 : decode jdk_52_method_3_code 0 = .ok (.iload_n 0, 1) := by decide +kernel
theorem d6_1 : decode jdk_52_method_3_code 1 = .ok (.ifCond .ge 11, 3) := by decide +kernel
theorem d6_12 : decode jdk_52_method_3_code 12 = .ok (.iload_n 0, 1) := by decide +kernel
theorem d6_13 : decode jdk_52_method_3_code 13 = .ok (.ldc 20, 2) := by decide +kernel
theorem d6_15 : decode jdk_52_method_3_code 15 = .ok (.if_icmp .lt 40, 3) := by decide +kernel
theorem d6_55 : decode jdk_52_method_3_code 55 = .ok (.iload_n 0, 1) := by decide +kernel
theorem d6_56 : decode jdk_52_method_3_code 56 = .ok (.iconst 1, 1) := by decide +kernel
theorem d6_57 : decode jdk_52_method_3_code 57 = .ok (.ishl, 1) := by decide +kernel
theorem d6_58 : decode jdk_52_method_3_code 58 = .ok (.ireturn, 1) := by decide +kernel
theorem ef_nbl_1 (m : MethodId) : entryFrame m #[(ii 1)] 1 = mkF m 0 #[vi 1] [] := by first | (simp [entryFrame, mkF, argsToLocals, Value.category]; done) | rfl
def Q_nbl_1 (Z : State) (h0 : Heap) (n0 : Nat) (v : Option Value) (h : Heap) (L : List Loc) : Prop := v = some (ii 2) ∧ Fr n0 L ∧ h = h0
set_option maxRecDepth 65536 in
set_option maxHeartbeats 40000000 in
theorem rm_nbl_1 (l : Launch) (Z : State) (a0 : Array Value) (hw : HW Z a0) (ws : List Jvm.Cond) (h0 : Heap) (n0 : Nat) (O0 : Old Z n0 h0) :
  MFP l Z (⟨nm1, "newBytesLength", "(I)I"⟩ : MethodName) jdk_52_method_3_code 1 (some .int) ({ frames := 0, cells := 0, slots := 0, locals := 0 } : Room) ws #[(ii 1)] h0 (Q_nbl_1 Z h0 n0) := by
 refine MetFree.of_bodySF (plainFor_of_name pn_java_lang_StringUTF16) hisR ?_
 intro p e s m args below meth c s₁ Bd hml0 hP hK
 obtain ⟨rfl, hZ, hh⟩ := hP
 have hx := Bd.exec
 have hby := Bd.bytes
 have hml : c.maxLocals = 1 := hml0
 have hown : s.vm.findClass nm1 = some m.cls := findClass_of_methodNamed Bd.named
 have hnm := (name_of_methodNamed Bd.named Bd.method).1
 have X0 : Stand p l e ({ frames := 0, cells := 0, slots := 0, locals := 0 } : Room) s m #[(ii 1)] below meth c s₁ [] 0 0 := Stand.of_body Bd
 have e0 : s₁.heap = h0 := by rw [← hh, Bd.state]; rfl
 have N0 := Fr.nil n0
 have kp0 : Keep h0 h0 [] := Keep.refl _ _
 have c0 : ∀ t, S_ p e below s₁ m 0 #[vi 1] [] t → Steps p.tables e below (s₁.setTop (entryFrame m #[(ii 1)] 1)) t := fun t k => castTop (ef_nbl_1 m) k
 generalize s₁.setTop (entryFrame m #[(ii 1)] 1) = st0 at c0 ⊢
 replace c0 : Kt p e below s₁ st0 (mkF m 0 #[vi 1] []) := c0
 obtain ⟨fs, hr, hrun, hended, hW, hsame⟩ := X0.leave (v := some (ii 2)) (fun h => by rw [Bd.returns] at h; cases h)
 refine ⟨_, _, c0 _ ?_, hrun, hended, _, _, rfl, ?_, ⟨_, rfl⟩, hW, hsame.mono (by decide) (by decide)⟩
 ·show S_ p e below s₁ m 0 #[vi 1] [] _
  refine XS.iloadN X0.here hx rfl (hb hby d6_0) rfl ?_
  show S_ p e below s₁ m 1 #[vi 1] [(ii 1)] _
  refine yI X0.here hx rfl 1 12 rfl (hb hby d6_1) rfl rfl ?_
  show S_ p e below s₁ m 12 #[vi 1] [] _
  refine XS.iloadN X0.here hx rfl (hb hby d6_12) rfl ?_
  show S_ p e below s₁ m 13 #[vi 1] [(ii 1)] _
  refine X0.ldcInt hx hown (mvT hZ (w80 hw)) (g := (mkF m 13 #[vi 1] [(ii 1)])) rfl (hb hby d6_13) _ ?_
  show S_ p e below s₁ m 15 #[vi 1] [(ii 1073741823), (ii 1)] _
  refine yC X0.here hx rfl 15 55 rfl (hb hby d6_15) rfl rfl ?_
  show S_ p e below s₁ m 55 #[vi 1] [] _
  refine XS.iloadN X0.here hx rfl (hb hby d6_55) rfl ?_
  show S_ p e below s₁ m 56 #[vi 1] [(ii 1)] _
  refine XS.iconst X0.here hx rfl (hb hby d6_56) ?_
  show S_ p e below s₁ m 57 #[vi 1] [(ii 1), (ii 1)] _
  refine XS.ishl X0.here hx rfl (hb hby d6_57) rfl ?_
  show S_ p e below s₁ m 58 #[vi 1] [(ii 2)] _
  exact retOut X0 hx Bd.returns rfl (Or.inl ⟨rfl, Or.inl rfl, _, rfl⟩) (hb hby d6_58) hr
 ·show Q_nbl_1 Z h0 n0 _ s₁.heap _
  rw [e0]
  exact ⟨rfl, N0, rfl⟩
theorem d7_0 : decode jdk_52_method_2_code 0 = .ok (.iload_n 0, 1) := by decide +kernel
theorem d7_1 : decode jdk_52_method_2_code 1 = .ok (.invokestatic 11, 3) := by decide +kernel
theorem pd_pIrI : parseMethodDescriptor "(I)I" = some ⟨[.int], some .int⟩ := by decide +kernel
theorem d7_4 : decode jdk_52_method_2_code 4 = .ok (.newarray .byte, 2) := by decide +kernel
theorem d7_6 : decode jdk_52_method_2_code 6 = .ok (.areturn, 1) := by decide +kernel
theorem ef_nbf_1 (m : MethodId) : entryFrame m #[(ii 1)] 1 = mkF m 0 #[vi 1] [] := by first | (simp [entryFrame, mkF, argsToLocals, Value.category]; done) | rfl
def Q_nbf_1 (Z : State) (h0 : Heap) (n0 : Nat) (v : Option Value) (h : Heap) (L : List Loc) : Prop := ∃ (b_ : Addr), ∃ (kb_ : ClassId), v = some (rr b_) ∧ Fr n0 L ∧ Keep h0 h [] ∧ Arv Z h b_ kb_ .byte (2 : Int32) [(ii 0), (ii 0)] (ii 0) ∧ n0 ≤ b_ ∧ h0.size ≤ b_
set_option maxRecDepth 65536 in
set_option maxHeartbeats 40000000 in
theorem rm_nbf_1 (l : Launch) (Z : State) (a0 : Array Value) (hw : HW Z a0) (ws : List Jvm.Cond) (h0 : Heap) (n0 : Nat) (O0 : Old Z n0 h0) :
  MFP l Z (⟨nm1, "newBytesFor", "(I)[B"⟩ : MethodName) jdk_52_method_2_code 1 (some (.array .byte)) ({ frames := 1, cells := 1, slots := 2, locals := 12 } : Room) ws #[(ii 1)] h0 (Q_nbf_1 Z h0 n0) := by
 refine MetFree.of_bodySF (plainFor_of_name pn_java_lang_StringUTF16) hisR ?_
 intro p e s m args below meth c s₁ Bd hml0 hP hK
 obtain ⟨rfl, hZ, hh⟩ := hP
 have hx := Bd.exec
 have hby := Bd.bytes
 have hml : c.maxLocals = 1 := hml0
 have hown : s.vm.findClass nm1 = some m.cls := findClass_of_methodNamed Bd.named
 have hnm := (name_of_methodNamed Bd.named Bd.method).1
 have X0 : Stand p l e ({ frames := 1, cells := 1, slots := 2, locals := 12 } : Room) s m #[(ii 1)] below meth c s₁ [] 0 0 := Stand.of_body Bd
 have e0 : s₁.heap = h0 := by rw [← hh, Bd.state]; rfl
 have N0 := Fr.nil n0
 have kp0 : Keep h0 h0 [] := Keep.refl _ _
 have c0 : ∀ t, S_ p e below s₁ m 0 #[vi 1] [] t → Steps p.tables e below (s₁.setTop (entryFrame m #[(ii 1)] 1)) t := fun t k => castTop (ef_nbf_1 m) k
 generalize s₁.setTop (entryFrame m #[(ii 1)] 1) = st0 at c0 ⊢
 replace c0 : Kt p e below s₁ st0 (mkF m 0 #[vi 1] []) := c0
 have c1 : Kt p e below s₁ st0 (mkF m 1 #[vi 1] [(ii 1)]) := fun t k => by
  refine c0 t ?_
  show S_ p e below s₁ m 0 #[vi 1] [] t
  refine XS.iloadN X0.here hx rfl (hb hby d7_0) rfl ?_
  exact k
 obtain ⟨_, T2, L2, X2, hQ2, c2⟩ := kstat X0 hx hZ hown (w77 hw) (w78 hw) (w41 hw) (w79 hw) (rm_nbl_1 l Z a0 hw []  h0 n0 O0 ) e0 c1 hml pd_pIrI [(ii 1)] [] 0 (hb hby d7_1) rfl rfl rfl rfl rfl rfl
 obtain ⟨rfl, N3q, K4⟩ := hQ2
 have N3 := Fr.app N0 N3q
 obtain ⟨b5, T5, h5, k5, z5, g5, X5, e5, E5, o6, A5, c5⟩ := knewP (aty := .byte) X2 hx hZ (w17 hw) K4 c2 rfl (hb hby d7_4) rfl (by decide) 2 (by decide) (by decide) (by decide) (by decide) O0
 have kp8 := kp0.ext E5
 have z9 := Nat.le_trans kp0.1 z5
 have f7 : Arv Z h5 b5 k5 .byte (2 : Int32) [(ii 0), (ii 0)] (ii 0) := A5.pad (pad_rep [] (ii 0) 2)
 obtain ⟨fs, hr, hrun, hended, hW, hsame⟩ := X5.leave (v := some (rr b5)) (fun h => by rw [Bd.returns] at h; cases h)
 refine ⟨_, _, c5 _ ?_, hrun, hended, _, _, rfl, ?_, ⟨_, rfl⟩, hW, hsame.mono (by decide) (by decide)⟩
 ·show S_ p e below T5 m 6 #[vi 1] [(rr b5)] _
  exact retOut X5 hx Bd.returns rfl (Or.inr (Or.inr (Or.inr (Or.inr ⟨rfl, rfl, rfl⟩)))) (hb hby d7_6) hr
 ·show Q_nbf_1 Z h0 n0 _ T5.heap _
  rw [e5]
  exact ⟨b5, k5, rfl, N3, kp8, f7, g5, z9⟩
theorem d8_0 : decode jdk_52_method_14_code 0 = .ok (.iload_n 2, 1) := by decide +kernel
theorem d8_1 : decode jdk_52_method_14_code 1 = .ok (.invokestatic 107, 3) := by decide +kernel
theorem pd_pIrAB : parseMethodDescriptor "(I)[B" = some ⟨[.int], some (.array .byte)⟩ := by decide +kernel
theorem d8_4 : decode jdk_52_method_14_code 4 = .ok (.astore_n 3, 1) := by decide +kernel
theorem d8_5 : decode jdk_52_method_14_code 5 = .ok (.iconst 0, 1) := by decide +kernel
theorem d8_6 : decode jdk_52_method_14_code 6 = .ok (.istore 4, 2) := by decide +kernel
theorem d8_8 : decode jdk_52_method_14_code 8 = .ok (.iload 4, 2) := by decide +kernel
theorem d8_10 : decode jdk_52_method_14_code 10 = .ok (.iload_n 2, 1) := by decide +kernel
theorem d8_11 : decode jdk_52_method_14_code 11 = .ok (.if_icmp .ge 21, 3) := by decide +kernel
theorem d8_14 : decode jdk_52_method_14_code 14 = .ok (.aload_n 3, 1) := by decide +kernel
theorem d8_15 : decode jdk_52_method_14_code 15 = .ok (.iload 4, 2) := by decide +kernel
theorem d8_17 : decode jdk_52_method_14_code 17 = .ok (.aload_n 0, 1) := by decide +kernel
theorem d8_18 : decode jdk_52_method_14_code 18 = .ok (.iload_n 1, 1) := by decide +kernel
theorem d8_19 : decode jdk_52_method_14_code 19 = .ok (.caload, 1) := by decide +kernel
theorem d8_20 : decode jdk_52_method_14_code 20 = .ok (.invokestatic 111, 3) := by decide +kernel
theorem pd_pABIIrV : parseMethodDescriptor "([BII)V" = some ⟨[(.array .byte), .int, .int], none⟩ := by decide +kernel
theorem d8_23 : decode jdk_52_method_14_code 23 = .ok (.iinc 1 1, 3) := by decide +kernel
theorem d8_26 : decode jdk_52_method_14_code 26 = .ok (.iinc 4 1, 3) := by decide +kernel
theorem d8_29 : decode jdk_52_method_14_code 29 = .ok (.goto (-21), 3) := by decide +kernel
theorem d8_32 : decode jdk_52_method_14_code 32 = .ok (.aload_n 3, 1) := by decide +kernel
theorem d8_33 : decode jdk_52_method_14_code 33 = .ok (.areturn, 1) := by decide +kernel
theorem ef_tob_1 (m : MethodId) (s_ : Addr) : entryFrame m #[(rr s_), (ii 0), (ii 1)] 5 = mkF m 0 #[vr s_, vi 0, vi 1, u_, u_] [] := by first | (simp [entryFrame, mkF, argsToLocals, Value.category]; done) | rfl
def Q_tob_1 (Z : State) (s_ : Addr) (ks_ : ClassId) (c0_ : Int32) (h0 : Heap) (n0 : Nat) (v : Option Value) (h : Heap) (L : List Loc) : Prop := ∃ (b_ : Addr), ∃ (kb_ : ClassId), v = some (rr b_) ∧ Fr n0 L ∧ Keep h0 h [] ∧ Arv Z h b_ kb_ .byte (2 : Int32) [(.int (nar .byte ((c0_ >>> ((0 : Int32) &&& 31)).toInt8.toInt32))), (.int (nar .byte ((c0_ >>> ((8 : Int32) &&& 31)).toInt8.toInt32)))] (ii 0) ∧ n0 ≤ b_ ∧ h0.size ≤ b_
set_option maxRecDepth 65536 in
set_option maxHeartbeats 40000000 in
theorem rm_tob_1 (l : Launch) (Z : State) (a0 : Array Value) (hw : HW Z a0) (ws : List Jvm.Cond) (s_ : Addr) (ks_ : ClassId) (c0_ : Int32) (h0 : Heap) (n0 : Nat) (O0 : Old Z n0 h0) (A0_ : Arv Z h0 s_ ks_ .char (1 : Int32) [(.int c0_)] (ii 0)) (ZS1_ : Sta Z Z.heap nm1 "$assertionsDisabled" "Z" (ii 1)) (ZS2_ : Sta Z Z.heap nm1 "HI_BYTE_SHIFT" "I" (ii 0)) (ZS3_ : Sta Z Z.heap nm1 "LO_BYTE_SHIFT" "I" (ii 8)) :
  MFP l Z (⟨nm1, "toBytes", "([CII)[B"⟩ : MethodName) jdk_52_method_14_code 5 (some (.array .byte)) ({ frames := 2, cells := 1, slots := 2, locals := 24 } : Room) ws #[(rr s_), (ii 0), (ii 1)] h0 (Q_tob_1 Z s_ ks_ c0_ h0 n0) := by
 refine MetFree.of_bodySF (plainFor_of_name pn_java_lang_StringUTF16) hisR ?_
 intro p e s m args below meth c s₁ Bd hml0 hP hK
 obtain ⟨rfl, hZ, hh⟩ := hP
 have hx := Bd.exec
 have hby := Bd.bytes
 have hml : c.maxLocals = 5 := hml0
 have hown : s.vm.findClass nm1 = some m.cls := findClass_of_methodNamed Bd.named
 have hnm := (name_of_methodNamed Bd.named Bd.method).1
 have X0 : Stand p l e ({ frames := 2, cells := 1, slots := 2, locals := 24 } : Room) s m #[(rr s_), (ii 0), (ii 1)] below meth c s₁ [] 0 0 := Stand.of_body Bd
 have e0 : s₁.heap = h0 := by rw [← hh, Bd.state]; rfl
 have N0 := Fr.nil n0
 have kp0 : Keep h0 h0 [] := Keep.refl _ _
 have c0 : ∀ t, S_ p e below s₁ m 0 #[vr s_, vi 0, vi 1, u_, u_] [] t → Steps p.tables e below (s₁.setTop (entryFrame m #[(rr s_), (ii 0), (ii 1)] 5)) t := fun t k => castTop (ef_tob_1 m s_) k
 generalize s₁.setTop (entryFrame m #[(rr s_), (ii 0), (ii 1)] 5) = st0 at c0 ⊢
 replace c0 : Kt p e below s₁ st0 (mkF m 0 #[vr s_, vi 0, vi 1, u_, u_] []) := c0
 have c1 : Kt p e below s₁ st0 (mkF m 1 #[vr s_, vi 0, vi 1, u_, u_] [(ii 1)]) := fun t k => by
  refine c0 t ?_
  show S_ p e below s₁ m 0 #[vr s_, vi 0, vi 1, u_, u_] [] t
  refine XS.iloadN X0.here hx rfl (hb hby d8_0) rfl ?_
  exact k
 obtain ⟨_, T2, L2, X2, hQ2, c2⟩ := kstat X0 hx hZ hown (w74 hw) (w75 hw) (w41 hw) (w76 hw) (rm_nbf_1 l Z a0 hw []  h0 n0 O0 ) e0 c1 hml pd_pIrAB [(ii 1)] [] 0 (hb hby d8_1) rfl rfl rfl rfl rfl rfl
 obtain ⟨b3, k4, rfl, N5q, K6, p7, p8, p9⟩ := hQ2
 have N5 := Fr.app N0 N5q
 have o10 := O0.keep K6 all0
 have kp11 := kp0.trans K6 all0
 have z12 := Nat.le_trans kp0.1 p9
 have g13 := Nat.le_trans (Nat.le_trans (Nat.le_of_eq O0.1.symm) O0.2.1) p9
 have c14 : Kt p e below T2 st0 (mkF m 20 #[vr s_, vi 0, vi 1, vr b3, vi 0] [(.int c0_), (ii 0), (rr b3)]) := fun t k => by
  refine c2 t ?_
  show S_ p e below T2 m 4 #[vr s_, vi 0, vi 1, u_, u_] [(rr b3)] t
  refine XS.astoreN X2.here hx rfl (hb hby d8_4) rfl rfl (l' := #[vr s_, vi 0, vi 1, vr b3, u_]) rfl ?_
  show S_ p e below T2 m 5 #[vr s_, vi 0, vi 1, vr b3, u_] [] t
  refine XS.iconst X2.here hx rfl (hb hby d8_5) ?_
  show S_ p e below T2 m 6 #[vr s_, vi 0, vi 1, vr b3, u_] [(ii 0)] t
  refine XS.istore X2.here hx rfl (hb hby d8_6) rfl (l' := #[vr s_, vi 0, vi 1, vr b3, vi 0]) rfl ?_
  show S_ p e below T2 m 8 #[vr s_, vi 0, vi 1, vr b3, vi 0] [] t
  refine XS.iload X2.here hx rfl (hb hby d8_8) rfl ?_
  show S_ p e below T2 m 10 #[vr s_, vi 0, vi 1, vr b3, vi 0] [(ii 0)] t
  refine XS.iloadN X2.here hx rfl (hb hby d8_10) rfl ?_
  show S_ p e below T2 m 11 #[vr s_, vi 0, vi 1, vr b3, vi 0] [(ii 1), (ii 0)] t
  refine XS.icmpNo X2.here hx rfl (hb hby d8_11) rfl rfl ?_
  show S_ p e below T2 m 14 #[vr s_, vi 0, vi 1, vr b3, vi 0] [] t
  refine XS.aloadN X2.here hx rfl (hb hby d8_14) rfl rfl ?_
  show S_ p e below T2 m 15 #[vr s_, vi 0, vi 1, vr b3, vi 0] [(rr b3)] t
  refine XS.iload X2.here hx rfl (hb hby d8_15) rfl ?_
  show S_ p e below T2 m 17 #[vr s_, vi 0, vi 1, vr b3, vi 0] [(ii 0), (rr b3)] t
  refine XS.aloadN X2.here hx rfl (hb hby d8_17) rfl rfl ?_
  show S_ p e below T2 m 18 #[vr s_, vi 0, vi 1, vr b3, vi 0] [(rr s_), (ii 0), (rr b3)] t
  refine XS.iloadN X2.here hx rfl (hb hby d8_18) rfl ?_
  show S_ p e below T2 m 19 #[vr s_, vi 0, vi 1, vr b3, vi 0] [(ii 0), (rr s_), (ii 0), (rr b3)] t
  refine ldC X2 hx hZ rfl (A0_.keep K6 nin0) (v := (.int c0_)) (by decide) (by decide) rfl rfl rfl (hb hby d8_19) ?_
  exact k
 obtain ⟨_, T15, L15, X15, hQ15, c15⟩ := kstat X2 hx hZ hown (w81 hw) (w82 hw) (w41 hw) (w83 hw) (rm_putc l Z a0 hw [] b3 k4 (2 : Int32) [(ii 0), (ii 0)] (0 : Int32) c0_ T2.heap n0 o10 p7 g13 ZS1_ ZS2_ ZS3_ (by decide) (by decide) (by decide) (by decide) (Nat.le_of_ble_eq_true rfl) (Nat.le_of_ble_eq_true rfl)) rfl c14 hml pd_pABIIrV [(rr b3), (ii 0), (.int c0_)] [] 0 (hb hby d8_20) rfl rfl rfl rfl rfl rfl
 obtain ⟨rfl, N16q, K17, p18⟩ := hQ15
 have N16 := Fr.app N5 N16q
 have o19 := o10.keep K17 (allS g13 all0)
 have kp20 := kp11.trans K17 (allS (Or.inr z12) all0)
 have f21 : Arv Z T15.heap b3 k4 .byte (2 : Int32) [(.int (nar .byte ((c0_ >>> ((0 : Int32) &&& 31)).toInt8.toInt32))), (.int (nar .byte ((c0_ >>> ((8 : Int32) &&& 31)).toInt8.toInt32)))] (ii 0) := p18
 obtain ⟨fs, hr, hrun, hended, hW, hsame⟩ := X15.leave (v := some (rr b3)) (fun h => by rw [Bd.returns] at h; cases h)
 refine ⟨_, _, c15 _ ?_, hrun, hended, _, _, rfl, ?_, ⟨_, rfl⟩, hW, hsame.mono (by decide) (by decide)⟩
 ·show S_ p e below T15 m 23 #[vr s_, vi 0, vi 1, vr b3, vi 0] [] _
  refine XS.iinc X15.here hx rfl (hb hby d8_23) rfl (l' := #[vr s_, vi 1, vi 1, vr b3, vi 0]) rfl ?_
  show S_ p e below T15 m 26 #[vr s_, vi 1, vi 1, vr b3, vi 0] [] _
  refine XS.iinc X15.here hx rfl (hb hby d8_26) rfl (l' := #[vr s_, vi 1, vi 1, vr b3, vi 1]) rfl ?_
  show S_ p e below T15 m 29 #[vr s_, vi 1, vi 1, vr b3, vi 1] [] _
  refine yG X15.here hx rfl 29 8 rfl (hb hby d8_29) ?_
  show S_ p e below T15 m 8 #[vr s_, vi 1, vi 1, vr b3, vi 1] [] _
  refine XS.iload X15.here hx rfl (hb hby d8_8) rfl ?_
  show S_ p e below T15 m 10 #[vr s_, vi 1, vi 1, vr b3, vi 1] [(ii 1)] _
  refine XS.iloadN X15.here hx rfl (hb hby d8_10) rfl ?_
  show S_ p e below T15 m 11 #[vr s_, vi 1, vi 1, vr b3, vi 1] [(ii 1), (ii 1)] _
  refine yC X15.here hx rfl 11 32 rfl (hb hby d8_11) rfl rfl ?_
  show S_ p e below T15 m 32 #[vr s_, vi 1, vi 1, vr b3, vi 1] [] _
  refine XS.aloadN X15.here hx rfl (hb hby d8_32) rfl rfl ?_
  show S_ p e below T15 m 33 #[vr s_, vi 1, vi 1, vr b3, vi 1] [(rr b3)] _
  exact retOut X15 hx Bd.returns rfl (Or.inr (Or.inr (Or.inr (Or.inr ⟨rfl, rfl, rfl⟩)))) (hb hby d8_33) hr
 ·show Q_tob_1 Z s_ ks_ c0_ h0 n0 _ T15.heap _
  exact ⟨b3, k4, rfl, N16, kp20, f21, g13, z12⟩
theorem d9_0 : decode jdk_52_method_16_code 0 = .ok (.iload_n 2, 1) := by decide +kernel
theorem d9_1 : decode jdk_52_method_16_code 1 = .ok (.newarray .byte, 2) := by decide +kernel
theorem d9_3 : decode jdk_52_method_16_code 3 = .ok (.astore_n 3, 1) := by decide +kernel
theorem d9_4 : decode jdk_52_method_16_code 4 = .ok (.aload_n 0, 1) := by decide +kernel
theorem d9_5 : decode jdk_52_method_16_code 5 = .ok (.iload_n 1, 1) := by decide +kernel
theorem d9_6 : decode jdk_52_method_16_code 6 = .ok (.aload_n 3, 1) := by decide +kernel
theorem d9_7 : decode jdk_52_method_16_code 7 = .ok (.iconst 0, 1) := by decide +kernel
theorem d9_8 : decode jdk_52_method_16_code 8 = .ok (.iload_n 2, 1) := by decide +kernel
theorem d9_9 : decode jdk_52_method_16_code 9 = .ok (.invokestatic 115, 3) := by decide +kernel
theorem pd_pACIABIIrI : parseMethodDescriptor "([CI[BII)I" = some ⟨[(.array .char), .int, (.array .byte), .int, .int], some .int⟩ := by decide +kernel
theorem d9_12 : decode jdk_52_method_16_code 12 = .ok (.istore 4, 2) := by decide +kernel
theorem d9_14 : decode jdk_52_method_16_code 14 = .ok (.iload 4, 2) := by decide +kernel
theorem d9_16 : decode jdk_52_method_16_code 16 = .ok (.iload_n 2, 1) := by decide +kernel
theorem d9_17 : decode jdk_52_method_16_code 17 = .ok (.if_icmp .eq 40, 3) := by decide +kernel
theorem d9_57 : decode jdk_52_method_16_code 57 = .ok (.aload_n 3, 1) := by decide +kernel
theorem d9_58 : decode jdk_52_method_16_code 58 = .ok (.areturn, 1) := by decide +kernel
theorem d9_20 : decode jdk_52_method_16_code 20 = .ok (.aload_n 0, 1) := by decide +kernel
theorem d9_21 : decode jdk_52_method_16_code 21 = .ok (.iload_n 1, 1) := by decide +kernel
theorem d9_22 : decode jdk_52_method_16_code 22 = .ok (.iload_n 2, 1) := by decide +kernel
theorem d9_23 : decode jdk_52_method_16_code 23 = .ok (.invokestatic 119, 3) := by decide +kernel
theorem pd_pACIIrAB : parseMethodDescriptor "([CII)[B" = some ⟨[(.array .char), .int, .int], some (.array .byte)⟩ := by decide +kernel
theorem d9_26 : decode jdk_52_method_16_code 26 = .ok (.astore 5, 2) := by decide +kernel
theorem d9_28 : decode jdk_52_method_16_code 28 = .ok (.aload 5, 2) := by decide +kernel
theorem d9_30 : decode jdk_52_method_16_code 30 = .ok (.iload 4, 2) := by decide +kernel
theorem d9_32 : decode jdk_52_method_16_code 32 = .ok (.invokestatic 71, 3) := by decide +kernel
theorem pd_pABIrC : parseMethodDescriptor "([BI)C" = some ⟨[(.array .byte), .int], some .char⟩ := by decide +kernel
theorem d9_35 : decode jdk_52_method_16_code 35 = .ok (.sipush 255, 3) := by decide +kernel
theorem d9_38 : decode jdk_52_method_16_code 38 = .ok (.if_icmp .gt 16, 3) := by decide +kernel
theorem d9_54 : decode jdk_52_method_16_code 54 = .ok (.aload 5, 2) := by decide +kernel
theorem d9_56 : decode jdk_52_method_16_code 56 = .ok (.areturn, 1) := by decide +kernel
theorem ef_cmp3a_1 (m : MethodId) (s_ : Addr) : entryFrame m #[(rr s_), (ii 0), (ii 1)] 6 = mkF m 0 #[vr s_, vi 0, vi 1, u_, u_, u_] [] := by first | (simp [entryFrame, mkF, argsToLocals, Value.category]; done) | rfl
def Q_cmp3a_1 (Z : State) (s_ : Addr) (ks_ : ClassId) (c0_ : Int32) (h0 : Heap) (n0 : Nat) (v : Option Value) (h : Heap) (L : List Loc) : Prop := (∃ (b_ : Addr), ∃ (kb_ : ClassId), v = some (rr b_) ∧ Fr n0 L ∧ Keep h0 h [] ∧ Arv Z h b_ kb_ .byte (1 : Int32) [(.int (nar .byte (c0_.toInt8.toInt32)))] (ii 0) ∧ n0 ≤ b_ ∧ h0.size ≤ b_ ∧ ¬ ((255 : Int32) < c0_)) ∨ (∃ (b_ : Addr), ∃ (kb_ : ClassId), v = some (rr b_) ∧ Fr n0 L ∧ Keep h0 h [] ∧ Arv Z h b_ kb_ .byte (2 : Int32) [(.int (nar .byte ((c0_ >>> ((0 : Int32) &&& 31)).toInt8.toInt32))), (.int (nar .byte ((c0_ >>> ((8 : Int32) &&& 31)).toInt8.toInt32)))] (ii 0) ∧ n0 ≤ b_ ∧ h0.size ≤ b_)
set_option maxRecDepth 65536 in
set_option maxHeartbeats 40000000 in
theorem rm_cmp3a_1 (l : Launch) (Z : State) (a0 : Array Value) (hw : HW Z a0) (ws : List Jvm.Cond) (s_ : Addr) (ks_ : ClassId) (c0_ : Int32) (h0 : Heap) (n0 : Nat) (O0 : Old Z n0 h0) (A0_ : Arv Z h0 s_ ks_ .char (1 : Int32) [(.int c0_)] (ii 0)) (ZS1_ : Sta Z Z.heap nm1 "$assertionsDisabled" "Z" (ii 1)) (ZS2_ : Sta Z Z.heap nm1 "HI_BYTE_SHIFT" "I" (ii 0)) (ZS3_ : Sta Z Z.heap nm1 "LO_BYTE_SHIFT" "I" (ii 8)) (hc0_ : nar .char c0_ = c0_) :
  MFP l Z (⟨nm1, "compress", "([CII)[B"⟩ : MethodName) jdk_52_method_16_code 6 (some (.array .byte)) ({ frames := 3, cells := 2, slots := 3, locals := 40 } : Room) ws #[(rr s_), (ii 0), (ii 1)] h0 (Q_cmp3a_1 Z s_ ks_ c0_ h0 n0) := by
 refine MetFree.of_bodySF (plainFor_of_name pn_java_lang_StringUTF16) hisR ?_
 intro p e s m args below meth c s₁ Bd hml0 hP hK
 obtain ⟨rfl, hZ, hh⟩ := hP
 have hx := Bd.exec
 have hby := Bd.bytes
 have hml : c.maxLocals = 6 := hml0
 have hown : s.vm.findClass nm1 = some m.cls := findClass_of_methodNamed Bd.named
 have hnm := (name_of_methodNamed Bd.named Bd.method).1
 have X0 : Stand p l e ({ frames := 3, cells := 2, slots := 3, locals := 40 } : Room) s m #[(rr s_), (ii 0), (ii 1)] below meth c s₁ [] 0 0 := Stand.of_body Bd
 have e0 : s₁.heap = h0 := by rw [← hh, Bd.state]; rfl
 have N0 := Fr.nil n0
 have kp0 : Keep h0 h0 [] := Keep.refl _ _
 have c0 : ∀ t, S_ p e below s₁ m 0 #[vr s_, vi 0, vi 1, u_, u_, u_] [] t → Steps p.tables e below (s₁.setTop (entryFrame m #[(rr s_), (ii 0), (ii 1)] 6)) t := fun t k => castTop (ef_cmp3a_1 m s_) k
 generalize s₁.setTop (entryFrame m #[(rr s_), (ii 0), (ii 1)] 6) = st0 at c0 ⊢
 replace c0 : Kt p e below s₁ st0 (mkF m 0 #[vr s_, vi 0, vi 1, u_, u_, u_] []) := c0
 have c1 : Kt p e below s₁ st0 (mkF m 1 #[vr s_, vi 0, vi 1, u_, u_, u_] [(ii 1)]) := fun t k => by
  refine c0 t ?_
  show S_ p e below s₁ m 0 #[vr s_, vi 0, vi 1, u_, u_, u_] [] t
  refine XS.iloadN X0.here hx rfl (hb hby d9_0) rfl ?_
  exact k
 obtain ⟨b2, T2, h2, k2, z2, g2, X2, e2, E2, o3, A2, c2⟩ := knewP (aty := .byte) X0 hx hZ (w17 hw) e0 c1 rfl (hb hby d9_1) rfl (by decide) 1 (by decide) (by decide) (by decide) (by decide) O0
 have kp5 := kp0.ext E2
 have z6 := Nat.le_trans kp0.1 z2
 have f4 : Arv Z h2 b2 k2 .byte (1 : Int32) [(ii 0)] (ii 0) := A2.pad (pad_rep [] (ii 0) 1)
 have q7 := Nat.ne_of_lt (Nat.lt_of_lt_of_le A0_.lt z2)
 have c8 : Kt p e below T2 st0 (mkF m 9 #[vr s_, vi 0, vi 1, vr b2, u_, u_] [(ii 1), (ii 0), (rr b2), (ii 0), (rr s_)]) := fun t k => by
  refine c2 t ?_
  show S_ p e below T2 m 3 #[vr s_, vi 0, vi 1, u_, u_, u_] [(rr b2)] t
  refine XS.astoreN X2.here hx rfl (hb hby d9_3) rfl rfl (l' := #[vr s_, vi 0, vi 1, vr b2, u_, u_]) rfl ?_
  show S_ p e below T2 m 4 #[vr s_, vi 0, vi 1, vr b2, u_, u_] [] t
  refine XS.aloadN X2.here hx rfl (hb hby d9_4) rfl rfl ?_
  show S_ p e below T2 m 5 #[vr s_, vi 0, vi 1, vr b2, u_, u_] [(rr s_)] t
  refine XS.iloadN X2.here hx rfl (hb hby d9_5) rfl ?_
  show S_ p e below T2 m 6 #[vr s_, vi 0, vi 1, vr b2, u_, u_] [(ii 0), (rr s_)] t
  refine XS.aloadN X2.here hx rfl (hb hby d9_6) rfl rfl ?_
  show S_ p e below T2 m 7 #[vr s_, vi 0, vi 1, vr b2, u_, u_] [(rr b2), (ii 0), (rr s_)] t
  refine XS.iconst X2.here hx rfl (hb hby d9_7) ?_
  show S_ p e below T2 m 8 #[vr s_, vi 0, vi 1, vr b2, u_, u_] [(ii 0), (rr b2), (ii 0), (rr s_)] t
  refine XS.iloadN X2.here hx rfl (hb hby d9_8) rfl ?_
  exact k
 obtain ⟨_, T9, L9, X9, hQ9, c9⟩ := kstat X2 hx hZ hown (w43 hw) (w44 hw) (w41 hw) (w45 hw) (rm_cmp5a_1 l Z a0 hw [] s_ ks_ b2 k2 c0_ h2 n0 o3 (A0_.ext E2) f4 g2 q7) e2 c8 hml pd_pACIABIIrI [(rr s_), (ii 0), (rr b2), (ii 0), (ii 1)] [] 0 (hb hby d9_9) rfl rfl rfl rfl rfl rfl
 rcases hQ9 with hQ9 | hQ9
 ·obtain ⟨rfl, N10q, K11, p12, p13⟩ := hQ9
  have N10 := Fr.app N0 N10q
  have o14 := o3.keep K11 (allS g2 all0)
  have kp15 := kp5.trans K11 (allS (Or.inr z6) all0)
  obtain ⟨fs, hr, hrun, hended, hW, hsame⟩ := X9.leave (v := some (rr b2)) (fun h => by rw [Bd.returns] at h; cases h)
  refine ⟨_, _, c9 _ ?_, hrun, hended, _, _, rfl, ?_, ⟨_, rfl⟩, hW, hsame.mono (by decide) (by decide)⟩
  ·show S_ p e below T9 m 12 #[vr s_, vi 0, vi 1, vr b2, u_, u_] [(ii 1)] _
   refine XS.istore X9.here hx rfl (hb hby d9_12) rfl (l' := #[vr s_, vi 0, vi 1, vr b2, vi 1, u_]) rfl ?_
   show S_ p e below T9 m 14 #[vr s_, vi 0, vi 1, vr b2, vi 1, u_] [] _
   refine XS.iload X9.here hx rfl (hb hby d9_14) rfl ?_
   show S_ p e below T9 m 16 #[vr s_, vi 0, vi 1, vr b2, vi 1, u_] [(ii 1)] _
   refine XS.iloadN X9.here hx rfl (hb hby d9_16) rfl ?_
   show S_ p e below T9 m 17 #[vr s_, vi 0, vi 1, vr b2, vi 1, u_] [(ii 1), (ii 1)] _
   refine yC X9.here hx rfl 17 57 rfl (hb hby d9_17) rfl rfl ?_
   show S_ p e below T9 m 57 #[vr s_, vi 0, vi 1, vr b2, vi 1, u_] [] _
   refine XS.aloadN X9.here hx rfl (hb hby d9_57) rfl rfl ?_
   show S_ p e below T9 m 58 #[vr s_, vi 0, vi 1, vr b2, vi 1, u_] [(rr b2)] _
   exact retOut X9 hx Bd.returns rfl (Or.inr (Or.inr (Or.inr (Or.inr ⟨rfl, rfl, rfl⟩)))) (hb hby d9_58) hr
  ·show Q_cmp3a_1 Z s_ ks_ c0_ h0 n0 _ T9.heap _
   exact (Or.inl ⟨b2, k2, rfl, N10, kp15, p12, g2, z6, p13⟩)
 ·obtain ⟨rfl, N16q, K17, p18⟩ := hQ9
  have N16 := Fr.app N0 N16q
  have o19 := o3.keep K17 (allS g2 all0)
  have kp20 := kp5.trans K17 (allS (Or.inr z6) all0)
  have c21 : Kt p e below T9 st0 (mkF m 23 #[vr s_, vi 0, vi 1, vr b2, vi 0, u_] [(ii 1), (ii 0), (rr s_)]) := fun t k => by
   refine c9 t ?_
   show S_ p e below T9 m 12 #[vr s_, vi 0, vi 1, vr b2, u_, u_] [(ii 0)] t
   refine XS.istore X9.here hx rfl (hb hby d9_12) rfl (l' := #[vr s_, vi 0, vi 1, vr b2, vi 0, u_]) rfl ?_
   show S_ p e below T9 m 14 #[vr s_, vi 0, vi 1, vr b2, vi 0, u_] [] t
   refine XS.iload X9.here hx rfl (hb hby d9_14) rfl ?_
   show S_ p e below T9 m 16 #[vr s_, vi 0, vi 1, vr b2, vi 0, u_] [(ii 0)] t
   refine XS.iloadN X9.here hx rfl (hb hby d9_16) rfl ?_
   show S_ p e below T9 m 17 #[vr s_, vi 0, vi 1, vr b2, vi 0, u_] [(ii 1), (ii 0)] t
   refine XS.icmpNo X9.here hx rfl (hb hby d9_17) rfl rfl ?_
   show S_ p e below T9 m 20 #[vr s_, vi 0, vi 1, vr b2, vi 0, u_] [] t
   refine XS.aloadN X9.here hx rfl (hb hby d9_20) rfl rfl ?_
   show S_ p e below T9 m 21 #[vr s_, vi 0, vi 1, vr b2, vi 0, u_] [(rr s_)] t
   refine XS.iloadN X9.here hx rfl (hb hby d9_21) rfl ?_
   show S_ p e below T9 m 22 #[vr s_, vi 0, vi 1, vr b2, vi 0, u_] [(ii 0), (rr s_)] t
   refine XS.iloadN X9.here hx rfl (hb hby d9_22) rfl ?_
   exact k
  obtain ⟨_, T22, L22, X22, hQ22, c22⟩ := kstat X9 hx hZ hown (w71 hw) (w72 hw) (w41 hw) (w73 hw) (rm_tob_1 l Z a0 hw [] s_ ks_ c0_ T9.heap n0 o19 ((A0_.ext E2).keep K17 (ninS q7 nin0)) ZS1_ ZS2_ ZS3_) rfl c21 hml pd_pACIIrAB [(rr s_), (ii 0), (ii 1)] [] 0 (hb hby d9_23) rfl rfl rfl rfl rfl rfl
  obtain ⟨b23, k24, rfl, N25q, K26, p27, p28, p29⟩ := hQ22
  have N25 := Fr.app N16 N25q
  have o30 := o19.keep K26 all0
  have kp31 := kp20.trans K26 all0
  have z32 := Nat.le_trans kp20.1 p29
  have g33 := Nat.le_trans (Nat.le_trans (Nat.le_of_eq o19.1.symm) o19.2.1) p29
  have c34 : Kt p e below T22 st0 (mkF m 32 #[vr s_, vi 0, vi 1, vr b2, vi 0, vr b23] [(ii 0), (rr b23)]) := fun t k => by
   refine c22 t ?_
   show S_ p e below T22 m 26 #[vr s_, vi 0, vi 1, vr b2, vi 0, u_] [(rr b23)] t
   refine XS.astore X22.here hx rfl (hb hby d9_26) rfl rfl (l' := #[vr s_, vi 0, vi 1, vr b2, vi 0, vr b23]) rfl ?_
   show S_ p e below T22 m 28 #[vr s_, vi 0, vi 1, vr b2, vi 0, vr b23] [] t
   refine XS.aload X22.here hx rfl (hb hby d9_28) rfl rfl ?_
   show S_ p e below T22 m 30 #[vr s_, vi 0, vi 1, vr b2, vi 0, vr b23] [(rr b23)] t
   refine XS.iload X22.here hx rfl (hb hby d9_30) rfl ?_
   exact k
  obtain ⟨_, T35, L35, X35, hQ35, c35⟩ := kstat X22 hx hZ hown (w87 hw) (w88 hw) (w41 hw) (w89 hw) (rm_getc l Z a0 hw [] b23 k24 (2 : Int32) [(.int (nar .byte ((c0_ >>> ((0 : Int32) &&& 31)).toInt8.toInt32))), (.int (nar .byte ((c0_ >>> ((8 : Int32) &&& 31)).toInt8.toInt32)))] (0 : Int32) ((nar .byte ((c0_ >>> ((0 : Int32) &&& 31)).toInt8.toInt32))) ((nar .byte ((c0_ >>> ((8 : Int32) &&& 31)).toInt8.toInt32))) c0_ T22.heap n0 o30 p27 ZS1_ ZS2_ ZS3_ (by decide) (by decide) (by decide) (by decide) rfl rfl (own_get16 hc0_)) rfl c34 hml pd_pABIrC [(rr b23), (ii 0)] [] 0 (hb hby d9_32) rfl rfl rfl rfl rfl rfl
  obtain ⟨rfl, N36q, K37⟩ := hQ35
  have N36 := Fr.app N25 N36q
  obtain ⟨fs, hr, hrun, hended, hW, hsame⟩ := X35.leave (v := some (rr b23)) (fun h => by rw [Bd.returns] at h; cases h)
  refine ⟨_, _, c35 _ ?_, hrun, hended, _, _, rfl, ?_, ⟨_, rfl⟩, hW, hsame.mono (by decide) (by decide)⟩
  ·show S_ p e below T35 m 35 #[vr s_, vi 0, vi 1, vr b2, vi 0, vr b23] [(.int c0_)] _
   refine XS.sipush X35.here hx rfl (hb hby d9_35) ?_
   show S_ p e below T35 m 38 #[vr s_, vi 0, vi 1, vr b2, vi 0, vr b23] [(ii 255), (.int c0_)] _
   refine yC X35.here hx rfl 38 54 rfl (hb hby d9_38) rfl (tlt p18).2.2.1 ?_
   show S_ p e below T35 m 54 #[vr s_, vi 0, vi 1, vr b2, vi 0, vr b23] [] _
   refine XS.aload X35.here hx rfl (hb hby d9_54) rfl rfl ?_
   show S_ p e below T35 m 56 #[vr s_, vi 0, vi 1, vr b2, vi 0, vr b23] [(rr b23)] _
   exact retOut X35 hx Bd.returns rfl (Or.inr (Or.inr (Or.inr (Or.inr ⟨rfl, rfl, rfl⟩)))) (hb hby d9_56) hr
  ·show Q_cmp3a_1 Z s_ ks_ c0_ h0 n0 _ T35.heap _
   rw [K37]
   exact (Or.inr (⟨b23, k24, rfl, N36, kp31, p27, g33, z32⟩))
theorem d10_0 : decode jdk_52_method_15_code 0 = .ok (.iload_n 1, 1) := by decide +kernel
theorem d10_1 : decode jdk_52_method_15_code 1 = .ok (.aload_n 0, 1) := by decide +kernel
theorem d10_2 : decode jdk_52_method_15_code 2 = .ok (.arraylength, 1) := by decide +kernel
theorem d10_3 : decode jdk_52_method_15_code 3 = .ok (.isub, 1) := by decide +kernel
theorem d10_4 : decode jdk_52_method_15_code 4 = .ok (.bipush 31, 2) := by decide +kernel
theorem d10_6 : decode jdk_52_method_15_code 6 = .ok (.iushr, 1) := by decide +kernel
theorem d10_7 : decode jdk_52_method_15_code 7 = .ok (.i2b, 1) := by decide +kernel
theorem d10_8 : decode jdk_52_method_15_code 8 = .ok (.ireturn, 1) := by decide +kernel
theorem ef_codl_1 (m : MethodId) (s_ : Addr) : entryFrame m #[(rr s_), (ii 1)] 2 = mkF m 0 #[vr s_, vi 1] [] := by first | (simp [entryFrame, mkF, argsToLocals, Value.category]; done) | rfl
def Q_codl_1 (Z : State) (s_ : Addr) (ks_ : ClassId) (vs_ : List Value) (h0 : Heap) (n0 : Nat) (v : Option Value) (h : Heap) (L : List Loc) : Prop := v = some (ii 0) ∧ Fr n0 L ∧ h = h0
set_option maxRecDepth 65536 in
set_option maxHeartbeats 40000000 in
theorem rm_codl_1 (l : Launch) (Z : State) (a0 : Array Value) (hw : HW Z a0) (ws : List Jvm.Cond) (s_ : Addr) (ks_ : ClassId) (vs_ : List Value) (h0 : Heap) (n0 : Nat) (O0 : Old Z n0 h0) (A0_ : Arv Z h0 s_ ks_ .byte (1 : Int32) vs_ (ii 0)) :
  MFP l Z (⟨nm1, "coderFromArrayLen", "([BI)B"⟩ : MethodName) jdk_52_method_15_code 2 (some .byte) ({ frames := 0, cells := 0, slots := 0, locals := 0 } : Room) ws #[(rr s_), (ii 1)] h0 (Q_codl_1 Z s_ ks_ vs_ h0 n0) := by
 refine MetFree.of_bodySF (plainFor_of_name pn_java_lang_StringUTF16) hisR ?_
 intro p e s m args below meth c s₁ Bd hml0 hP hK
 obtain ⟨rfl, hZ, hh⟩ := hP
 have hx := Bd.exec
 have hby := Bd.bytes
 have hml : c.maxLocals = 2 := hml0
 have hown : s.vm.findClass nm1 = some m.cls := findClass_of_methodNamed Bd.named
 have hnm := (name_of_methodNamed Bd.named Bd.method).1
 have X0 : Stand p l e ({ frames := 0, cells := 0, slots := 0, locals := 0 } : Room) s m #[(rr s_), (ii 1)] below meth c s₁ [] 0 0 := Stand.of_body Bd
 have e0 : s₁.heap = h0 := by rw [← hh, Bd.state]; rfl
 have N0 := Fr.nil n0
 have kp0 : Keep h0 h0 [] := Keep.refl _ _
 have c0 : ∀ t, S_ p e below s₁ m 0 #[vr s_, vi 1] [] t → Steps p.tables e below (s₁.setTop (entryFrame m #[(rr s_), (ii 1)] 2)) t := fun t k => castTop (ef_codl_1 m s_) k
 generalize s₁.setTop (entryFrame m #[(rr s_), (ii 1)] 2) = st0 at c0 ⊢
 replace c0 : Kt p e below s₁ st0 (mkF m 0 #[vr s_, vi 1] []) := c0
 obtain ⟨fs, hr, hrun, hended, hW, hsame⟩ := X0.leave (v := some (ii 0)) (fun h => by rw [Bd.returns] at h; cases h)
 refine ⟨_, _, c0 _ ?_, hrun, hended, _, _, rfl, ?_, ⟨_, rfl⟩, hW, hsame.mono (by decide) (by decide)⟩
 ·show S_ p e below s₁ m 0 #[vr s_, vi 1] [] _
  refine XS.iloadN X0.here hx rfl (hb hby d10_0) rfl ?_
  show S_ p e below s₁ m 1 #[vr s_, vi 1] [(ii 1)] _
  refine XS.aloadN X0.here hx rfl (hb hby d10_1) rfl rfl ?_
  show S_ p e below s₁ m 2 #[vr s_, vi 1] [(rr s_), (ii 1)] _
  refine ldLen X0 hx hZ e0 A0_ rfl rfl (hb hby d10_2) ?_
  show S_ p e below s₁ m 3 #[vr s_, vi 1] [(ii 1), (ii 1)] _
  refine XS.isub X0.here hx rfl (hb hby d10_3) rfl ?_
  show S_ p e below s₁ m 4 #[vr s_, vi 1] [(ii 0)] _
  refine XS.bipush X0.here hx rfl (hb hby d10_4) ?_
  show S_ p e below s₁ m 6 #[vr s_, vi 1] [(ii 31), (ii 0)] _
  refine XS.iushr X0.here hx rfl (hb hby d10_6) rfl ?_
  show S_ p e below s₁ m 7 #[vr s_, vi 1] [(ii 0)] _
  refine XS.i2b X0.here hx rfl (hb hby d10_7) rfl ?_
  show S_ p e below s₁ m 8 #[vr s_, vi 1] [(ii 0)] _
  exact retN X0 hx (t := .byte) Bd.returns (by simp) (hb hby d10_8) hr
 ·show Q_codl_1 Z s_ ks_ vs_ h0 n0 _ s₁.heap _
  rw [e0]
  exact ⟨rfl, N0, rfl⟩
theorem ef_codu_1 (m : MethodId) (s_ : Addr) : entryFrame m #[(rr s_), (ii 1)] 2 = mkF m 0 #[vr s_, vi 1] [] := by first | (simp [entryFrame, mkF, argsToLocals, Value.category]; done) | rfl
def Q_codu_1 (Z : State) (s_ : Addr) (ks_ : ClassId) (vs_ : List Value) (h0 : Heap) (n0 : Nat) (v : Option Value) (h : Heap) (L : List Loc) : Prop := v = some (ii 1) ∧ Fr n0 L ∧ h = h0
set_option maxRecDepth 65536 in
set_option maxHeartbeats 40000000 in
theorem rm_codu_1 (l : Launch) (Z : State) (a0 : Array Value) (hw : HW Z a0) (ws : List Jvm.Cond) (s_ : Addr) (ks_ : ClassId) (vs_ : List Value) (h0 : Heap) (n0 : Nat) (O0 : Old Z n0 h0) (A0_ : Arv Z h0 s_ ks_ .byte (2 : Int32) vs_ (ii 0)) :
  MFP l Z (⟨nm1, "coderFromArrayLen", "([BI)B"⟩ : MethodName) jdk_52_method_15_code 2 (some .byte) ({ frames := 0, cells := 0, slots := 0, locals := 0 } : Room) ws #[(rr s_), (ii 1)] h0 (Q_codu_1 Z s_ ks_ vs_ h0 n0) := by
 refine MetFree.of_bodySF (plainFor_of_name pn_java_lang_StringUTF16) hisR ?_
 intro p e s m args below meth c s₁ Bd hml0 hP hK
 obtain ⟨rfl, hZ, hh⟩ := hP
 have hx := Bd.exec
 have hby := Bd.bytes
 have hml : c.maxLocals = 2 := hml0
 have hown : s.vm.findClass nm1 = some m.cls := findClass_of_methodNamed Bd.named
 have hnm := (name_of_methodNamed Bd.named Bd.method).1
 have X0 : Stand p l e ({ frames := 0, cells := 0, slots := 0, locals := 0 } : Room) s m #[(rr s_), (ii 1)] below meth c s₁ [] 0 0 := Stand.of_body Bd
 have e0 : s₁.heap = h0 := by rw [← hh, Bd.state]; rfl
 have N0 := Fr.nil n0
 have kp0 : Keep h0 h0 [] := Keep.refl _ _
 have c0 : ∀ t, S_ p e below s₁ m 0 #[vr s_, vi 1] [] t → Steps p.tables e below (s₁.setTop (entryFrame m #[(rr s_), (ii 1)] 2)) t := fun t k => castTop (ef_codu_1 m s_) k
 generalize s₁.setTop (entryFrame m #[(rr s_), (ii 1)] 2) = st0 at c0 ⊢
 replace c0 : Kt p e below s₁ st0 (mkF m 0 #[vr s_, vi 1] []) := c0
 obtain ⟨fs, hr, hrun, hended, hW, hsame⟩ := X0.leave (v := some (ii 1)) (fun h => by rw [Bd.returns] at h; cases h)
 refine ⟨_, _, c0 _ ?_, hrun, hended, _, _, rfl, ?_, ⟨_, rfl⟩, hW, hsame.mono (by decide) (by decide)⟩
 ·show S_ p e below s₁ m 0 #[vr s_, vi 1] [] _
  refine XS.iloadN X0.here hx rfl (hb hby d10_0) rfl ?_
  show S_ p e below s₁ m 1 #[vr s_, vi 1] [(ii 1)] _
  refine XS.aloadN X0.here hx rfl (hb hby d10_1) rfl rfl ?_
  show S_ p e below s₁ m 2 #[vr s_, vi 1] [(rr s_), (ii 1)] _
  refine ldLen X0 hx hZ e0 A0_ rfl rfl (hb hby d10_2) ?_
  show S_ p e below s₁ m 3 #[vr s_, vi 1] [(ii 2), (ii 1)] _
  refine XS.isub X0.here hx rfl (hb hby d10_3) rfl ?_
  show S_ p e below s₁ m 4 #[vr s_, vi 1] [(ii (-1))] _
  refine XS.bipush X0.here hx rfl (hb hby d10_4) ?_
  show S_ p e below s₁ m 6 #[vr s_, vi 1] [(ii 31), (ii (-1))] _
  refine XS.iushr X0.here hx rfl (hb hby d10_6) rfl ?_
  show S_ p e below s₁ m 7 #[vr s_, vi 1] [(ii 1)] _
  refine XS.i2b X0.here hx rfl (hb hby d10_7) rfl ?_
  show S_ p e below s₁ m 8 #[vr s_, vi 1] [(ii 1)] _
  exact retN X0 hx (t := .byte) Bd.returns (by simp) (hb hby d10_8) hr
 ·show Q_codu_1 Z s_ ks_ vs_ h0 n0 _ s₁.heap _
  rw [e0]
  exact ⟨rfl, N0, rfl⟩
theorem d11_0 : decode jdk_42_method_149_code 0 = .ok (.aload_n 0, 1) := by decide +kernel
theorem d11_1 : decode jdk_42_method_149_code 1 = .ok (.invokespecial 1, 3) := by decide +kernel
theorem d11_4 : decode jdk_42_method_149_code 4 = .ok (.iload_n 3, 1) := by decide +kernel
theorem d11_5 : decode jdk_42_method_149_code 5 = .ok (.ifCond .ne 22, 3) := by decide +kernel
theorem d11_27 : decode jdk_42_method_149_code 27 = .ok (.getstatic 38, 3) := by decide +kernel
theorem d11_30 : decode jdk_42_method_149_code 30 = .ok (.ifCond .eq 28, 3) := by decide +kernel
theorem d11_33 : decode jdk_42_method_149_code 33 = .ok (.aload_n 1, 1) := by decide +kernel
theorem d11_34 : decode jdk_42_method_149_code 34 = .ok (.iload_n 2, 1) := by decide +kernel
theorem d11_35 : decode jdk_42_method_149_code 35 = .ok (.iload_n 3, 1) := by decide +kernel
theorem d11_36 : decode jdk_42_method_149_code 36 = .ok (.invokestatic 177, 3) := by decide +kernel
theorem d11_39 : decode jdk_42_method_149_code 39 = .ok (.astore 5, 2) := by decide +kernel
theorem d11_41 : decode jdk_42_method_149_code 41 = .ok (.aload_n 0, 1) := by decide +kernel
theorem d11_42 : decode jdk_42_method_149_code 42 = .ok (.aload 5, 2) := by decide +kernel
theorem d11_44 : decode jdk_42_method_149_code 44 = .ok (.iload_n 3, 1) := by decide +kernel
theorem d11_45 : decode jdk_42_method_149_code 45 = .ok (.invokestatic 47, 3) := by decide +kernel
theorem pd_pABIrB : parseMethodDescriptor "([BI)B" = some ⟨[(.array .byte), .int], some .byte⟩ := by decide +kernel
theorem d11_48 : decode jdk_42_method_149_code 48 = .ok (.putfield 15, 3) := by decide +kernel
theorem d11_51 : decode jdk_42_method_149_code 51 = .ok (.aload_n 0, 1) := by decide +kernel
theorem d11_52 : decode jdk_42_method_149_code 52 = .ok (.aload 5, 2) := by decide +kernel
theorem d11_54 : decode jdk_42_method_149_code 54 = .ok (.putfield 9, 3) := by decide +kernel
theorem d11_57 : decode jdk_42_method_149_code 57 = .ok (.return_, 1) := by decide +kernel
theorem ef_str4a_1 (m : MethodId) (x_ : Addr) (s_ : Addr) : entryFrame m #[(rr x_), (rr s_), (ii 0), (ii 1), .null] 6 = mkF m 0 #[vr x_, vr s_, vi 0, vi 1, .val .null, u_] [] := by first | (simp [entryFrame, mkF, argsToLocals, Value.category]; done) | rfl
def Q_str4a_1 (Z : State) (x_ : Addr) (s_ : Addr) (ks_ : ClassId) (z_ : Int32) (c0_ : Int32) (h0 : Heap) (n0 : Nat) (v : Option Value) (h : Heap) (L : List Loc) : Prop := (v = none ∧ Fr n0 L ∧ Keep h0 h [x_] ∧ Exa Z h x_ nm0 ∧ Fld Z h x_ nm0 "coder" "B" (ii 0) ∧ ∃ (b_ : Addr), ∃ (kb_ : ClassId), Fld Z h x_ nm0 "value" "[B" (rr b_) ∧ Arv Z h b_ kb_ .byte (1 : Int32) [(.int (nar .byte (c0_.toInt8.toInt32)))] (ii 0) ∧ n0 ≤ b_ ∧ h0.size ≤ b_ ∧ ¬ ((255 : Int32) < c0_)) ∨ (v = none ∧ Fr n0 L ∧ Keep h0 h [x_] ∧ Exa Z h x_ nm0 ∧ Fld Z h x_ nm0 "coder" "B" (ii 1) ∧ ∃ (b_ : Addr), ∃ (kb_ : ClassId), Fld Z h x_ nm0 "value" "[B" (rr b_) ∧ Arv Z h b_ kb_ .byte (2 : Int32) [(.int (nar .byte ((c0_ >>> ((0 : Int32) &&& 31)).toInt8.toInt32))), (.int (nar .byte ((c0_ >>> ((8 : Int32) &&& 31)).toInt8.toInt32)))] (ii 0) ∧ n0 ≤ b_ ∧ h0.size ≤ b_)
set_option maxRecDepth 65536 in
set_option maxHeartbeats 40000000 in
theorem rm_str4a_1 (l : Launch) (Z : State) (a0 : Array Value) (hw : HW Z a0) (ws : List Jvm.Cond) (x_ : Addr) (s_ : Addr) (ks_ : ClassId) (z_ : Int32) (c0_ : Int32) (h0 : Heap) (n0 : Nat) (O0 : Old Z n0 h0) (E0_ : Exa Z h0 x_ nm0) (F1_ : Fld Z h0 x_ nm0 "value" "[B" .null) (F2_ : Fld Z h0 x_ nm0 "coder" "B" (ii 0)) (G3_ : n0 ≤ x_) (A4_ : Arv Z h0 s_ ks_ .char (1 : Int32) [(.int c0_)] (ii 0)) (ZS5_ : Sta Z Z.heap nm0 "COMPACT_STRINGS" "Z" (.int z_)) (hz_ : ¬ (z_ = (0 : Int32))) (ZS7_ : Sta Z Z.heap nm1 "$assertionsDisabled" "Z" (ii 1)) (ZS8_ : Sta Z Z.heap nm1 "HI_BYTE_SHIFT" "I" (ii 0)) (ZS9_ : Sta Z Z.heap nm1 "LO_BYTE_SHIFT" "I" (ii 8)) (hc0_ : nar .char c0_ = c0_) :
  MFP l Z (⟨nm0, "<init>", "([CIILjava/lang/Void;)V"⟩ : MethodName) jdk_42_method_149_code 6 none ({ frames := 4, cells := 2, slots := 3, locals := 57 } : Room) ws #[(rr x_), (rr s_), (ii 0), (ii 1), .null] h0 (Q_str4a_1 Z x_ s_ ks_ z_ c0_ h0 n0) := by
 refine MetFree.of_bodySF (plainFor_of_name pn_java_lang_String) hisR ?_
 intro p e s m args below meth c s₁ Bd hml0 hP hK
 obtain ⟨rfl, hZ, hh⟩ := hP
 have hx := Bd.exec
 have hby := Bd.bytes
 have hml : c.maxLocals = 6 := hml0
 have hown : s.vm.findClass nm0 = some m.cls := findClass_of_methodNamed Bd.named
 have hnm := (name_of_methodNamed Bd.named Bd.method).1
 have X0 : Stand p l e ({ frames := 4, cells := 2, slots := 3, locals := 57 } : Room) s m #[(rr x_), (rr s_), (ii 0), (ii 1), .null] below meth c s₁ [] 0 0 := Stand.of_body Bd
 have e0 : s₁.heap = h0 := by rw [← hh, Bd.state]; rfl
 have N0 := Fr.nil n0
 have kp0 : Keep h0 h0 [x_] := Keep.refl _ _
 have c0 : ∀ t, S_ p e below s₁ m 0 #[vr x_, vr s_, vi 0, vi 1, .val .null, u_] [] t → Steps p.tables e below (s₁.setTop (entryFrame m #[(rr x_), (rr s_), (ii 0), (ii 1), .null] 6)) t := fun t k => castTop (ef_str4a_1 m x_ s_) k
 generalize s₁.setTop (entryFrame m #[(rr x_), (rr s_), (ii 0), (ii 1), .null] 6) = st0 at c0 ⊢
 replace c0 : Kt p e below s₁ st0 (mkF m 0 #[vr x_, vr s_, vi 0, vi 1, .val .null, u_] []) := c0
 have c1 : Kt p e below s₁ st0 (mkF m 1 #[vr x_, vr s_, vi 0, vi 1, .val .null, u_] [(rr x_)]) := fun t k => by
  refine c0 t ?_
  show S_ p e below s₁ m 0 #[vr x_, vr s_, vi 0, vi 1, .val .null, u_] [] t
  refine XS.aloadN X0.here hx rfl (hb hby d11_0) rfl rfl ?_
  exact k
 obtain ⟨T2, X2, e2, c2⟩ := kinit X0 hx hZ hown (w13 hw) (w14 hw) (w15 hw) e0 c1 rfl hml rfl rfl (hb hby d11_1) 0 (own_w rfl) (by decide) (by decide)
 have c3 : Kt p e below T2 st0 (mkF m 27 #[vr x_, vr s_, vi 0, vi 1, .val .null, u_] []) := fun t k => by
  refine c2 t ?_
  show S_ p e below T2 m 4 #[vr x_, vr s_, vi 0, vi 1, .val .null, u_] [] t
  refine XS.iloadN X2.here hx rfl (hb hby d11_4) rfl ?_
  show S_ p e below T2 m 5 #[vr x_, vr s_, vi 0, vi 1, .val .null, u_] [(ii 1)] t
  refine yI X2.here hx rfl 5 27 rfl (hb hby d11_5) rfl rfl ?_
  exact k
 obtain ⟨T4, X4, e4, c4⟩ := kgetS X2 hx hZ hown (host := "") (Or.inl (w38 hw)) Via.refl e2 (ZS5_.ext O0.2) c3 rfl (hb hby d11_27)
 have c5 : Kt p e below T4 st0 (mkF m 36 #[vr x_, vr s_, vi 0, vi 1, .val .null, u_] [(ii 1), (ii 0), (rr s_)]) := fun t k => by
  refine c4 t ?_
  show S_ p e below T4 m 30 #[vr x_, vr s_, vi 0, vi 1, .val .null, u_] [(.int z_)] t
  refine XS.ifNo X4.here hx rfl (hb hby d11_30) rfl ((if0 _ _).trans (feq hz_).1) ?_
  show S_ p e below T4 m 33 #[vr x_, vr s_, vi 0, vi 1, .val .null, u_] [] t
  refine XS.aloadN X4.here hx rfl (hb hby d11_33) rfl rfl ?_
  show S_ p e below T4 m 34 #[vr x_, vr s_, vi 0, vi 1, .val .null, u_] [(rr s_)] t
  refine XS.iloadN X4.here hx rfl (hb hby d11_34) rfl ?_
  show S_ p e below T4 m 35 #[vr x_, vr s_, vi 0, vi 1, .val .null, u_] [(ii 0), (rr s_)] t
  refine XS.iloadN X4.here hx rfl (hb hby d11_35) rfl ?_
  exact k
 obtain ⟨_, T6, L6, X6, hQ6, c6⟩ := kstat X4 hx hZ hown (w39 hw) (w40 hw) (w41 hw) (w42 hw) (rm_cmp3a_1 l Z a0 hw [] s_ ks_ c0_ h0 n0 O0 A4_ ZS7_ ZS8_ ZS9_ hc0_) e4 c5 hml pd_pACIIrAB [(rr s_), (ii 0), (ii 1)] [] 0 (hb hby d11_36) rfl rfl rfl rfl rfl rfl
 rcases hQ6 with hQ6 | hQ6
 ·obtain ⟨b7, k8, rfl, N9q, K10, p11, p12, p13, p14⟩ := hQ6
  have N9 := Fr.app N0 N9q
  have o15 := O0.keep K10 all0
  have kp16 := kp0.trans K10 all0
  have z17 := Nat.le_trans kp0.1 p13
  have g18 := Nat.le_trans (Nat.le_trans (Nat.le_of_eq O0.1.symm) O0.2.1) p13
  have c19 : Kt p e below T6 st0 (mkF m 45 #[vr x_, vr s_, vi 0, vi 1, .val .null, vr b7] [(ii 1), (rr b7), (rr x_)]) := fun t k => by
   refine c6 t ?_
   show S_ p e below T6 m 39 #[vr x_, vr s_, vi 0, vi 1, .val .null, u_] [(rr b7)] t
   refine XS.astore X6.here hx rfl (hb hby d11_39) rfl rfl (l' := #[vr x_, vr s_, vi 0, vi 1, .val .null, vr b7]) rfl ?_
   show S_ p e below T6 m 41 #[vr x_, vr s_, vi 0, vi 1, .val .null, vr b7] [] t
   refine XS.aloadN X6.here hx rfl (hb hby d11_41) rfl rfl ?_
   show S_ p e below T6 m 42 #[vr x_, vr s_, vi 0, vi 1, .val .null, vr b7] [(rr x_)] t
   refine XS.aload X6.here hx rfl (hb hby d11_42) rfl rfl ?_
   show S_ p e below T6 m 44 #[vr x_, vr s_, vi 0, vi 1, .val .null, vr b7] [(rr b7), (rr x_)] t
   refine XS.iloadN X6.here hx rfl (hb hby d11_44) rfl ?_
   exact k
  obtain ⟨_, T20, L20, X20, hQ20, c20⟩ := kstat X6 hx hZ hown (w46 hw) (w47 hw) (w41 hw) (w48 hw) (rm_codl_1 l Z a0 hw [] b7 k8 [(.int (nar .byte (c0_.toInt8.toInt32)))] T6.heap n0 o15 p11) rfl c19 hml pd_pABIrB [(rr b7), (ii 1)] [(rr x_)] 1 (hb hby d11_45) rfl rfl rfl rfl rfl rfl
  obtain ⟨rfl, N21q, K22⟩ := hQ20
  have N21 := Fr.app N9 N21q
  obtain ⟨T23, h23, X23, e23, W23, f24, o26, N25, c23⟩ := kput X20 hx hZ .byte hown (host := "") (Or.inl (w23 hw)) Via.refl K22 (F2_.keep K10 nin0) (E0_.keep K10) (Or.inr ⟨(w19 hw), rfl, hnm⟩) (w4 hw) c20 rfl rfl (hb hby d11_48) (by decide) rfl rfl o15 N21 G3_
  have kp27 := kp16.wr W23 (Or.inl (List.mem_of_getElem? (i := 0) rfl))
  have f28 := (F1_.keep K10 nin0).other W23 (Or.inr (slot_ne (Or.inr (w18 hw)) (Or.inr (w19 hw)) (by decide) (t := (.array .byte)) (t' := .byte) (by decide) (by decide)))
  have c29 : Kt p e below T23 st0 (mkF m 54 #[vr x_, vr s_, vi 0, vi 1, .val .null, vr b7] [(rr b7), (rr x_)]) := fun t k => by
   refine c23 t ?_
   show S_ p e below T23 m 51 #[vr x_, vr s_, vi 0, vi 1, .val .null, vr b7] [] t
   refine XS.aloadN X23.here hx rfl (hb hby d11_51) rfl rfl ?_
   show S_ p e below T23 m 52 #[vr x_, vr s_, vi 0, vi 1, .val .null, vr b7] [(rr x_)] t
   refine XS.aload X23.here hx rfl (hb hby d11_52) rfl rfl ?_
   exact k
  obtain ⟨T30, h30, X30, e30, W30, f31, o33, N32, c30⟩ := kput X23 hx hZ (.array .byte) hown (host := "") (Or.inl (w22 hw)) Via.refl e23 f28 ((E0_.keep K10).wr W23) (Or.inr ⟨(w18 hw), rfl, hnm⟩) (w4 hw) c29 rfl rfl (hb hby d11_54) (by decide) rfl rfl o26 N25 G3_
  have kp34 := kp27.wr W30 (Or.inl (List.mem_of_getElem? (i := 0) rfl))
  have f35 := f24.other W30 (Or.inr (slot_ne (Or.inr (w19 hw)) (Or.inr (w18 hw)) (by decide) (t := .byte) (t' := (.array .byte)) (by decide) (by decide)))
  have q36 := Ne.symm (Nat.ne_of_lt (Nat.lt_of_lt_of_le E0_.lt p13))
  obtain ⟨fs, hr, hrun, hended, hW, hsame⟩ := X30.leave (v := none) (fun _ => rfl)
  refine ⟨_, _, c30 _ ?_, hrun, hended, _, _, rfl, ?_, ⟨_, rfl⟩, hW, hsame.mono (by decide) (by decide)⟩
  ·show S_ p e below T30 m 57 #[vr x_, vr s_, vi 0, vi 1, .val .null, vr b7] [] _
   exact X30.returnOut hx Bd.returns (hb hby d11_57) hr
  ·show Q_str4a_1 Z x_ s_ ks_ z_ c0_ h0 n0 _ T30.heap _
   rw [e30]
   exact (Or.inl ⟨rfl, N32, kp34, (((E0_.keep K10).wr W23).wr W30), f35, b7, k8, f31, ((p11.other W23 q36).other W30 q36), g18, z17, p14⟩)
 ·obtain ⟨b37, k38, rfl, N39q, K40, p41, p42, p43⟩ := hQ6
  have N39 := Fr.app N0 N39q
  have o44 := O0.keep K40 all0
  have kp45 := kp0.trans K40 all0
  have z46 := Nat.le_trans kp0.1 p43
  have g47 := Nat.le_trans (Nat.le_trans (Nat.le_of_eq O0.1.symm) O0.2.1) p43
  have c48 : Kt p e below T6 st0 (mkF m 45 #[vr x_, vr s_, vi 0, vi 1, .val .null, vr b37] [(ii 1), (rr b37), (rr x_)]) := fun t k => by
   refine c6 t ?_
   show S_ p e below T6 m 39 #[vr x_, vr s_, vi 0, vi 1, .val .null, u_] [(rr b37)] t
   refine XS.astore X6.here hx rfl (hb hby d11_39) rfl rfl (l' := #[vr x_, vr s_, vi 0, vi 1, .val .null, vr b37]) rfl ?_
   show S_ p e below T6 m 41 #[vr x_, vr s_, vi 0, vi 1, .val .null, vr b37] [] t
   refine XS.aloadN X6.here hx rfl (hb hby d11_41) rfl rfl ?_
   show S_ p e below T6 m 42 #[vr x_, vr s_, vi 0, vi 1, .val .null, vr b37] [(rr x_)] t
   refine XS.aload X6.here hx rfl (hb hby d11_42) rfl rfl ?_
   show S_ p e below T6 m 44 #[vr x_, vr s_, vi 0, vi 1, .val .null, vr b37] [(rr b37), (rr x_)] t
   refine XS.iloadN X6.here hx rfl (hb hby d11_44) rfl ?_
   exact k
  obtain ⟨_, T49, L49, X49, hQ49, c49⟩ := kstat X6 hx hZ hown (w46 hw) (w47 hw) (w41 hw) (w48 hw) (rm_codu_1 l Z a0 hw [] b37 k38 [(.int (nar .byte ((c0_ >>> ((0 : Int32) &&& 31)).toInt8.toInt32))), (.int (nar .byte ((c0_ >>> ((8 : Int32) &&& 31)).toInt8.toInt32)))] T6.heap n0 o44 p41) rfl c48 hml pd_pABIrB [(rr b37), (ii 1)] [(rr x_)] 1 (hb hby d11_45) rfl rfl rfl rfl rfl rfl
  obtain ⟨rfl, N50q, K51⟩ := hQ49
  have N50 := Fr.app N39 N50q
  obtain ⟨T52, h52, X52, e52, W52, f53, o55, N54, c52⟩ := kput X49 hx hZ .byte hown (host := "") (Or.inl (w23 hw)) Via.refl K51 (F2_.keep K40 nin0) (E0_.keep K40) (Or.inr ⟨(w19 hw), rfl, hnm⟩) (w4 hw) c49 rfl rfl (hb hby d11_48) (by decide) rfl rfl o44 N50 G3_
  have kp56 := kp45.wr W52 (Or.inl (List.mem_of_getElem? (i := 0) rfl))
  have f57 := (F1_.keep K40 nin0).other W52 (Or.inr (slot_ne (Or.inr (w18 hw)) (Or.inr (w19 hw)) (by decide) (t := (.array .byte)) (t' := .byte) (by decide) (by decide)))
  have c58 : Kt p e below T52 st0 (mkF m 54 #[vr x_, vr s_, vi 0, vi 1, .val .null, vr b37] [(rr b37), (rr x_)]) := fun t k => by
   refine c52 t ?_
   show S_ p e below T52 m 51 #[vr x_, vr s_, vi 0, vi 1, .val .null, vr b37] [] t
   refine XS.aloadN X52.here hx rfl (hb hby d11_51) rfl rfl ?_
   show S_ p e below T52 m 52 #[vr x_, vr s_, vi 0, vi 1, .val .null, vr b37] [(rr x_)] t
   refine XS.aload X52.here hx rfl (hb hby d11_52) rfl rfl ?_
   exact k
  obtain ⟨T59, h59, X59, e59, W59, f60, o62, N61, c59⟩ := kput X52 hx hZ (.array .byte) hown (host := "") (Or.inl (w22 hw)) Via.refl e52 f57 ((E0_.keep K40).wr W52) (Or.inr ⟨(w18 hw), rfl, hnm⟩) (w4 hw) c58 rfl rfl (hb hby d11_54) (by decide) rfl rfl o55 N54 G3_
  have kp63 := kp56.wr W59 (Or.inl (List.mem_of_getElem? (i := 0) rfl))
  have f64 := f53.other W59 (Or.inr (slot_ne (Or.inr (w19 hw)) (Or.inr (w18 hw)) (by decide) (t := .byte) (t' := (.array .byte)) (by decide) (by decide)))
  have q65 := Ne.symm (Nat.ne_of_lt (Nat.lt_of_lt_of_le E0_.lt p43))
  obtain ⟨fs, hr, hrun, hended, hW, hsame⟩ := X59.leave (v := none) (fun _ => rfl)
  refine ⟨_, _, c59 _ ?_, hrun, hended, _, _, rfl, ?_, ⟨_, rfl⟩, hW, hsame.mono (by decide) (by decide)⟩
  ·show S_ p e below T59 m 57 #[vr x_, vr s_, vi 0, vi 1, .val .null, vr b37] [] _
   exact X59.returnOut hx Bd.returns (hb hby d11_57) hr
  ·show Q_str4a_1 Z x_ s_ ks_ z_ c0_ h0 n0 _ T59.heap _
   rw [e59]
   exact (Or.inr (⟨rfl, N61, kp63, (((E0_.keep K40).wr W52).wr W59), f64, b37, k38, f60, ((p41.other W52 q65).other W59 q65), g47, z46⟩))
theorem d12_0 : decode jdk_42_method_3_code 0 = .ok (.aload_n 0, 1) := by decide +kernel
theorem d12_1 : decode jdk_42_method_3_code 1 = .ok (.aload_n 1, 1) := by decide +kernel
theorem d12_2 : decode jdk_42_method_3_code 2 = .ok (.iconst 0, 1) := by decide +kernel
theorem d12_3 : decode jdk_42_method_3_code 3 = .ok (.aload_n 1, 1) := by decide +kernel
theorem d12_4 : decode jdk_42_method_3_code 4 = .ok (.arraylength, 1) := by decide +kernel
theorem d12_5 : decode jdk_42_method_3_code 5 = .ok (.aconst_null, 1) := by decide +kernel
theorem d12_6 : decode jdk_42_method_3_code 6 = .ok (.invokespecial 27, 3) := by decide +kernel
theorem pd_pACIILjava_lang_Void_rV : parseMethodDescriptor "([CIILjava/lang/Void;)V" = some ⟨[(.array .char), .int, .int, (.object "java/lang/Void")], none⟩ := by decide +kernel
theorem d12_9 : decode jdk_42_method_3_code 9 = .ok (.return_, 1) := by decide +kernel
theorem ef_str1a_1 (m : MethodId) (x_ : Addr) (s_ : Addr) : entryFrame m #[(rr x_), (rr s_)] 2 = mkF m 0 #[vr x_, vr s_] [] := by first | (simp [entryFrame, mkF, argsToLocals, Value.category]; done) | rfl
def Q_str1a_1 (Z : State) (x_ : Addr) (s_ : Addr) (ks_ : ClassId) (z_ : Int32) (c0_ : Int32) (h0 : Heap) (n0 : Nat) (v : Option Value) (h : Heap) (L : List Loc) : Prop := (v = none ∧ Fr n0 L ∧ Keep h0 h [x_] ∧ Exa Z h x_ nm0 ∧ Fld Z h x_ nm0 "coder" "B" (ii 0) ∧ ∃ (b_ : Addr), ∃ (kb_ : ClassId), Fld Z h x_ nm0 "value" "[B" (rr b_) ∧ Arv Z h b_ kb_ .byte (1 : Int32) [(.int (nar .byte (c0_.toInt8.toInt32)))] (ii 0) ∧ n0 ≤ b_ ∧ h0.size ≤ b_ ∧ ¬ ((255 : Int32) < c0_)) ∨ (v = none ∧ Fr n0 L ∧ Keep h0 h [x_] ∧ Exa Z h x_ nm0 ∧ Fld Z h x_ nm0 "coder" "B" (ii 1) ∧ ∃ (b_ : Addr), ∃ (kb_ : ClassId), Fld Z h x_ nm0 "value" "[B" (rr b_) ∧ Arv Z h b_ kb_ .byte (2 : Int32) [(.int (nar .byte ((c0_ >>> ((0 : Int32) &&& 31)).toInt8.toInt32))), (.int (nar .byte ((c0_ >>> ((8 : Int32) &&& 31)).toInt8.toInt32)))] (ii 0) ∧ n0 ≤ b_ ∧ h0.size ≤ b_)
set_option maxRecDepth 65536 in
set_option maxHeartbeats 40000000 in
theorem rm_str1a_1 (l : Launch) (Z : State) (a0 : Array Value) (hw : HW Z a0) (ws : List Jvm.Cond) (x_ : Addr) (s_ : Addr) (ks_ : ClassId) (z_ : Int32) (c0_ : Int32) (h0 : Heap) (n0 : Nat) (O0 : Old Z n0 h0) (E0_ : Exa Z h0 x_ nm0) (F1_ : Fld Z h0 x_ nm0 "value" "[B" .null) (F2_ : Fld Z h0 x_ nm0 "coder" "B" (ii 0)) (G3_ : n0 ≤ x_) (A4_ : Arv Z h0 s_ ks_ .char (1 : Int32) [(.int c0_)] (ii 0)) (ZS5_ : Sta Z Z.heap nm0 "COMPACT_STRINGS" "Z" (.int z_)) (hz_ : ¬ (z_ = (0 : Int32))) (ZS7_ : Sta Z Z.heap nm1 "$assertionsDisabled" "Z" (ii 1)) (ZS8_ : Sta Z Z.heap nm1 "HI_BYTE_SHIFT" "I" (ii 0)) (ZS9_ : Sta Z Z.heap nm1 "LO_BYTE_SHIFT" "I" (ii 8)) (hc0_ : nar .char c0_ = c0_) :
  MFP l Z (⟨nm0, "<init>", "([C)V"⟩ : MethodName) jdk_42_method_3_code 2 none ({ frames := 5, cells := 2, slots := 3, locals := 74 } : Room) ws #[(rr x_), (rr s_)] h0 (Q_str1a_1 Z x_ s_ ks_ z_ c0_ h0 n0) := by
 refine MetFree.of_bodySF (plainFor_of_name pn_java_lang_String) hisR ?_
 intro p e s m args below meth c s₁ Bd hml0 hP hK
 obtain ⟨rfl, hZ, hh⟩ := hP
 have hx := Bd.exec
 have hby := Bd.bytes
 have hml : c.maxLocals = 2 := hml0
 have hown : s.vm.findClass nm0 = some m.cls := findClass_of_methodNamed Bd.named
 have hnm := (name_of_methodNamed Bd.named Bd.method).1
 have X0 : Stand p l e ({ frames := 5, cells := 2, slots := 3, locals := 74 } : Room) s m #[(rr x_), (rr s_)] below meth c s₁ [] 0 0 := Stand.of_body Bd
 have e0 : s₁.heap = h0 := by rw [← hh, Bd.state]; rfl
 have N0 := Fr.nil n0
 have kp0 : Keep h0 h0 [x_] := Keep.refl _ _
 have c0 : ∀ t, S_ p e below s₁ m 0 #[vr x_, vr s_] [] t → Steps p.tables e below (s₁.setTop (entryFrame m #[(rr x_), (rr s_)] 2)) t := fun t k => castTop (ef_str1a_1 m x_ s_) k
 generalize s₁.setTop (entryFrame m #[(rr x_), (rr s_)] 2) = st0 at c0 ⊢
 replace c0 : Kt p e below s₁ st0 (mkF m 0 #[vr x_, vr s_] []) := c0
 have c1 : Kt p e below s₁ st0 (mkF m 6 #[vr x_, vr s_] [.null, (ii 1), (ii 0), (rr s_), (rr x_)]) := fun t k => by
  refine c0 t ?_
  show S_ p e below s₁ m 0 #[vr x_, vr s_] [] t
  refine XS.aloadN X0.here hx rfl (hb hby d12_0) rfl rfl ?_
  show S_ p e below s₁ m 1 #[vr x_, vr s_] [(rr x_)] t
  refine XS.aloadN X0.here hx rfl (hb hby d12_1) rfl rfl ?_
  show S_ p e below s₁ m 2 #[vr x_, vr s_] [(rr s_), (rr x_)] t
  refine XS.iconst X0.here hx rfl (hb hby d12_2) ?_
  show S_ p e below s₁ m 3 #[vr x_, vr s_] [(ii 0), (rr s_), (rr x_)] t
  refine XS.aloadN X0.here hx rfl (hb hby d12_3) rfl rfl ?_
  show S_ p e below s₁ m 4 #[vr x_, vr s_] [(rr s_), (ii 0), (rr s_), (rr x_)] t
  refine ldLen X0 hx hZ e0 A4_ rfl rfl (hb hby d12_4) ?_
  show S_ p e below s₁ m 5 #[vr x_, vr s_] [(ii 1), (ii 0), (rr s_), (rr x_)] t
  refine XS.aconstNull X0.here hx rfl (hb hby d12_5) ?_
  exact k
 obtain ⟨_, T2, L2, X2, hQ2, c2⟩ := kspec X0 hx hZ hown (w9 hw) (w10 hw) (w5 hw) (w12 hw) (rm_str4a_1 l Z a0 hw [] x_ s_ ks_ z_ c0_ h0 n0 O0 E0_ F1_ F2_ G3_ A4_ ZS5_ hz_ ZS7_ ZS8_ ZS9_ hc0_) e0 c1 hml pd_pACIILjava_lang_Void_rV x_ [(rr s_), (ii 0), (ii 1), .null] [] 0 (hb hby d12_6) rfl rfl rfl rfl rfl rfl
 rcases hQ2 with hQ2 | hQ2
 ·obtain ⟨rfl, N3q, K4, p5, p6, b7, k8, p9, p10, p11, p12, p13⟩ := hQ2
  have N3 := Fr.app N0 N3q
  have o14 := O0.keep K4 (allS G3_ all0)
  have kp15 := kp0.trans K4 (allS (Or.inl (List.mem_of_getElem? (i := 0) rfl)) all0)
  have z16 := Nat.le_trans kp0.1 p12
  have g17 := Nat.le_trans (Nat.le_trans (Nat.le_of_eq O0.1.symm) O0.2.1) p12
  obtain ⟨fs, hr, hrun, hended, hW, hsame⟩ := X2.leave (v := none) (fun _ => rfl)
  refine ⟨_, _, c2 _ ?_, hrun, hended, _, _, rfl, ?_, ⟨_, rfl⟩, hW, hsame.mono (by decide) (by decide)⟩
  ·show S_ p e below T2 m 9 #[vr x_, vr s_] [] _
   exact X2.returnOut hx Bd.returns (hb hby d12_9) hr
  ·show Q_str1a_1 Z x_ s_ ks_ z_ c0_ h0 n0 _ T2.heap _
   exact (Or.inl ⟨rfl, N3, kp15, p5, p6, b7, k8, p9, p10, g17, z16, p13⟩)
 ·obtain ⟨rfl, N18q, K19, p20, p21, b22, k23, p24, p25, p26, p27⟩ := hQ2
  have N18 := Fr.app N0 N18q
  have o28 := O0.keep K19 (allS G3_ all0)
  have kp29 := kp0.trans K19 (allS (Or.inl (List.mem_of_getElem? (i := 0) rfl)) all0)
  have z30 := Nat.le_trans kp0.1 p27
  have g31 := Nat.le_trans (Nat.le_trans (Nat.le_of_eq O0.1.symm) O0.2.1) p27
  obtain ⟨fs, hr, hrun, hended, hW, hsame⟩ := X2.leave (v := none) (fun _ => rfl)
  refine ⟨_, _, c2 _ ?_, hrun, hended, _, _, rfl, ?_, ⟨_, rfl⟩, hW, hsame.mono (by decide) (by decide)⟩
  ·show S_ p e below T2 m 9 #[vr x_, vr s_] [] _
   exact X2.returnOut hx Bd.returns (hb hby d12_9) hr
  ·show Q_str1a_1 Z x_ s_ ks_ z_ c0_ h0 n0 _ T2.heap _
   exact (Or.inr (⟨rfl, N18, kp29, p20, p21, b22, k23, p24, p25, g31, z30⟩))
theorem d13_0 : decode jdk_42_method_152_code 0 = .ok (.getstatic 38, 3) := by decide +kernel
theorem d13_3 : decode jdk_42_method_152_code 3 = .ok (.ifCond .eq 10, 3) := by decide +kernel
theorem d13_6 : decode jdk_42_method_152_code 6 = .ok (.aload_n 0, 1) := by decide +kernel
theorem d13_7 : decode jdk_42_method_152_code 7 = .ok (.getfield 15, 3) := by decide +kernel
theorem d13_10 : decode jdk_42_method_152_code 10 = .ok (.goto 4, 3) := by decide +kernel
theorem d13_14 : decode jdk_42_method_152_code 14 = .ok (.ireturn, 1) := by decide +kernel
theorem ef_codL (m : MethodId) (x_ : Addr) : entryFrame m #[(rr x_)] 1 = mkF m 0 #[vr x_] [] := by first | (simp [entryFrame, mkF, argsToLocals, Value.category]; done) | rfl
def Q_codL (Z : State) (x_ : Addr) (z_ : Int32) (h0 : Heap) (n0 : Nat) (v : Option Value) (h : Heap) (L : List Loc) : Prop := v = some (ii 0) ∧ Fr n0 L ∧ h = h0
set_option maxRecDepth 65536 in
set_option maxHeartbeats 40000000 in
theorem rm_codL (l : Launch) (Z : State) (a0 : Array Value) (hw : HW Z a0) (ws : List Jvm.Cond) (x_ : Addr) (z_ : Int32) (h0 : Heap) (n0 : Nat) (O0 : Old Z n0 h0) (F0_ : Fld Z h0 x_ nm0 "coder" "B" (ii 0)) (ZS1_ : Sta Z Z.heap nm0 "COMPACT_STRINGS" "Z" (.int z_)) (hz_ : ¬ (z_ = (0 : Int32))) :
  MFP l Z (⟨nm0, "coder", "()B"⟩ : MethodName) jdk_42_method_152_code 1 (some .byte) ({ frames := 0, cells := 0, slots := 0, locals := 0 } : Room) ws #[(rr x_)] h0 (Q_codL Z x_ z_ h0 n0) := by
 refine MetFree.of_bodySF (plainFor_of_name pn_java_lang_String) hisR ?_
 intro p e s m args below meth c s₁ Bd hml0 hP hK
 obtain ⟨rfl, hZ, hh⟩ := hP
 have hx := Bd.exec
 have hby := Bd.bytes
 have hml : c.maxLocals = 1 := hml0
 have hown : s.vm.findClass nm0 = some m.cls := findClass_of_methodNamed Bd.named
 have hnm := (name_of_methodNamed Bd.named Bd.method).1
 have X0 : Stand p l e ({ frames := 0, cells := 0, slots := 0, locals := 0 } : Room) s m #[(rr x_)] below meth c s₁ [] 0 0 := Stand.of_body Bd
 have e0 : s₁.heap = h0 := by rw [← hh, Bd.state]; rfl
 have N0 := Fr.nil n0
 have kp0 : Keep h0 h0 [] := Keep.refl _ _
 have c0 : ∀ t, S_ p e below s₁ m 0 #[vr x_] [] t → Steps p.tables e below (s₁.setTop (entryFrame m #[(rr x_)] 1)) t := fun t k => castTop (ef_codL m x_) k
 generalize s₁.setTop (entryFrame m #[(rr x_)] 1) = st0 at c0 ⊢
 replace c0 : Kt p e below s₁ st0 (mkF m 0 #[vr x_] []) := c0
 obtain ⟨T1, X1, e1, c1⟩ := kgetS X0 hx hZ hown (host := "") (Or.inl (w38 hw)) Via.refl e0 (ZS1_.ext O0.2) c0 rfl (hb hby d13_0)
 have c2 : Kt p e below T1 st0 (mkF m 7 #[vr x_] [(rr x_)]) := fun t k => by
  refine c1 t ?_
  show S_ p e below T1 m 3 #[vr x_] [(.int z_)] t
  refine XS.ifNo X1.here hx rfl (hb hby d13_3) rfl ((if0 _ _).trans (feq hz_).1) ?_
  show S_ p e below T1 m 6 #[vr x_] [] t
  refine XS.aloadN X1.here hx rfl (hb hby d13_6) rfl rfl ?_
  exact k
 obtain ⟨T3, X3, e3, c3⟩ := kget X1 hx hZ hown (host := "") (Or.inl (w23 hw)) Via.refl e1 F0_ c2 rfl rfl (hb hby d13_7)
 obtain ⟨fs, hr, hrun, hended, hW, hsame⟩ := X3.leave (v := some (ii 0)) (fun h => by rw [Bd.returns] at h; cases h)
 refine ⟨_, _, c3 _ ?_, hrun, hended, _, _, rfl, ?_, ⟨_, rfl⟩, hW, hsame.mono (by decide) (by decide)⟩
 ·show S_ p e below T3 m 10 #[vr x_] [(ii 0)] _
  refine yG X3.here hx rfl 10 14 rfl (hb hby d13_10) ?_
  show S_ p e below T3 m 14 #[vr x_] [(ii 0)] _
  exact retN X3 hx (t := .byte) Bd.returns (by simp) (hb hby d13_14) hr
 ·show Q_codL Z x_ z_ h0 n0 _ T3.heap _
  rw [e3]
  exact ⟨rfl, N0, rfl⟩
theorem d14_0 : decode jdk_42_method_154_code 0 = .ok (.getstatic 38, 3) := by decide +kernel
theorem d14_3 : decode jdk_42_method_154_code 3 = .ok (.ifCond .eq 14, 3) := by decide +kernel
theorem d14_6 : decode jdk_42_method_154_code 6 = .ok (.aload_n 0, 1) := by decide +kernel
theorem d14_7 : decode jdk_42_method_154_code 7 = .ok (.getfield 15, 3) := by decide +kernel
theorem d14_10 : decode jdk_42_method_154_code 10 = .ok (.ifCond .ne 7, 3) := by decide +kernel
theorem d14_13 : decode jdk_42_method_154_code 13 = .ok (.iconst 1, 1) := by decide +kernel
theorem d14_14 : decode jdk_42_method_154_code 14 = .ok (.goto 4, 3) := by decide +kernel
theorem d14_18 : decode jdk_42_method_154_code 18 = .ok (.ireturn, 1) := by decide +kernel
theorem ef_islL (m : MethodId) (x_ : Addr) : entryFrame m #[(rr x_)] 1 = mkF m 0 #[vr x_] [] := by first | (simp [entryFrame, mkF, argsToLocals, Value.category]; done) | rfl
def Q_islL (Z : State) (x_ : Addr) (z_ : Int32) (h0 : Heap) (n0 : Nat) (v : Option Value) (h : Heap) (L : List Loc) : Prop := v = some (ii 1) ∧ Fr n0 L ∧ h = h0
set_option maxRecDepth 65536 in
set_option maxHeartbeats 40000000 in
theorem rm_islL (l : Launch) (Z : State) (a0 : Array Value) (hw : HW Z a0) (ws : List Jvm.Cond) (x_ : Addr) (z_ : Int32) (h0 : Heap) (n0 : Nat) (O0 : Old Z n0 h0) (F0_ : Fld Z h0 x_ nm0 "coder" "B" (ii 0)) (ZS1_ : Sta Z Z.heap nm0 "COMPACT_STRINGS" "Z" (.int z_)) (hz_ : ¬ (z_ = (0 : Int32))) :
  MFP l Z (⟨nm0, "isLatin1", "()Z"⟩ : MethodName) jdk_42_method_154_code 1 (some .boolean) ({ frames := 0, cells := 0, slots := 0, locals := 0 } : Room) ws #[(rr x_)] h0 (Q_islL Z x_ z_ h0 n0) := by
 refine MetFree.of_bodySF (plainFor_of_name pn_java_lang_String) hisR ?_
 intro p e s m args below meth c s₁ Bd hml0 hP hK
 obtain ⟨rfl, hZ, hh⟩ := hP
 have hx := Bd.exec
 have hby := Bd.bytes
 have hml : c.maxLocals = 1 := hml0
 have hown : s.vm.findClass nm0 = some m.cls := findClass_of_methodNamed Bd.named
 have hnm := (name_of_methodNamed Bd.named Bd.method).1
 have X0 : Stand p l e ({ frames := 0, cells := 0, slots := 0, locals := 0 } : Room) s m #[(rr x_)] below meth c s₁ [] 0 0 := Stand.of_body Bd
 have e0 : s₁.heap = h0 := by rw [← hh, Bd.state]; rfl
 have N0 := Fr.nil n0
 have kp0 : Keep h0 h0 [] := Keep.refl _ _
 have c0 : ∀ t, S_ p e below s₁ m 0 #[vr x_] [] t → Steps p.tables e below (s₁.setTop (entryFrame m #[(rr x_)] 1)) t := fun t k => castTop (ef_islL m x_) k
 generalize s₁.setTop (entryFrame m #[(rr x_)] 1) = st0 at c0 ⊢
 replace c0 : Kt p e below s₁ st0 (mkF m 0 #[vr x_] []) := c0
 obtain ⟨T1, X1, e1, c1⟩ := kgetS X0 hx hZ hown (host := "") (Or.inl (w38 hw)) Via.refl e0 (ZS1_.ext O0.2) c0 rfl (hb hby d14_0)
 have c2 : Kt p e below T1 st0 (mkF m 7 #[vr x_] [(rr x_)]) := fun t k => by
  refine c1 t ?_
  show S_ p e below T1 m 3 #[vr x_] [(.int z_)] t
  refine XS.ifNo X1.here hx rfl (hb hby d14_3) rfl ((if0 _ _).trans (feq hz_).1) ?_
  show S_ p e below T1 m 6 #[vr x_] [] t
  refine XS.aloadN X1.here hx rfl (hb hby d14_6) rfl rfl ?_
  exact k
 obtain ⟨T3, X3, e3, c3⟩ := kget X1 hx hZ hown (host := "") (Or.inl (w23 hw)) Via.refl e1 F0_ c2 rfl rfl (hb hby d14_7)
 obtain ⟨fs, hr, hrun, hended, hW, hsame⟩ := X3.leave (v := some (ii 1)) (fun h => by rw [Bd.returns] at h; cases h)
 refine ⟨_, _, c3 _ ?_, hrun, hended, _, _, rfl, ?_, ⟨_, rfl⟩, hW, hsame.mono (by decide) (by decide)⟩
 ·show S_ p e below T3 m 10 #[vr x_] [(ii 0)] _
  refine XS.ifNo X3.here hx rfl (hb hby d14_10) rfl rfl ?_
  show S_ p e below T3 m 13 #[vr x_] [] _
  refine XS.iconst X3.here hx rfl (hb hby d14_13) ?_
  show S_ p e below T3 m 14 #[vr x_] [(ii 1)] _
  refine yG X3.here hx rfl 14 18 rfl (hb hby d14_14) ?_
  show S_ p e below T3 m 18 #[vr x_] [(ii 1)] _
  exact retN X3 hx (t := .boolean) Bd.returns (by simp) (hb hby d14_18) hr
 ·show Q_islL Z x_ z_ h0 n0 _ T3.heap _
  rw [e3]
  exact ⟨rfl, N0, rfl⟩
theorem ef_codU (m : MethodId) (x_ : Addr) : entryFrame m #[(rr x_)] 1 = mkF m 0 #[vr x_] [] := by first | (simp [entryFrame, mkF, argsToLocals, Value.category]; done) | rfl
def Q_codU (Z : State) (x_ : Addr) (z_ : Int32) (h0 : Heap) (n0 : Nat) (v : Option Value) (h : Heap) (L : List Loc) : Prop := v = some (ii 1) ∧ Fr n0 L ∧ h = h0
set_option maxRecDepth 65536 in
set_option maxHeartbeats 40000000 in
theorem rm_codU (l : Launch) (Z : State) (a0 : Array Value) (hw : HW Z a0) (ws : List Jvm.Cond) (x_ : Addr) (z_ : Int32) (h0 : Heap) (n0 : Nat) (O0 : Old Z n0 h0) (F0_ : Fld Z h0 x_ nm0 "coder" "B" (ii 1)) (ZS1_ : Sta Z Z.heap nm0 "COMPACT_STRINGS" "Z" (.int z_)) (hz_ : ¬ (z_ = (0 : Int32))) :
  MFP l Z (⟨nm0, "coder", "()B"⟩ : MethodName) jdk_42_method_152_code 1 (some .byte) ({ frames := 0, cells := 0, slots := 0, locals := 0 } : Room) ws #[(rr x_)] h0 (Q_codU Z x_ z_ h0 n0) := by
 refine MetFree.of_bodySF (plainFor_of_name pn_java_lang_String) hisR ?_
 intro p e s m args below meth c s₁ Bd hml0 hP hK
 obtain ⟨rfl, hZ, hh⟩ := hP
 have hx := Bd.exec
 have hby := Bd.bytes
 have hml : c.maxLocals = 1 := hml0
 have hown : s.vm.findClass nm0 = some m.cls := findClass_of_methodNamed Bd.named
 have hnm := (name_of_methodNamed Bd.named Bd.method).1
 have X0 : Stand p l e ({ frames := 0, cells := 0, slots := 0, locals := 0 } : Room) s m #[(rr x_)] below meth c s₁ [] 0 0 := Stand.of_body Bd
 have e0 : s₁.heap = h0 := by rw [← hh, Bd.state]; rfl
 have N0 := Fr.nil n0
 have kp0 : Keep h0 h0 [] := Keep.refl _ _
 have c0 : ∀ t, S_ p e below s₁ m 0 #[vr x_] [] t → Steps p.tables e below (s₁.setTop (entryFrame m #[(rr x_)] 1)) t := fun t k => castTop (ef_codU m x_) k
 generalize s₁.setTop (entryFrame m #[(rr x_)] 1) = st0 at c0 ⊢
 replace c0 : Kt p e below s₁ st0 (mkF m 0 #[vr x_] []) := c0
 obtain ⟨T1, X1, e1, c1⟩ := kgetS X0 hx hZ hown (host := "") (Or.inl (w38 hw)) Via.refl e0 (ZS1_.ext O0.2) c0 rfl (hb hby d13_0)
 have c2 : Kt p e below T1 st0 (mkF m 7 #[vr x_] [(rr x_)]) := fun t k => by
  refine c1 t ?_
  show S_ p e below T1 m 3 #[vr x_] [(.int z_)] t
  refine XS.ifNo X1.here hx rfl (hb hby d13_3) rfl ((if0 _ _).trans (feq hz_).1) ?_
  show S_ p e below T1 m 6 #[vr x_] [] t
  refine XS.aloadN X1.here hx rfl (hb hby d13_6) rfl rfl ?_
  exact k
 obtain ⟨T3, X3, e3, c3⟩ := kget X1 hx hZ hown (host := "") (Or.inl (w23 hw)) Via.refl e1 F0_ c2 rfl rfl (hb hby d13_7)
 obtain ⟨fs, hr, hrun, hended, hW, hsame⟩ := X3.leave (v := some (ii 1)) (fun h => by rw [Bd.returns] at h; cases h)
 refine ⟨_, _, c3 _ ?_, hrun, hended, _, _, rfl, ?_, ⟨_, rfl⟩, hW, hsame.mono (by decide) (by decide)⟩
 ·show S_ p e below T3 m 10 #[vr x_] [(ii 1)] _
  refine yG X3.here hx rfl 10 14 rfl (hb hby d13_10) ?_
  show S_ p e below T3 m 14 #[vr x_] [(ii 1)] _
  exact retN X3 hx (t := .byte) Bd.returns (by simp) (hb hby d13_14) hr
 ·show Q_codU Z x_ z_ h0 n0 _ T3.heap _
  rw [e3]
  exact ⟨rfl, N0, rfl⟩
theorem d14_17 : decode jdk_42_method_154_code 17 = .ok (.iconst 0, 1) := by decide +kernel
theorem ef_islU (m : MethodId) (x_ : Addr) : entryFrame m #[(rr x_)] 1 = mkF m 0 #[vr x_] [] := by first | (simp [entryFrame, mkF, argsToLocals, Value.category]; done) | rfl
def Q_islU (Z : State) (x_ : Addr) (z_ : Int32) (h0 : Heap) (n0 : Nat) (v : Option Value) (h : Heap) (L : List Loc) : Prop := v = some (ii 0) ∧ Fr n0 L ∧ h = h0
set_option maxRecDepth 65536 in
set_option maxHeartbeats 40000000 in
theorem rm_islU (l : Launch) (Z : State) (a0 : Array Value) (hw : HW Z a0) (ws : List Jvm.Cond) (x_ : Addr) (z_ : Int32) (h0 : Heap) (n0 : Nat) (O0 : Old Z n0 h0) (F0_ : Fld Z h0 x_ nm0 "coder" "B" (ii 1)) (ZS1_ : Sta Z Z.heap nm0 "COMPACT_STRINGS" "Z" (.int z_)) (hz_ : ¬ (z_ = (0 : Int32))) :
  MFP l Z (⟨nm0, "isLatin1", "()Z"⟩ : MethodName) jdk_42_method_154_code 1 (some .boolean) ({ frames := 0, cells := 0, slots := 0, locals := 0 } : Room) ws #[(rr x_)] h0 (Q_islU Z x_ z_ h0 n0) := by
 refine MetFree.of_bodySF (plainFor_of_name pn_java_lang_String) hisR ?_
 intro p e s m args below meth c s₁ Bd hml0 hP hK
 obtain ⟨rfl, hZ, hh⟩ := hP
 have hx := Bd.exec
 have hby := Bd.bytes
 have hml : c.maxLocals = 1 := hml0
 have hown : s.vm.findClass nm0 = some m.cls := findClass_of_methodNamed Bd.named
 have hnm := (name_of_methodNamed Bd.named Bd.method).1
 have X0 : Stand p l e ({ frames := 0, cells := 0, slots := 0, locals := 0 } : Room) s m #[(rr x_)] below meth c s₁ [] 0 0 := Stand.of_body Bd
 have e0 : s₁.heap = h0 := by rw [← hh, Bd.state]; rfl
 have N0 := Fr.nil n0
 have kp0 : Keep h0 h0 [] := Keep.refl _ _
 have c0 : ∀ t, S_ p e below s₁ m 0 #[vr x_] [] t → Steps p.tables e below (s₁.setTop (entryFrame m #[(rr x_)] 1)) t := fun t k => castTop (ef_islU m x_) k
 generalize s₁.setTop (entryFrame m #[(rr x_)] 1) = st0 at c0 ⊢
 replace c0 : Kt p e below s₁ st0 (mkF m 0 #[vr x_] []) := c0
 obtain ⟨T1, X1, e1, c1⟩ := kgetS X0 hx hZ hown (host := "") (Or.inl (w38 hw)) Via.refl e0 (ZS1_.ext O0.2) c0 rfl (hb hby d14_0)
 have c2 : Kt p e below T1 st0 (mkF m 7 #[vr x_] [(rr x_)]) := fun t k => by
  refine c1 t ?_
  show S_ p e below T1 m 3 #[vr x_] [(.int z_)] t
  refine XS.ifNo X1.here hx rfl (hb hby d14_3) rfl ((if0 _ _).trans (feq hz_).1) ?_
  show S_ p e below T1 m 6 #[vr x_] [] t
  refine XS.aloadN X1.here hx rfl (hb hby d14_6) rfl rfl ?_
  exact k
 obtain ⟨T3, X3, e3, c3⟩ := kget X1 hx hZ hown (host := "") (Or.inl (w23 hw)) Via.refl e1 F0_ c2 rfl rfl (hb hby d14_7)
 obtain ⟨fs, hr, hrun, hended, hW, hsame⟩ := X3.leave (v := some (ii 0)) (fun h => by rw [Bd.returns] at h; cases h)
 refine ⟨_, _, c3 _ ?_, hrun, hended, _, _, rfl, ?_, ⟨_, rfl⟩, hW, hsame.mono (by decide) (by decide)⟩
 ·show S_ p e below T3 m 10 #[vr x_] [(ii 1)] _
  refine yI X3.here hx rfl 10 17 rfl (hb hby d14_10) rfl rfl ?_
  show S_ p e below T3 m 17 #[vr x_] [] _
  refine XS.iconst X3.here hx rfl (hb hby d14_17) ?_
  show S_ p e below T3 m 18 #[vr x_] [(ii 0)] _
  exact retN X3 hx (t := .boolean) Bd.returns (by simp) (hb hby d14_18) hr
 ·show Q_islU Z x_ z_ h0 n0 _ T3.heap _
  rw [e3]
  exact ⟨rfl, N0, rfl⟩
theorem d15_0 : decode jdk_42_method_56_code 0 = .ok (.aload_n 0, 1) := by decide +kernel
theorem d15_1 : decode jdk_42_method_56_code 1 = .ok (.invokevirtual 492, 3) := by decide +kernel
theorem pd_prZ : parseMethodDescriptor "()Z" = some ⟨[], some .boolean⟩ := by decide +kernel
theorem d15_4 : decode jdk_42_method_56_code 4 = .ok (.ifCond .eq 12, 3) := by decide +kernel
theorem d15_7 : decode jdk_42_method_56_code 7 = .ok (.aload_n 0, 1) := by decide +kernel
theorem d15_8 : decode jdk_42_method_56_code 8 = .ok (.getfield 9, 3) := by decide +kernel
theorem d15_11 : decode jdk_42_method_56_code 11 = .ok (.iload_n 1, 1) := by decide +kernel
theorem d15_12 : decode jdk_42_method_56_code 12 = .ok (.invokestatic 495, 3) := by decide +kernel
theorem d15_15 : decode jdk_42_method_56_code 15 = .ok (.ireturn, 1) := by decide +kernel
theorem ef_chL (m : MethodId) (x_ : Addr) (i_ : Int32) : entryFrame m #[(rr x_), (.int i_)] 2 = mkF m 0 #[vr x_, vi i_] [] := by first | (simp [entryFrame, mkF, argsToLocals, Value.category]; done) | rfl
def Q_chL (Z : State) (x_ : Addr) (s_ : Addr) (ks_ : ClassId) (n_ : Int32) (vs_ : List Value) (i_ : Int32) (b_ : Int32) (c_ : Int32) (fm_ : Value) (z_ : Int32) (h0 : Heap) (n0 : Nat) (v : Option Value) (h : Heap) (L : List Loc) : Prop := v = some (.int c_) ∧ Fr n0 L ∧ h = h0
set_option maxRecDepth 65536 in
set_option maxHeartbeats 40000000 in
theorem rm_chL (l : Launch) (Z : State) (a0 : Array Value) (hw : HW Z a0) (ws : List Jvm.Cond) (x_ : Addr) (s_ : Addr) (ks_ : ClassId) (n_ : Int32) (vs_ : List Value) (i_ : Int32) (b_ : Int32) (c_ : Int32) (fm_ : Value) (z_ : Int32) (h0 : Heap) (n0 : Nat) (O0 : Old Z n0 h0) (E0_ : Exa Z h0 x_ nm0) (F1_ : Fld Z h0 x_ nm0 "coder" "B" (ii 0)) (F2_ : Fld Z h0 x_ nm0 "value" "[B" (rr s_)) (A3_ : Arv Z h0 s_ ks_ .byte n_ vs_ (ii 0)) (ZS4_ : Sta Z Z.heap nm2 "SIOOBE_FORMATTER" nm4 fm_) (hfm_ : fm_.isRef = true) (ZS6_ : Sta Z Z.heap nm0 "COMPACT_STRINGS" "Z" (.int z_)) (hz_ : ¬ (z_ = (0 : Int32))) (h1_ : ¬ (i_ < (0 : Int32))) (h2_ : i_ < n_) (h3_ : vs_.getD (i_).toNatClampNeg (ii 0) = (.int b_)) (h4_ : (nar .char ((b_ &&& (255 : Int32)).toUInt32.toUInt16.toUInt32.toInt32)) = c_) (h5_ : nar .char c_ = c_) :
  MFP l Z (⟨nm0, "charAt", "(I)C"⟩ : MethodName) jdk_42_method_56_code 2 (some .char) ({ frames := 3, cells := 0, slots := 0, locals := 40 } : Room) ws #[(rr x_), (.int i_)] h0 (Q_chL Z x_ s_ ks_ n_ vs_ i_ b_ c_ fm_ z_ h0 n0) := by
 refine MetFree.of_bodySF (plainFor_of_name pn_java_lang_String) hisR ?_
 intro p e s m args below meth c s₁ Bd hml0 hP hK
 obtain ⟨rfl, hZ, hh⟩ := hP
 have hx := Bd.exec
 have hby := Bd.bytes
 have hml : c.maxLocals = 2 := hml0
 have hown : s.vm.findClass nm0 = some m.cls := findClass_of_methodNamed Bd.named
 have hnm := (name_of_methodNamed Bd.named Bd.method).1
 have X0 : Stand p l e ({ frames := 3, cells := 0, slots := 0, locals := 40 } : Room) s m #[(rr x_), (.int i_)] below meth c s₁ [] 0 0 := Stand.of_body Bd
 have e0 : s₁.heap = h0 := by rw [← hh, Bd.state]; rfl
 have N0 := Fr.nil n0
 have kp0 : Keep h0 h0 [] := Keep.refl _ _
 have c0 : ∀ t, S_ p e below s₁ m 0 #[vr x_, vi i_] [] t → Steps p.tables e below (s₁.setTop (entryFrame m #[(rr x_), (.int i_)] 2)) t := fun t k => castTop (ef_chL m x_ i_) k
 generalize s₁.setTop (entryFrame m #[(rr x_), (.int i_)] 2) = st0 at c0 ⊢
 replace c0 : Kt p e below s₁ st0 (mkF m 0 #[vr x_, vi i_] []) := c0
 have c1 : Kt p e below s₁ st0 (mkF m 1 #[vr x_, vi i_] [(rr x_)]) := fun t k => by
  refine c0 t ?_
  show S_ p e below s₁ m 0 #[vr x_, vi i_] [] t
  refine XS.aloadN X0.here hx rfl (hb hby d15_0) rfl rfl ?_
  exact k
 obtain ⟨_, T2, L2, X2, hQ2, c2⟩ := kvirt X0 hx hZ hown (w54 hw) (w55 hw) (w57 hw) (w56 hw) (w58 hw) (w5 hw) (rm_islL l Z a0 hw [] x_ z_ h0 n0 O0 F1_ ZS6_ hz_) e0 E0_ c1 hml pd_prZ [] [] 0 (hb hby d15_1) rfl rfl rfl rfl rfl rfl
 obtain ⟨rfl, N3q, K4⟩ := hQ2
 have N3 := Fr.app N0 N3q
 have c5 : Kt p e below T2 st0 (mkF m 8 #[vr x_, vi i_] [(rr x_)]) := fun t k => by
  refine c2 t ?_
  show S_ p e below T2 m 4 #[vr x_, vi i_] [(ii 1)] t
  refine XS.ifNo X2.here hx rfl (hb hby d15_4) rfl rfl ?_
  show S_ p e below T2 m 7 #[vr x_, vi i_] [] t
  refine XS.aloadN X2.here hx rfl (hb hby d15_7) rfl rfl ?_
  exact k
 obtain ⟨T6, X6, e6, c6⟩ := kget X2 hx hZ hown (host := "") (Or.inl (w22 hw)) Via.refl K4 F2_ c5 rfl rfl (hb hby d15_8)
 have c7 : Kt p e below T6 st0 (mkF m 12 #[vr x_, vi i_] [(.int i_), (rr s_)]) := fun t k => by
  refine c6 t ?_
  show S_ p e below T6 m 11 #[vr x_, vi i_] [(rr s_)] t
  refine XS.iloadN X6.here hx rfl (hb hby d15_11) rfl ?_
  exact k
 obtain ⟨_, T8, L8, X8, hQ8, c8⟩ := kstat X6 hx hZ hown (w59 hw) (w60 hw) (w61 hw) (w62 hw) (rm_l1ch l Z a0 hw [] s_ ks_ n_ vs_ i_ b_ c_ fm_ h0 n0 O0 A3_ ZS4_ hfm_ h1_ h2_ h3_ h4_) e6 c7 hml pd_pABIrC [(rr s_), (.int i_)] [] 0 (hb hby d15_12) rfl rfl rfl rfl rfl rfl
 obtain ⟨rfl, N9q, K10⟩ := hQ8
 have N9 := Fr.app N3 N9q
 obtain ⟨fs, hr, hrun, hended, hW, hsame⟩ := X8.leave (v := some (.int (nar .char c_))) (fun h => by rw [Bd.returns] at h; cases h)
 refine ⟨_, _, c8 _ ?_, hrun, hended, _, _, rfl, ?_, ⟨_, rfl⟩, hW, hsame.mono (by decide) (by decide)⟩
 ·show S_ p e below T8 m 15 #[vr x_, vi i_] [(.int c_)] _
  exact retN X8 hx (t := .char) Bd.returns (by simp) (hb hby d15_15) hr
 ·show Q_chL Z x_ s_ ks_ n_ vs_ i_ b_ c_ fm_ z_ h0 n0 _ T8.heap _
  rw [K10]
  exact ⟨(by rw [h5_]), N9, rfl⟩
theorem d16_0 : decode jdk_52_method_6_code 0 = .ok (.aload_n 0, 1) := by decide +kernel
theorem d16_1 : decode jdk_52_method_6_code 1 = .ok (.arraylength, 1) := by decide +kernel
theorem d16_2 : decode jdk_52_method_6_code 2 = .ok (.iconst 1, 1) := by decide +kernel
theorem d16_3 : decode jdk_52_method_6_code 3 = .ok (.ishr, 1) := by decide +kernel
theorem d16_4 : decode jdk_52_method_6_code 4 = .ok (.ireturn, 1) := by decide +kernel
theorem ef_u16len_1 (m : MethodId) (s_ : Addr) : entryFrame m #[(rr s_)] 1 = mkF m 0 #[vr s_] [] := by first | (simp [entryFrame, mkF, argsToLocals, Value.category]; done) | rfl
def Q_u16len_1 (Z : State) (s_ : Addr) (ks_ : ClassId) (vs_ : List Value) (h0 : Heap) (n0 : Nat) (v : Option Value) (h : Heap) (L : List Loc) : Prop := v = some (ii 1) ∧ Fr n0 L ∧ h = h0
set_option maxRecDepth 65536 in
set_option maxHeartbeats 40000000 in
theorem rm_u16len_1 (l : Launch) (Z : State) (a0 : Array Value) (hw : HW Z a0) (ws : List Jvm.Cond) (s_ : Addr) (ks_ : ClassId) (vs_ : List Value) (h0 : Heap) (n0 : Nat) (O0 : Old Z n0 h0) (A0_ : Arv Z h0 s_ ks_ .byte (2 : Int32) vs_ (ii 0)) :
  MFP l Z (⟨nm1, "length", "([B)I"⟩ : MethodName) jdk_52_method_6_code 1 (some .int) ({ frames := 0, cells := 0, slots := 0, locals := 0 } : Room) ws #[(rr s_)] h0 (Q_u16len_1 Z s_ ks_ vs_ h0 n0) := by
 refine MetFree.of_bodySF (plainFor_of_name pn_java_lang_StringUTF16) hisR ?_
 intro p e s m args below meth c s₁ Bd hml0 hP hK
 obtain ⟨rfl, hZ, hh⟩ := hP
 have hx := Bd.exec
 have hby := Bd.bytes
 have hml : c.maxLocals = 1 := hml0
 have hown : s.vm.findClass nm1 = some m.cls := findClass_of_methodNamed Bd.named
 have hnm := (name_of_methodNamed Bd.named Bd.method).1
 have X0 : Stand p l e ({ frames := 0, cells := 0, slots := 0, locals := 0 } : Room) s m #[(rr s_)] below meth c s₁ [] 0 0 := Stand.of_body Bd
 have e0 : s₁.heap = h0 := by rw [← hh, Bd.state]; rfl
 have N0 := Fr.nil n0
 have kp0 : Keep h0 h0 [] := Keep.refl _ _
 have c0 : ∀ t, S_ p e below s₁ m 0 #[vr s_] [] t → Steps p.tables e below (s₁.setTop (entryFrame m #[(rr s_)] 1)) t := fun t k => castTop (ef_u16len_1 m s_) k
 generalize s₁.setTop (entryFrame m #[(rr s_)] 1) = st0 at c0 ⊢
 replace c0 : Kt p e below s₁ st0 (mkF m 0 #[vr s_] []) := c0
 obtain ⟨fs, hr, hrun, hended, hW, hsame⟩ := X0.leave (v := some (ii 1)) (fun h => by rw [Bd.returns] at h; cases h)
 refine ⟨_, _, c0 _ ?_, hrun, hended, _, _, rfl, ?_, ⟨_, rfl⟩, hW, hsame.mono (by decide) (by decide)⟩
 ·show S_ p e below s₁ m 0 #[vr s_] [] _
  refine XS.aloadN X0.here hx rfl (hb hby d16_0) rfl rfl ?_
  show S_ p e below s₁ m 1 #[vr s_] [(rr s_)] _
  refine ldLen X0 hx hZ e0 A0_ rfl rfl (hb hby d16_1) ?_
  show S_ p e below s₁ m 2 #[vr s_] [(ii 2)] _
  refine XS.iconst X0.here hx rfl (hb hby d16_2) ?_
  show S_ p e below s₁ m 3 #[vr s_] [(ii 1), (ii 2)] _
  refine XS.ishr X0.here hx rfl (hb hby d16_3) rfl ?_
  show S_ p e below s₁ m 4 #[vr s_] [(ii 1)] _
  exact retOut X0 hx Bd.returns rfl (Or.inl ⟨rfl, Or.inl rfl, _, rfl⟩) (hb hby d16_4) hr
 ·show Q_u16len_1 Z s_ ks_ vs_ h0 n0 _ s₁.heap _
  rw [e0]
  exact ⟨rfl, N0, rfl⟩
theorem d17_0 : decode jdk_52_method_91_code 0 = .ok (.iload_n 0, 1) := by decide +kernel
theorem d17_1 : decode jdk_52_method_91_code 1 = .ok (.aload_n 1, 1) := by decide +kernel
theorem d17_2 : decode jdk_52_method_91_code 2 = .ok (.invokestatic 48, 3) := by decide +kernel
theorem pd_pABrI : parseMethodDescriptor "([B)I" = some ⟨[(.array .byte)], some .int⟩ := by decide +kernel
theorem d17_5 : decode jdk_52_method_91_code 5 = .ok (.invokestatic 414, 3) := by decide +kernel
theorem d17_8 : decode jdk_52_method_91_code 8 = .ok (.return_, 1) := by decide +kernel
theorem ef_u16chk_1 (m : MethodId) (i_ : Int32) (s_ : Addr) : entryFrame m #[(.int i_), (rr s_)] 2 = mkF m 0 #[vi i_, vr s_] [] := by first | (simp [entryFrame, mkF, argsToLocals, Value.category]; done) | rfl
def Q_u16chk_1 (Z : State) (s_ : Addr) (ks_ : ClassId) (vs_ : List Value) (i_ : Int32) (fm_ : Value) (h0 : Heap) (n0 : Nat) (v : Option Value) (h : Heap) (L : List Loc) : Prop := v = none ∧ Fr n0 L ∧ h = h0
set_option maxRecDepth 65536 in
set_option maxHeartbeats 40000000 in
theorem rm_u16chk_1 (l : Launch) (Z : State) (a0 : Array Value) (hw : HW Z a0) (ws : List Jvm.Cond) (s_ : Addr) (ks_ : ClassId) (vs_ : List Value) (i_ : Int32) (fm_ : Value) (h0 : Heap) (n0 : Nat) (O0 : Old Z n0 h0) (A0_ : Arv Z h0 s_ ks_ .byte (2 : Int32) vs_ (ii 0)) (ZS1_ : Sta Z Z.heap nm2 "SIOOBE_FORMATTER" nm4 fm_) (hfm_ : fm_.isRef = true) (h1_ : ¬ (i_ < (0 : Int32))) (h2_ : i_ < (1 : Int32)) :
  MFP l Z (⟨nm1, "checkIndex", "(I[B)V"⟩ : MethodName) jdk_52_method_91_code 2 none ({ frames := 2, cells := 0, slots := 0, locals := 27 } : Room) ws #[(.int i_), (rr s_)] h0 (Q_u16chk_1 Z s_ ks_ vs_ i_ fm_ h0 n0) := by
 refine MetFree.of_bodySF (plainFor_of_name pn_java_lang_StringUTF16) hisR ?_
 intro p e s m args below meth c s₁ Bd hml0 hP hK
 obtain ⟨rfl, hZ, hh⟩ := hP
 have hx := Bd.exec
 have hby := Bd.bytes
 have hml : c.maxLocals = 2 := hml0
 have hown : s.vm.findClass nm1 = some m.cls := findClass_of_methodNamed Bd.named
 have hnm := (name_of_methodNamed Bd.named Bd.method).1
 have X0 : Stand p l e ({ frames := 2, cells := 0, slots := 0, locals := 27 } : Room) s m #[(.int i_), (rr s_)] below meth c s₁ [] 0 0 := Stand.of_body Bd
 have e0 : s₁.heap = h0 := by rw [← hh, Bd.state]; rfl
 have N0 := Fr.nil n0
 have kp0 : Keep h0 h0 [] := Keep.refl _ _
 have c0 : ∀ t, S_ p e below s₁ m 0 #[vi i_, vr s_] [] t → Steps p.tables e below (s₁.setTop (entryFrame m #[(.int i_), (rr s_)] 2)) t := fun t k => castTop (ef_u16chk_1 m i_ s_) k
 generalize s₁.setTop (entryFrame m #[(.int i_), (rr s_)] 2) = st0 at c0 ⊢
 replace c0 : Kt p e below s₁ st0 (mkF m 0 #[vi i_, vr s_] []) := c0
 have c1 : Kt p e below s₁ st0 (mkF m 2 #[vi i_, vr s_] [(rr s_), (.int i_)]) := fun t k => by
  refine c0 t ?_
  show S_ p e below s₁ m 0 #[vi i_, vr s_] [] t
  refine XS.iloadN X0.here hx rfl (hb hby d17_0) rfl ?_
  show S_ p e below s₁ m 1 #[vi i_, vr s_] [(.int i_)] t
  refine XS.aloadN X0.here hx rfl (hb hby d17_1) rfl rfl ?_
  exact k
 obtain ⟨_, T2, L2, X2, hQ2, c2⟩ := kstat X0 hx hZ hown (w96 hw) (w97 hw) (w41 hw) (w98 hw) (rm_u16len_1 l Z a0 hw [] s_ ks_ vs_ h0 n0 O0 A0_) e0 c1 hml pd_pABrI [(rr s_)] [(.int i_)] 1 (hb hby d17_2) rfl rfl rfl rfl rfl rfl
 obtain ⟨rfl, N3q, K4⟩ := hQ2
 have N3 := Fr.app N0 N3q
 obtain ⟨_, T5, L5, X5, hQ5, c5⟩ := kstat X2 hx hZ hown (w99 hw) (w64 hw) (w5 hw) (w65 hw) (rm_schk l Z a0 hw [] i_ (1 : Int32) fm_ h0 n0 O0 ZS1_ hfm_ h1_ h2_) K4 c2 hml pd_pIIrV [(.int i_), (ii 1)] [] 0 (hb hby d17_5) rfl rfl rfl rfl rfl rfl
 obtain ⟨rfl, N6q, K7⟩ := hQ5
 have N6 := Fr.app N3 N6q
 obtain ⟨fs, hr, hrun, hended, hW, hsame⟩ := X5.leave (v := none) (fun _ => rfl)
 refine ⟨_, _, c5 _ ?_, hrun, hended, _, _, rfl, ?_, ⟨_, rfl⟩, hW, hsame.mono (by decide) (by decide)⟩
 ·show S_ p e below T5 m 8 #[vi i_, vr s_] [] _
  exact X5.returnOut hx Bd.returns (hb hby d17_8) hr
 ·show Q_u16chk_1 Z s_ ks_ vs_ i_ fm_ h0 n0 _ T5.heap _
  rw [K7]
  exact ⟨rfl, N6, rfl⟩
theorem d18_0 : decode jdk_52_method_83_code 0 = .ok (.iload_n 1, 1) := by decide +kernel
theorem d18_1 : decode jdk_52_method_83_code 1 = .ok (.aload_n 0, 1) := by decide +kernel
theorem d18_2 : decode jdk_52_method_83_code 2 = .ok (.invokestatic 67, 3) := by decide +kernel
theorem pd_pIABrV : parseMethodDescriptor "(I[B)V" = some ⟨[.int, (.array .byte)], none⟩ := by decide +kernel
theorem d18_5 : decode jdk_52_method_83_code 5 = .ok (.aload_n 0, 1) := by decide +kernel
theorem d18_6 : decode jdk_52_method_83_code 6 = .ok (.iload_n 1, 1) := by decide +kernel
theorem d18_7 : decode jdk_52_method_83_code 7 = .ok (.invokestatic 71, 3) := by decide +kernel
theorem d18_10 : decode jdk_52_method_83_code 10 = .ok (.ireturn, 1) := by decide +kernel
theorem ef_u16ch_1 (m : MethodId) (s_ : Addr) (i_ : Int32) : entryFrame m #[(rr s_), (.int i_)] 2 = mkF m 0 #[vr s_, vi i_] [] := by first | (simp [entryFrame, mkF, argsToLocals, Value.category]; done) | rfl
def Q_u16ch_1 (Z : State) (s_ : Addr) (ks_ : ClassId) (vs_ : List Value) (i_ : Int32) (b_ : Int32) (d_ : Int32) (c_ : Int32) (fm_ : Value) (h0 : Heap) (n0 : Nat) (v : Option Value) (h : Heap) (L : List Loc) : Prop := v = some (.int c_) ∧ Fr n0 L ∧ h = h0
set_option maxRecDepth 65536 in
set_option maxHeartbeats 40000000 in
theorem rm_u16ch_1 (l : Launch) (Z : State) (a0 : Array Value) (hw : HW Z a0) (ws : List Jvm.Cond) (s_ : Addr) (ks_ : ClassId) (vs_ : List Value) (i_ : Int32) (b_ : Int32) (d_ : Int32) (c_ : Int32) (fm_ : Value) (h0 : Heap) (n0 : Nat) (O0 : Old Z n0 h0) (A0_ : Arv Z h0 s_ ks_ .byte (2 : Int32) vs_ (ii 0)) (ZS1_ : Sta Z Z.heap nm2 "SIOOBE_FORMATTER" nm4 fm_) (hfm_ : fm_.isRef = true) (ZS3_ : Sta Z Z.heap nm1 "$assertionsDisabled" "Z" (ii 1)) (ZS4_ : Sta Z Z.heap nm1 "HI_BYTE_SHIFT" "I" (ii 0)) (ZS5_ : Sta Z Z.heap nm1 "LO_BYTE_SHIFT" "I" (ii 8)) (ha_ : ¬ (i_ < (0 : Int32))) (hb_ : i_ < (1 : Int32)) (h1_ : ¬ ((i_ <<< ((1 : Int32) &&& 31)) < (0 : Int32))) (h2_ : (i_ <<< ((1 : Int32) &&& 31)) < (2 : Int32)) (h3_ : ¬ (((i_ <<< ((1 : Int32) &&& 31)) + (1 : Int32)) < (0 : Int32))) (h4_ : ((i_ <<< ((1 : Int32) &&& 31)) + (1 : Int32)) < (2 : Int32)) (h5_ : vs_.getD ((i_ <<< ((1 : Int32) &&& 31))).toNatClampNeg (ii 0) = (.int b_)) (h6_ : vs_.getD (((i_ <<< ((1 : Int32) &&& 31)) + (1 : Int32))).toNatClampNeg (ii 0) = (.int d_)) (h7_ : (nar .char ((((b_ &&& (255 : Int32)) <<< ((0 : Int32) &&& 31)) ||| ((d_ &&& (255 : Int32)) <<< ((8 : Int32) &&& 31))).toUInt32.toUInt16.toUInt32.toInt32)) = c_) (h8_ : nar .char c_ = c_) :
  MFP l Z (⟨nm1, "charAt", "([BI)C"⟩ : MethodName) jdk_52_method_83_code 2 (some .char) ({ frames := 3, cells := 0, slots := 0, locals := 40 } : Room) ws #[(rr s_), (.int i_)] h0 (Q_u16ch_1 Z s_ ks_ vs_ i_ b_ d_ c_ fm_ h0 n0) := by
 refine MetFree.of_bodySF (plainFor_of_name pn_java_lang_StringUTF16) hisR ?_
 intro p e s m args below meth c s₁ Bd hml0 hP hK
 obtain ⟨rfl, hZ, hh⟩ := hP
 have hx := Bd.exec
 have hby := Bd.bytes
 have hml : c.maxLocals = 2 := hml0
 have hown : s.vm.findClass nm1 = some m.cls := findClass_of_methodNamed Bd.named
 have hnm := (name_of_methodNamed Bd.named Bd.method).1
 have X0 : Stand p l e ({ frames := 3, cells := 0, slots := 0, locals := 40 } : Room) s m #[(rr s_), (.int i_)] below meth c s₁ [] 0 0 := Stand.of_body Bd
 have e0 : s₁.heap = h0 := by rw [← hh, Bd.state]; rfl
 have N0 := Fr.nil n0
 have kp0 : Keep h0 h0 [] := Keep.refl _ _
 have c0 : ∀ t, S_ p e below s₁ m 0 #[vr s_, vi i_] [] t → Steps p.tables e below (s₁.setTop (entryFrame m #[(rr s_), (.int i_)] 2)) t := fun t k => castTop (ef_u16ch_1 m s_ i_) k
 generalize s₁.setTop (entryFrame m #[(rr s_), (.int i_)] 2) = st0 at c0 ⊢
 replace c0 : Kt p e below s₁ st0 (mkF m 0 #[vr s_, vi i_] []) := c0
 have c1 : Kt p e below s₁ st0 (mkF m 2 #[vr s_, vi i_] [(rr s_), (.int i_)]) := fun t k => by
  refine c0 t ?_
  show S_ p e below s₁ m 0 #[vr s_, vi i_] [] t
  refine XS.iloadN X0.here hx rfl (hb hby d18_0) rfl ?_
  show S_ p e below s₁ m 1 #[vr s_, vi i_] [(.int i_)] t
  refine XS.aloadN X0.here hx rfl (hb hby d18_1) rfl rfl ?_
  exact k
 obtain ⟨_, T2, L2, X2, hQ2, c2⟩ := kstat X0 hx hZ hown (w93 hw) (w94 hw) (w41 hw) (w95 hw) (rm_u16chk_1 l Z a0 hw [] s_ ks_ vs_ i_ fm_ h0 n0 O0 A0_ ZS1_ hfm_ ha_ hb_) e0 c1 hml pd_pIABrV [(.int i_), (rr s_)] [] 0 (hb hby d18_2) rfl rfl rfl rfl rfl rfl
 obtain ⟨rfl, N3q, K4⟩ := hQ2
 have N3 := Fr.app N0 N3q
 have c5 : Kt p e below T2 st0 (mkF m 7 #[vr s_, vi i_] [(.int i_), (rr s_)]) := fun t k => by
  refine c2 t ?_
  show S_ p e below T2 m 5 #[vr s_, vi i_] [] t
  refine XS.aloadN X2.here hx rfl (hb hby d18_5) rfl rfl ?_
  show S_ p e below T2 m 6 #[vr s_, vi i_] [(rr s_)] t
  refine XS.iloadN X2.here hx rfl (hb hby d18_6) rfl ?_
  exact k
 obtain ⟨_, T6, L6, X6, hQ6, c6⟩ := kstat X2 hx hZ hown (w87 hw) (w88 hw) (w41 hw) (w89 hw) (rm_getc l Z a0 hw [] s_ ks_ (2 : Int32) vs_ i_ b_ d_ c_ h0 n0 O0 A0_ ZS3_ ZS4_ ZS5_ h1_ h2_ h3_ h4_ h5_ h6_ h7_) K4 c5 hml pd_pABIrC [(rr s_), (.int i_)] [] 0 (hb hby d18_7) rfl rfl rfl rfl rfl rfl
 obtain ⟨rfl, N7q, K8⟩ := hQ6
 have N7 := Fr.app N3 N7q
 obtain ⟨fs, hr, hrun, hended, hW, hsame⟩ := X6.leave (v := some (.int (nar .char c_))) (fun h => by rw [Bd.returns] at h; cases h)
 refine ⟨_, _, c6 _ ?_, hrun, hended, _, _, rfl, ?_, ⟨_, rfl⟩, hW, hsame.mono (by decide) (by decide)⟩
 ·show S_ p e below T6 m 10 #[vr s_, vi i_] [(.int c_)] _
  exact retN X6 hx (t := .char) Bd.returns (by simp) (hb hby d18_10) hr
 ·show Q_u16ch_1 Z s_ ks_ vs_ i_ b_ d_ c_ fm_ h0 n0 _ T6.heap _
  rw [K8]
  exact ⟨(by rw [h8_]), N7, rfl⟩
theorem d15_16 : decode jdk_42_method_56_code 16 = .ok (.aload_n 0, 1) := by decide +kernel
theorem d15_17 : decode jdk_42_method_56_code 17 = .ok (.getfield 9, 3) := by decide +kernel
theorem d15_20 : decode jdk_42_method_56_code 20 = .ok (.iload_n 1, 1) := by decide +kernel
theorem d15_21 : decode jdk_42_method_56_code 21 = .ok (.invokestatic 498, 3) := by decide +kernel
theorem d15_24 : decode jdk_42_method_56_code 24 = .ok (.ireturn, 1) := by decide +kernel
theorem ef_chU_1 (m : MethodId) (x_ : Addr) (i_ : Int32) : entryFrame m #[(rr x_), (.int i_)] 2 = mkF m 0 #[vr x_, vi i_] [] := by first | (simp [entryFrame, mkF, argsToLocals, Value.category]; done) | rfl
def Q_chU_1 (Z : State) (x_ : Addr) (s_ : Addr) (ks_ : ClassId) (vs_ : List Value) (i_ : Int32) (b_ : Int32) (d_ : Int32) (c_ : Int32) (fm_ : Value) (z_ : Int32) (h0 : Heap) (n0 : Nat) (v : Option Value) (h : Heap) (L : List Loc) : Prop := v = some (.int c_) ∧ Fr n0 L ∧ h = h0
set_option maxRecDepth 65536 in
set_option maxHeartbeats 40000000 in
theorem rm_chU_1 (l : Launch) (Z : State) (a0 : Array Value) (hw : HW Z a0) (ws : List Jvm.Cond) (x_ : Addr) (s_ : Addr) (ks_ : ClassId) (vs_ : List Value) (i_ : Int32) (b_ : Int32) (d_ : Int32) (c_ : Int32) (fm_ : Value) (z_ : Int32) (h0 : Heap) (n0 : Nat) (O0 : Old Z n0 h0) (E0_ : Exa Z h0 x_ nm0) (F1_ : Fld Z h0 x_ nm0 "coder" "B" (ii 1)) (F2_ : Fld Z h0 x_ nm0 "value" "[B" (rr s_)) (A3_ : Arv Z h0 s_ ks_ .byte (2 : Int32) vs_ (ii 0)) (ZS4_ : Sta Z Z.heap nm2 "SIOOBE_FORMATTER" nm4 fm_) (hfm_ : fm_.isRef = true) (ZS6_ : Sta Z Z.heap nm0 "COMPACT_STRINGS" "Z" (.int z_)) (hz_ : ¬ (z_ = (0 : Int32))) (ZS8_ : Sta Z Z.heap nm1 "$assertionsDisabled" "Z" (ii 1)) (ZS9_ : Sta Z Z.heap nm1 "HI_BYTE_SHIFT" "I" (ii 0)) (ZS10_ : Sta Z Z.heap nm1 "LO_BYTE_SHIFT" "I" (ii 8)) (ha_ : ¬ (i_ < (0 : Int32))) (hb_ : i_ < (1 : Int32)) (h1_ : ¬ ((i_ <<< ((1 : Int32) &&& 31)) < (0 : Int32))) (h2_ : (i_ <<< ((1 : Int32) &&& 31)) < (2 : Int32)) (h3_ : ¬ (((i_ <<< ((1 : Int32) &&& 31)) + (1 : Int32)) < (0 : Int32))) (h4_ : ((i_ <<< ((1 : Int32) &&& 31)) + (1 : Int32)) < (2 : Int32)) (h5_ : vs_.getD ((i_ <<< ((1 : Int32) &&& 31))).toNatClampNeg (ii 0) = (.int b_)) (h6_ : vs_.getD (((i_ <<< ((1 : Int32) &&& 31)) + (1 : Int32))).toNatClampNeg (ii 0) = (.int d_)) (h7_ : (nar .char ((((b_ &&& (255 : Int32)) <<< ((0 : Int32) &&& 31)) ||| ((d_ &&& (255 : Int32)) <<< ((8 : Int32) &&& 31))).toUInt32.toUInt16.toUInt32.toInt32)) = c_) (h8_ : nar .char c_ = c_) :
  MFP l Z (⟨nm0, "charAt", "(I)C"⟩ : MethodName) jdk_42_method_56_code 2 (some .char) ({ frames := 4, cells := 0, slots := 0, locals := 53 } : Room) ws #[(rr x_), (.int i_)] h0 (Q_chU_1 Z x_ s_ ks_ vs_ i_ b_ d_ c_ fm_ z_ h0 n0) := by
 refine MetFree.of_bodySF (plainFor_of_name pn_java_lang_String) hisR ?_
 intro p e s m args below meth c s₁ Bd hml0 hP hK
 obtain ⟨rfl, hZ, hh⟩ := hP
 have hx := Bd.exec
 have hby := Bd.bytes
 have hml : c.maxLocals = 2 := hml0
 have hown : s.vm.findClass nm0 = some m.cls := findClass_of_methodNamed Bd.named
 have hnm := (name_of_methodNamed Bd.named Bd.method).1
 have X0 : Stand p l e ({ frames := 4, cells := 0, slots := 0, locals := 53 } : Room) s m #[(rr x_), (.int i_)] below meth c s₁ [] 0 0 := Stand.of_body Bd
 have e0 : s₁.heap = h0 := by rw [← hh, Bd.state]; rfl
 have N0 := Fr.nil n0
 have kp0 : Keep h0 h0 [] := Keep.refl _ _
 have c0 : ∀ t, S_ p e below s₁ m 0 #[vr x_, vi i_] [] t → Steps p.tables e below (s₁.setTop (entryFrame m #[(rr x_), (.int i_)] 2)) t := fun t k => castTop (ef_chU_1 m x_ i_) k
 generalize s₁.setTop (entryFrame m #[(rr x_), (.int i_)] 2) = st0 at c0 ⊢
 replace c0 : Kt p e below s₁ st0 (mkF m 0 #[vr x_, vi i_] []) := c0
 have c1 : Kt p e below s₁ st0 (mkF m 1 #[vr x_, vi i_] [(rr x_)]) := fun t k => by
  refine c0 t ?_
  show S_ p e below s₁ m 0 #[vr x_, vi i_] [] t
  refine XS.aloadN X0.here hx rfl (hb hby d15_0) rfl rfl ?_
  exact k
 obtain ⟨_, T2, L2, X2, hQ2, c2⟩ := kvirt X0 hx hZ hown (w54 hw) (w55 hw) (w57 hw) (w56 hw) (w58 hw) (w5 hw) (rm_islU l Z a0 hw [] x_ z_ h0 n0 O0 F1_ ZS6_ hz_) e0 E0_ c1 hml pd_prZ [] [] 0 (hb hby d15_1) rfl rfl rfl rfl rfl rfl
 obtain ⟨rfl, N3q, K4⟩ := hQ2
 have N3 := Fr.app N0 N3q
 have c5 : Kt p e below T2 st0 (mkF m 17 #[vr x_, vi i_] [(rr x_)]) := fun t k => by
  refine c2 t ?_
  show S_ p e below T2 m 4 #[vr x_, vi i_] [(ii 0)] t
  refine yI X2.here hx rfl 4 16 rfl (hb hby d15_4) rfl rfl ?_
  show S_ p e below T2 m 16 #[vr x_, vi i_] [] t
  refine XS.aloadN X2.here hx rfl (hb hby d15_16) rfl rfl ?_
  exact k
 obtain ⟨T6, X6, e6, c6⟩ := kget X2 hx hZ hown (host := "") (Or.inl (w22 hw)) Via.refl K4 F2_ c5 rfl rfl (hb hby d15_17)
 have c7 : Kt p e below T6 st0 (mkF m 21 #[vr x_, vi i_] [(.int i_), (rr s_)]) := fun t k => by
  refine c6 t ?_
  show S_ p e below T6 m 20 #[vr x_, vi i_] [(rr s_)] t
  refine XS.iloadN X6.here hx rfl (hb hby d15_20) rfl ?_
  exact k
 obtain ⟨_, T8, L8, X8, hQ8, c8⟩ := kstat X6 hx hZ hown (w90 hw) (w91 hw) (w41 hw) (w92 hw) (rm_u16ch_1 l Z a0 hw [] s_ ks_ vs_ i_ b_ d_ c_ fm_ h0 n0 O0 A3_ ZS4_ hfm_ ZS8_ ZS9_ ZS10_ ha_ hb_ h1_ h2_ h3_ h4_ h5_ h6_ h7_ h8_) e6 c7 hml pd_pABIrC [(rr s_), (.int i_)] [] 0 (hb hby d15_21) rfl rfl rfl rfl rfl rfl
 obtain ⟨rfl, N9q, K10⟩ := hQ8
 have N9 := Fr.app N3 N9q
 obtain ⟨fs, hr, hrun, hended, hW, hsame⟩ := X8.leave (v := some (.int (nar .char c_))) (fun h => by rw [Bd.returns] at h; cases h)
 refine ⟨_, _, c8 _ ?_, hrun, hended, _, _, rfl, ?_, ⟨_, rfl⟩, hW, hsame.mono (by decide) (by decide)⟩
 ·show S_ p e below T8 m 24 #[vr x_, vi i_] [(.int c_)] _
  exact retN X8 hx (t := .char) Bd.returns (by simp) (hb hby d15_24) hr
 ·show Q_chU_1 Z x_ s_ ks_ vs_ i_ b_ d_ c_ fm_ z_ h0 n0 _ T8.heap _
  rw [K10]
  exact ⟨(by rw [h8_]), N9, rfl⟩
theorem d19_0 : decode jdk_42_method_54_code 0 = .ok (.aload_n 0, 1) := by decide +kernel
theorem d19_1 : decode jdk_42_method_54_code 1 = .ok (.getfield 9, 3) := by decide +kernel
theorem d19_4 : decode jdk_42_method_54_code 4 = .ok (.arraylength, 1) := by decide +kernel
theorem d19_5 : decode jdk_42_method_54_code 5 = .ok (.aload_n 0, 1) := by decide +kernel
theorem d19_6 : decode jdk_42_method_54_code 6 = .ok (.invokevirtual 335, 3) := by decide +kernel
theorem pd_prB : parseMethodDescriptor "()B" = some ⟨[], some .byte⟩ := by decide +kernel
theorem d19_9 : decode jdk_42_method_54_code 9 = .ok (.ishr, 1) := by decide +kernel
theorem d19_10 : decode jdk_42_method_54_code 10 = .ok (.ireturn, 1) := by decide +kernel
theorem ef_lenL_1 (m : MethodId) (x_ : Addr) : entryFrame m #[(rr x_)] 1 = mkF m 0 #[vr x_] [] := by first | (simp [entryFrame, mkF, argsToLocals, Value.category]; done) | rfl
def Q_lenL_1 (Z : State) (x_ : Addr) (s_ : Addr) (ks_ : ClassId) (vs_ : List Value) (z_ : Int32) (h0 : Heap) (n0 : Nat) (v : Option Value) (h : Heap) (L : List Loc) : Prop := v = some (ii 1) ∧ Fr n0 L ∧ h = h0
set_option maxRecDepth 65536 in
set_option maxHeartbeats 40000000 in
theorem rm_lenL_1 (l : Launch) (Z : State) (a0 : Array Value) (hw : HW Z a0) (ws : List Jvm.Cond) (x_ : Addr) (s_ : Addr) (ks_ : ClassId) (vs_ : List Value) (z_ : Int32) (h0 : Heap) (n0 : Nat) (O0 : Old Z n0 h0) (E0_ : Exa Z h0 x_ nm0) (F1_ : Fld Z h0 x_ nm0 "coder" "B" (ii 0)) (F2_ : Fld Z h0 x_ nm0 "value" "[B" (rr s_)) (A3_ : Arv Z h0 s_ ks_ .byte (1 : Int32) vs_ (ii 0)) (ZS4_ : Sta Z Z.heap nm0 "COMPACT_STRINGS" "Z" (.int z_)) (hz_ : ¬ (z_ = (0 : Int32))) :
  MFP l Z (⟨nm0, "length", "()I"⟩ : MethodName) jdk_42_method_54_code 1 (some .int) ({ frames := 1, cells := 0, slots := 0, locals := 13 } : Room) ws #[(rr x_)] h0 (Q_lenL_1 Z x_ s_ ks_ vs_ z_ h0 n0) := by
 refine MetFree.of_bodySF (plainFor_of_name pn_java_lang_String) hisR ?_
 intro p e s m args below meth c s₁ Bd hml0 hP hK
 obtain ⟨rfl, hZ, hh⟩ := hP
 have hx := Bd.exec
 have hby := Bd.bytes
 have hml : c.maxLocals = 1 := hml0
 have hown : s.vm.findClass nm0 = some m.cls := findClass_of_methodNamed Bd.named
 have hnm := (name_of_methodNamed Bd.named Bd.method).1
 have X0 : Stand p l e ({ frames := 1, cells := 0, slots := 0, locals := 13 } : Room) s m #[(rr x_)] below meth c s₁ [] 0 0 := Stand.of_body Bd
 have e0 : s₁.heap = h0 := by rw [← hh, Bd.state]; rfl
 have N0 := Fr.nil n0
 have kp0 : Keep h0 h0 [] := Keep.refl _ _
 have c0 : ∀ t, S_ p e below s₁ m 0 #[vr x_] [] t → Steps p.tables e below (s₁.setTop (entryFrame m #[(rr x_)] 1)) t := fun t k => castTop (ef_lenL_1 m x_) k
 generalize s₁.setTop (entryFrame m #[(rr x_)] 1) = st0 at c0 ⊢
 replace c0 : Kt p e below s₁ st0 (mkF m 0 #[vr x_] []) := c0
 have c1 : Kt p e below s₁ st0 (mkF m 1 #[vr x_] [(rr x_)]) := fun t k => by
  refine c0 t ?_
  show S_ p e below s₁ m 0 #[vr x_] [] t
  refine XS.aloadN X0.here hx rfl (hb hby d19_0) rfl rfl ?_
  exact k
 obtain ⟨T2, X2, e2, c2⟩ := kget X0 hx hZ hown (host := "") (Or.inl (w22 hw)) Via.refl e0 F2_ c1 rfl rfl (hb hby d19_1)
 have c3 : Kt p e below T2 st0 (mkF m 6 #[vr x_] [(rr x_), (ii 1)]) := fun t k => by
  refine c2 t ?_
  show S_ p e below T2 m 4 #[vr x_] [(rr s_)] t
  refine ldLen X2 hx hZ e2 A3_ rfl rfl (hb hby d19_4) ?_
  show S_ p e below T2 m 5 #[vr x_] [(ii 1)] t
  refine XS.aloadN X2.here hx rfl (hb hby d19_5) rfl rfl ?_
  exact k
 obtain ⟨_, T4, L4, X4, hQ4, c4⟩ := kvirt X2 hx hZ hown (w33 hw) (w34 hw) (w36 hw) (w35 hw) (w37 hw) (w5 hw) (rm_codL l Z a0 hw [] x_ z_ h0 n0 O0 F1_ ZS4_ hz_) e2 E0_ c3 hml pd_prB [] [(ii 1)] 1 (hb hby d19_6) rfl rfl rfl rfl rfl rfl
 obtain ⟨rfl, N5q, K6⟩ := hQ4
 have N5 := Fr.app N0 N5q
 obtain ⟨fs, hr, hrun, hended, hW, hsame⟩ := X4.leave (v := some (ii 1)) (fun h => by rw [Bd.returns] at h; cases h)
 refine ⟨_, _, c4 _ ?_, hrun, hended, _, _, rfl, ?_, ⟨_, rfl⟩, hW, hsame.mono (by decide) (by decide)⟩
 ·show S_ p e below T4 m 9 #[vr x_] [(ii 0), (ii 1)] _
  refine XS.ishr X4.here hx rfl (hb hby d19_9) rfl ?_
  show S_ p e below T4 m 10 #[vr x_] [(ii 1)] _
  exact retOut X4 hx Bd.returns rfl (Or.inl ⟨rfl, Or.inl rfl, _, rfl⟩) (hb hby d19_10) hr
 ·show Q_lenL_1 Z x_ s_ ks_ vs_ z_ h0 n0 _ T4.heap _
  rw [K6]
  exact ⟨rfl, N5, rfl⟩
theorem ef_lenU_1 (m : MethodId) (x_ : Addr) : entryFrame m #[(rr x_)] 1 = mkF m 0 #[vr x_] [] := by first | (simp [entryFrame, mkF, argsToLocals, Value.category]; done) | rfl
def Q_lenU_1 (Z : State) (x_ : Addr) (s_ : Addr) (ks_ : ClassId) (vs_ : List Value) (z_ : Int32) (h0 : Heap) (n0 : Nat) (v : Option Value) (h : Heap) (L : List Loc) : Prop := v = some (ii 1) ∧ Fr n0 L ∧ h = h0
set_option maxRecDepth 65536 in
set_option maxHeartbeats 40000000 in
theorem rm_lenU_1 (l : Launch) (Z : State) (a0 : Array Value) (hw : HW Z a0) (ws : List Jvm.Cond) (x_ : Addr) (s_ : Addr) (ks_ : ClassId) (vs_ : List Value) (z_ : Int32) (h0 : Heap) (n0 : Nat) (O0 : Old Z n0 h0) (E0_ : Exa Z h0 x_ nm0) (F1_ : Fld Z h0 x_ nm0 "coder" "B" (ii 1)) (F2_ : Fld Z h0 x_ nm0 "value" "[B" (rr s_)) (A3_ : Arv Z h0 s_ ks_ .byte (2 : Int32) vs_ (ii 0)) (ZS4_ : Sta Z Z.heap nm0 "COMPACT_STRINGS" "Z" (.int z_)) (hz_ : ¬ (z_ = (0 : Int32))) :
  MFP l Z (⟨nm0, "length", "()I"⟩ : MethodName) jdk_42_method_54_code 1 (some .int) ({ frames := 1, cells := 0, slots := 0, locals := 13 } : Room) ws #[(rr x_)] h0 (Q_lenU_1 Z x_ s_ ks_ vs_ z_ h0 n0) := by
 refine MetFree.of_bodySF (plainFor_of_name pn_java_lang_String) hisR ?_
 intro p e s m args below meth c s₁ Bd hml0 hP hK
 obtain ⟨rfl, hZ, hh⟩ := hP
 have hx := Bd.exec
 have hby := Bd.bytes
 have hml : c.maxLocals = 1 := hml0
 have hown : s.vm.findClass nm0 = some m.cls := findClass_of_methodNamed Bd.named
 have hnm := (name_of_methodNamed Bd.named Bd.method).1
 have X0 : Stand p l e ({ frames := 1, cells := 0, slots := 0, locals := 13 } : Room) s m #[(rr x_)] below meth c s₁ [] 0 0 := Stand.of_body Bd
 have e0 : s₁.heap = h0 := by rw [← hh, Bd.state]; rfl
 have N0 := Fr.nil n0
 have kp0 : Keep h0 h0 [] := Keep.refl _ _
 have c0 : ∀ t, S_ p e below s₁ m 0 #[vr x_] [] t → Steps p.tables e below (s₁.setTop (entryFrame m #[(rr x_)] 1)) t := fun t k => castTop (ef_lenU_1 m x_) k
 generalize s₁.setTop (entryFrame m #[(rr x_)] 1) = st0 at c0 ⊢
 replace c0 : Kt p e below s₁ st0 (mkF m 0 #[vr x_] []) := c0
 have c1 : Kt p e below s₁ st0 (mkF m 1 #[vr x_] [(rr x_)]) := fun t k => by
  refine c0 t ?_
  show S_ p e below s₁ m 0 #[vr x_] [] t
  refine XS.aloadN X0.here hx rfl (hb hby d19_0) rfl rfl ?_
  exact k
 obtain ⟨T2, X2, e2, c2⟩ := kget X0 hx hZ hown (host := "") (Or.inl (w22 hw)) Via.refl e0 F2_ c1 rfl rfl (hb hby d19_1)
 have c3 : Kt p e below T2 st0 (mkF m 6 #[vr x_] [(rr x_), (ii 2)]) := fun t k => by
  refine c2 t ?_
  show S_ p e below T2 m 4 #[vr x_] [(rr s_)] t
  refine ldLen X2 hx hZ e2 A3_ rfl rfl (hb hby d19_4) ?_
  show S_ p e below T2 m 5 #[vr x_] [(ii 2)] t
  refine XS.aloadN X2.here hx rfl (hb hby d19_5) rfl rfl ?_
  exact k
 obtain ⟨_, T4, L4, X4, hQ4, c4⟩ := kvirt X2 hx hZ hown (w33 hw) (w34 hw) (w36 hw) (w35 hw) (w37 hw) (w5 hw) (rm_codU l Z a0 hw [] x_ z_ h0 n0 O0 F1_ ZS4_ hz_) e2 E0_ c3 hml pd_prB [] [(ii 2)] 1 (hb hby d19_6) rfl rfl rfl rfl rfl rfl
 obtain ⟨rfl, N5q, K6⟩ := hQ4
 have N5 := Fr.app N0 N5q
 obtain ⟨fs, hr, hrun, hended, hW, hsame⟩ := X4.leave (v := some (ii 1)) (fun h => by rw [Bd.returns] at h; cases h)
 refine ⟨_, _, c4 _ ?_, hrun, hended, _, _, rfl, ?_, ⟨_, rfl⟩, hW, hsame.mono (by decide) (by decide)⟩
 ·show S_ p e below T4 m 9 #[vr x_] [(ii 1), (ii 2)] _
  refine XS.ishr X4.here hx rfl (hb hby d19_9) rfl ?_
  show S_ p e below T4 m 10 #[vr x_] [(ii 1)] _
  exact retOut X4 hx Bd.returns rfl (Or.inl ⟨rfl, Or.inl rfl, _, rfl⟩) (hb hby d19_10) hr
 ·show Q_lenU_1 Z x_ s_ ks_ vs_ z_ h0 n0 _ T4.heap _
  rw [K6]
  exact ⟨rfl, N5, rfl⟩
theorem ef_cmp5a_2 (m : MethodId) (s_ : Addr) (d_ : Addr) : entryFrame m #[(rr s_), (ii 0), (rr d_), (ii 0), (ii 2)] 7 = mkF m 0 #[vr s_, vi 0, vr d_, vi 0, vi 2, u_, u_] [] := by first | (simp [entryFrame, mkF, argsToLocals, Value.category]; done) | rfl
def Q_cmp5a_2 (Z : State) (s_ : Addr) (ks_ : ClassId) (d_ : Addr) (kd_ : ClassId) (c0_ : Int32) (c1_ : Int32) (h0 : Heap) (n0 : Nat) (v : Option Value) (h : Heap) (L : List Loc) : Prop := (v = some (ii 2) ∧ Fr n0 L ∧ Keep h0 h [d_] ∧ Arv Z h d_ kd_ .byte (2 : Int32) [(.int (nar .byte (c0_.toInt8.toInt32))), (.int (nar .byte (c1_.toInt8.toInt32)))] (ii 0) ∧ ¬ ((255 : Int32) < c0_) ∧ ¬ ((255 : Int32) < c1_)) ∨ (v = some (ii 0) ∧ Fr n0 L ∧ Keep h0 h [d_] ∧ (255 : Int32) < c0_) ∨ (v = some (ii 1) ∧ Fr n0 L ∧ Keep h0 h [d_] ∧ (255 : Int32) < c1_)
set_option maxRecDepth 65536 in
set_option maxHeartbeats 40000000 in
theorem rm_cmp5a_2 (l : Launch) (Z : State) (a0 : Array Value) (hw : HW Z a0) (ws : List Jvm.Cond) (s_ : Addr) (ks_ : ClassId) (d_ : Addr) (kd_ : ClassId) (c0_ : Int32) (c1_ : Int32) (h0 : Heap) (n0 : Nat) (O0 : Old Z n0 h0) (A0_ : Arv Z h0 s_ ks_ .char (2 : Int32) [(.int c0_), (.int c1_)] (ii 0)) (A1_ : Arv Z h0 d_ kd_ .byte (2 : Int32) [(ii 0), (ii 0)] (ii 0)) (G2_ : n0 ≤ d_) (NE3_ : s_ ≠ d_) :
  MFP l Z (⟨nm1, "compress", "([CI[BII)I"⟩ : MethodName) jdk_52_method_21_code 7 (some .int) ({ frames := 0, cells := 0, slots := 0, locals := 0 } : Room) ws #[(rr s_), (ii 0), (rr d_), (ii 0), (ii 2)] h0 (Q_cmp5a_2 Z s_ ks_ d_ kd_ c0_ c1_ h0 n0) := by
 refine MetFree.of_bodySF (plainFor_of_name pn_java_lang_StringUTF16) hisR ?_
 intro p e s m args below meth c s₁ Bd hml0 hP hK
 obtain ⟨rfl, hZ, hh⟩ := hP
 have hx := Bd.exec
 have hby := Bd.bytes
 have hml : c.maxLocals = 7 := hml0
 have hown : s.vm.findClass nm1 = some m.cls := findClass_of_methodNamed Bd.named
 have hnm := (name_of_methodNamed Bd.named Bd.method).1
 have X0 : Stand p l e ({ frames := 0, cells := 0, slots := 0, locals := 0 } : Room) s m #[(rr s_), (ii 0), (rr d_), (ii 0), (ii 2)] below meth c s₁ [] 0 0 := Stand.of_body Bd
 have e0 : s₁.heap = h0 := by rw [← hh, Bd.state]; rfl
 have N0 := Fr.nil n0
 have kp0 : Keep h0 h0 [d_] := Keep.refl _ _
 have c0 : ∀ t, S_ p e below s₁ m 0 #[vr s_, vi 0, vr d_, vi 0, vi 2, u_, u_] [] t → Steps p.tables e below (s₁.setTop (entryFrame m #[(rr s_), (ii 0), (rr d_), (ii 0), (ii 2)] 7)) t := fun t k => castTop (ef_cmp5a_2 m s_ d_) k
 generalize s₁.setTop (entryFrame m #[(rr s_), (ii 0), (rr d_), (ii 0), (ii 2)] 7) = st0 at c0 ⊢
 replace c0 : Kt p e below s₁ st0 (mkF m 0 #[vr s_, vi 0, vr d_, vi 0, vi 2, u_, u_] []) := c0
 have c1 : Kt p e below s₁ st0 (mkF m 20 #[vr s_, vi 0, vr d_, vi 0, vi 2, vi 0, vi c0_] [(ii 255), (.int c0_)]) := fun t k => by
  refine c0 t ?_
  show S_ p e below s₁ m 0 #[vr s_, vi 0, vr d_, vi 0, vi 2, u_, u_] [] t
  refine XS.iconst X0.here hx rfl (hb hby d5_0) ?_
  show S_ p e below s₁ m 1 #[vr s_, vi 0, vr d_, vi 0, vi 2, u_, u_] [(ii 0)] t
  refine XS.istore X0.here hx rfl (hb hby d5_1) rfl (l' := #[vr s_, vi 0, vr d_, vi 0, vi 2, vi 0, u_]) rfl ?_
  show S_ p e below s₁ m 3 #[vr s_, vi 0, vr d_, vi 0, vi 2, vi 0, u_] [] t
  refine XS.iload X0.here hx rfl (hb hby d5_3) rfl ?_
  show S_ p e below s₁ m 5 #[vr s_, vi 0, vr d_, vi 0, vi 2, vi 0, u_] [(ii 0)] t
  refine XS.iload X0.here hx rfl (hb hby d5_5) rfl ?_
  show S_ p e below s₁ m 7 #[vr s_, vi 0, vr d_, vi 0, vi 2, vi 0, u_] [(ii 2), (ii 0)] t
  refine XS.icmpNo X0.here hx rfl (hb hby d5_7) rfl rfl ?_
  show S_ p e below s₁ m 10 #[vr s_, vi 0, vr d_, vi 0, vi 2, vi 0, u_] [] t
  refine XS.aloadN X0.here hx rfl (hb hby d5_10) rfl rfl ?_
  show S_ p e below s₁ m 11 #[vr s_, vi 0, vr d_, vi 0, vi 2, vi 0, u_] [(rr s_)] t
  refine XS.iloadN X0.here hx rfl (hb hby d5_11) rfl ?_
  show S_ p e below s₁ m 12 #[vr s_, vi 0, vr d_, vi 0, vi 2, vi 0, u_] [(ii 0), (rr s_)] t
  refine ldC X0 hx hZ e0 A0_ (v := (.int c0_)) (by decide) (by decide) rfl rfl rfl (hb hby d5_12) ?_
  show S_ p e below s₁ m 13 #[vr s_, vi 0, vr d_, vi 0, vi 2, vi 0, u_] [(.int c0_)] t
  refine XS.istore X0.here hx rfl (hb hby d5_13) rfl (l' := #[vr s_, vi 0, vr d_, vi 0, vi 2, vi 0, vi c0_]) rfl ?_
  show S_ p e below s₁ m 15 #[vr s_, vi 0, vr d_, vi 0, vi 2, vi 0, vi c0_] [] t
  refine XS.iload X0.here hx rfl (hb hby d5_15) rfl ?_
  show S_ p e below s₁ m 17 #[vr s_, vi 0, vr d_, vi 0, vi 2, vi 0, vi c0_] [(.int c0_)] t
  refine XS.sipush X0.here hx rfl (hb hby d5_17) ?_
  exact k
 by_cases hc2 : (255 : Int32) < c0_
 ·obtain ⟨fs, hr, hrun, hended, hW, hsame⟩ := X0.leave (v := some (ii 0)) (fun h => by rw [Bd.returns] at h; cases h)
  refine ⟨_, _, c1 _ ?_, hrun, hended, _, _, rfl, ?_, ⟨_, rfl⟩, hW, hsame.mono (by decide) (by decide)⟩
  ·show S_ p e below s₁ m 20 #[vr s_, vi 0, vr d_, vi 0, vi 2, vi 0, vi c0_] [(ii 255), (.int c0_)] _
   refine XS.icmpNo X0.here hx rfl (hb hby d5_20) rfl (tlt hc2).2.2.2 ?_
   show S_ p e below s₁ m 23 #[vr s_, vi 0, vr d_, vi 0, vi 2, vi 0, vi c0_] [] _
   refine XS.iload X0.here hx rfl (hb hby d5_23) rfl ?_
   show S_ p e below s₁ m 25 #[vr s_, vi 0, vr d_, vi 0, vi 2, vi 0, vi c0_] [(ii 0)] _
   exact retOut X0 hx Bd.returns rfl (Or.inl ⟨rfl, Or.inl rfl, _, rfl⟩) (hb hby d5_25) hr
  ·show Q_cmp5a_2 Z s_ ks_ d_ kd_ c0_ c1_ h0 n0 _ s₁.heap _
   rw [e0]
   exact (Or.inr (Or.inl ⟨rfl, N0, kp0, hc2⟩))
 ·have c3 : Kt p e below s₁ st0 (mkF m 31 #[vr s_, vi 0, vr d_, vi 0, vi 2, vi 0, vi c0_] [(.int (c0_.toInt8.toInt32)), (ii 0), (rr d_)]) := fun t k => by
   refine c1 t ?_
   show S_ p e below s₁ m 20 #[vr s_, vi 0, vr d_, vi 0, vi 2, vi 0, vi c0_] [(ii 255), (.int c0_)] t
   refine yC X0.here hx rfl 20 26 rfl (hb hby d5_20) rfl (flt hc2).2.2.2 ?_
   show S_ p e below s₁ m 26 #[vr s_, vi 0, vr d_, vi 0, vi 2, vi 0, vi c0_] [] t
   refine XS.aloadN X0.here hx rfl (hb hby d5_26) rfl rfl ?_
   show S_ p e below s₁ m 27 #[vr s_, vi 0, vr d_, vi 0, vi 2, vi 0, vi c0_] [(rr d_)] t
   refine XS.iloadN X0.here hx rfl (hb hby d5_27) rfl ?_
   show S_ p e below s₁ m 28 #[vr s_, vi 0, vr d_, vi 0, vi 2, vi 0, vi c0_] [(ii 0), (rr d_)] t
   refine XS.iload X0.here hx rfl (hb hby d5_28) rfl ?_
   show S_ p e below s₁ m 30 #[vr s_, vi 0, vr d_, vi 0, vi 2, vi 0, vi c0_] [(.int c0_), (ii 0), (rr d_)] t
   refine XS.i2b X0.here hx rfl (hb hby d5_30) rfl ?_
   exact k
  obtain ⟨T4, h4, X4, e4, W4, f7, o5, N6, c4⟩ := kstB X0 hx hZ e0 A1_ (j := (0 : Int32)) (by decide) (by decide) 0 rfl (Nat.le_of_ble_eq_true rfl) c3 rfl rfl (hb hby d5_31) O0 N0 G2_
  have f8 : Arv Z h4 d_ kd_ .byte (2 : Int32) [(.int (nar .byte (c0_.toInt8.toInt32))), (ii 0)] (ii 0) := f7
  have kp9 := kp0.wr W4 (Or.inl (List.mem_of_getElem? (i := 0) rfl))
  have c10 : Kt p e below T4 st0 (mkF m 20 #[vr s_, vi 1, vr d_, vi 1, vi 2, vi 1, vi c1_] [(ii 255), (.int c1_)]) := fun t k => by
   refine c4 t ?_
   show S_ p e below T4 m 32 #[vr s_, vi 0, vr d_, vi 0, vi 2, vi 0, vi c0_] [] t
   refine XS.iinc X4.here hx rfl (hb hby d5_32) rfl (l' := #[vr s_, vi 1, vr d_, vi 0, vi 2, vi 0, vi c0_]) rfl ?_
   show S_ p e below T4 m 35 #[vr s_, vi 1, vr d_, vi 0, vi 2, vi 0, vi c0_] [] t
   refine XS.iinc X4.here hx rfl (hb hby d5_35) rfl (l' := #[vr s_, vi 1, vr d_, vi 1, vi 2, vi 0, vi c0_]) rfl ?_
   show S_ p e below T4 m 38 #[vr s_, vi 1, vr d_, vi 1, vi 2, vi 0, vi c0_] [] t
   refine XS.iinc X4.here hx rfl (hb hby d5_38) rfl (l' := #[vr s_, vi 1, vr d_, vi 1, vi 2, vi 1, vi c0_]) rfl ?_
   show S_ p e below T4 m 41 #[vr s_, vi 1, vr d_, vi 1, vi 2, vi 1, vi c0_] [] t
   refine yG X4.here hx rfl 41 3 rfl (hb hby d5_41) ?_
   show S_ p e below T4 m 3 #[vr s_, vi 1, vr d_, vi 1, vi 2, vi 1, vi c0_] [] t
   refine XS.iload X4.here hx rfl (hb hby d5_3) rfl ?_
   show S_ p e below T4 m 5 #[vr s_, vi 1, vr d_, vi 1, vi 2, vi 1, vi c0_] [(ii 1)] t
   refine XS.iload X4.here hx rfl (hb hby d5_5) rfl ?_
   show S_ p e below T4 m 7 #[vr s_, vi 1, vr d_, vi 1, vi 2, vi 1, vi c0_] [(ii 2), (ii 1)] t
   refine XS.icmpNo X4.here hx rfl (hb hby d5_7) rfl rfl ?_
   show S_ p e below T4 m 10 #[vr s_, vi 1, vr d_, vi 1, vi 2, vi 1, vi c0_] [] t
   refine XS.aloadN X4.here hx rfl (hb hby d5_10) rfl rfl ?_
   show S_ p e below T4 m 11 #[vr s_, vi 1, vr d_, vi 1, vi 2, vi 1, vi c0_] [(rr s_)] t
   refine XS.iloadN X4.here hx rfl (hb hby d5_11) rfl ?_
   show S_ p e below T4 m 12 #[vr s_, vi 1, vr d_, vi 1, vi 2, vi 1, vi c0_] [(ii 1), (rr s_)] t
   refine ldC X4 hx hZ e4 (A0_.other W4 NE3_) (v := (.int c1_)) (by decide) (by decide) rfl rfl rfl (hb hby d5_12) ?_
   show S_ p e below T4 m 13 #[vr s_, vi 1, vr d_, vi 1, vi 2, vi 1, vi c0_] [(.int c1_)] t
   refine XS.istore X4.here hx rfl (hb hby d5_13) rfl (l' := #[vr s_, vi 1, vr d_, vi 1, vi 2, vi 1, vi c1_]) rfl ?_
   show S_ p e below T4 m 15 #[vr s_, vi 1, vr d_, vi 1, vi 2, vi 1, vi c1_] [] t
   refine XS.iload X4.here hx rfl (hb hby d5_15) rfl ?_
   show S_ p e below T4 m 17 #[vr s_, vi 1, vr d_, vi 1, vi 2, vi 1, vi c1_] [(.int c1_)] t
   refine XS.sipush X4.here hx rfl (hb hby d5_17) ?_
   exact k
  by_cases hc11 : (255 : Int32) < c1_
  ·obtain ⟨fs, hr, hrun, hended, hW, hsame⟩ := X4.leave (v := some (ii 1)) (fun h => by rw [Bd.returns] at h; cases h)
   refine ⟨_, _, c10 _ ?_, hrun, hended, _, _, rfl, ?_, ⟨_, rfl⟩, hW, hsame.mono (by decide) (by decide)⟩
   ·show S_ p e below T4 m 20 #[vr s_, vi 1, vr d_, vi 1, vi 2, vi 1, vi c1_] [(ii 255), (.int c1_)] _
    refine XS.icmpNo X4.here hx rfl (hb hby d5_20) rfl (tlt hc11).2.2.2 ?_
    show S_ p e below T4 m 23 #[vr s_, vi 1, vr d_, vi 1, vi 2, vi 1, vi c1_] [] _
    refine XS.iload X4.here hx rfl (hb hby d5_23) rfl ?_
    show S_ p e below T4 m 25 #[vr s_, vi 1, vr d_, vi 1, vi 2, vi 1, vi c1_] [(ii 1)] _
    exact retOut X4 hx Bd.returns rfl (Or.inl ⟨rfl, Or.inl rfl, _, rfl⟩) (hb hby d5_25) hr
   ·show Q_cmp5a_2 Z s_ ks_ d_ kd_ c0_ c1_ h0 n0 _ T4.heap _
    rw [e4]
    exact (Or.inr (Or.inr (⟨rfl, N6, kp9, hc11⟩)))
  ·have c12 : Kt p e below T4 st0 (mkF m 31 #[vr s_, vi 1, vr d_, vi 1, vi 2, vi 1, vi c1_] [(.int (c1_.toInt8.toInt32)), (ii 1), (rr d_)]) := fun t k => by
    refine c10 t ?_
    show S_ p e below T4 m 20 #[vr s_, vi 1, vr d_, vi 1, vi 2, vi 1, vi c1_] [(ii 255), (.int c1_)] t
    refine yC X4.here hx rfl 20 26 rfl (hb hby d5_20) rfl (flt hc11).2.2.2 ?_
    show S_ p e below T4 m 26 #[vr s_, vi 1, vr d_, vi 1, vi 2, vi 1, vi c1_] [] t
    refine XS.aloadN X4.here hx rfl (hb hby d5_26) rfl rfl ?_
    show S_ p e below T4 m 27 #[vr s_, vi 1, vr d_, vi 1, vi 2, vi 1, vi c1_] [(rr d_)] t
    refine XS.iloadN X4.here hx rfl (hb hby d5_27) rfl ?_
    show S_ p e below T4 m 28 #[vr s_, vi 1, vr d_, vi 1, vi 2, vi 1, vi c1_] [(ii 1), (rr d_)] t
    refine XS.iload X4.here hx rfl (hb hby d5_28) rfl ?_
    show S_ p e below T4 m 30 #[vr s_, vi 1, vr d_, vi 1, vi 2, vi 1, vi c1_] [(.int c1_), (ii 1), (rr d_)] t
    refine XS.i2b X4.here hx rfl (hb hby d5_30) rfl ?_
    exact k
   obtain ⟨T13, h13, X13, e13, W13, f16, o14, N15, c13⟩ := kstB X4 hx hZ e4 f8 (j := (1 : Int32)) (by decide) (by decide) 1 rfl (Nat.le_of_ble_eq_true rfl) c12 rfl rfl (hb hby d5_31) o5 N6 G2_
   have f17 : Arv Z h13 d_ kd_ .byte (2 : Int32) [(.int (nar .byte (c0_.toInt8.toInt32))), (.int (nar .byte (c1_.toInt8.toInt32)))] (ii 0) := f16
   have kp18 := kp9.wr W13 (Or.inl (List.mem_of_getElem? (i := 0) rfl))
   obtain ⟨fs, hr, hrun, hended, hW, hsame⟩ := X13.leave (v := some (ii 2)) (fun h => by rw [Bd.returns] at h; cases h)
   refine ⟨_, _, c13 _ ?_, hrun, hended, _, _, rfl, ?_, ⟨_, rfl⟩, hW, hsame.mono (by decide) (by decide)⟩
   ·show S_ p e below T13 m 32 #[vr s_, vi 1, vr d_, vi 1, vi 2, vi 1, vi c1_] [] _
    refine XS.iinc X13.here hx rfl (hb hby d5_32) rfl (l' := #[vr s_, vi 2, vr d_, vi 1, vi 2, vi 1, vi c1_]) rfl ?_
    show S_ p e below T13 m 35 #[vr s_, vi 2, vr d_, vi 1, vi 2, vi 1, vi c1_] [] _
    refine XS.iinc X13.here hx rfl (hb hby d5_35) rfl (l' := #[vr s_, vi 2, vr d_, vi 2, vi 2, vi 1, vi c1_]) rfl ?_
    show S_ p e below T13 m 38 #[vr s_, vi 2, vr d_, vi 2, vi 2, vi 1, vi c1_] [] _
    refine XS.iinc X13.here hx rfl (hb hby d5_38) rfl (l' := #[vr s_, vi 2, vr d_, vi 2, vi 2, vi 2, vi c1_]) rfl ?_
    show S_ p e below T13 m 41 #[vr s_, vi 2, vr d_, vi 2, vi 2, vi 2, vi c1_] [] _
    refine yG X13.here hx rfl 41 3 rfl (hb hby d5_41) ?_
    show S_ p e below T13 m 3 #[vr s_, vi 2, vr d_, vi 2, vi 2, vi 2, vi c1_] [] _
    refine XS.iload X13.here hx rfl (hb hby d5_3) rfl ?_
    show S_ p e below T13 m 5 #[vr s_, vi 2, vr d_, vi 2, vi 2, vi 2, vi c1_] [(ii 2)] _
    refine XS.iload X13.here hx rfl (hb hby d5_5) rfl ?_
    show S_ p e below T13 m 7 #[vr s_, vi 2, vr d_, vi 2, vi 2, vi 2, vi c1_] [(ii 2), (ii 2)] _
    refine yC X13.here hx rfl 7 44 rfl (hb hby d5_7) rfl rfl ?_
    show S_ p e below T13 m 44 #[vr s_, vi 2, vr d_, vi 2, vi 2, vi 2, vi c1_] [] _
    refine XS.iload X13.here hx rfl (hb hby d5_44) rfl ?_
    show S_ p e below T13 m 46 #[vr s_, vi 2, vr d_, vi 2, vi 2, vi 2, vi c1_] [(ii 2)] _
    exact retOut X13 hx Bd.returns rfl (Or.inl ⟨rfl, Or.inl rfl, _, rfl⟩) (hb hby d5_46) hr
   ·show Q_cmp5a_2 Z s_ ks_ d_ kd_ c0_ c1_ h0 n0 _ T13.heap _
    rw [e13]
    exact (Or.inl ⟨rfl, N15, kp18, f17, hc2, hc11⟩)
theorem ef_nbl_2 (m : MethodId) : entryFrame m #[(ii 2)] 1 = mkF m 0 #[vi 2] [] := by first | (simp [entryFrame, mkF, argsToLocals, Value.category]; done) | rfl
def Q_nbl_2 (Z : State) (h0 : Heap) (n0 : Nat) (v : Option Value) (h : Heap) (L : List Loc) : Prop := v = some (ii 4) ∧ Fr n0 L ∧ h = h0
set_option maxRecDepth 65536 in
set_option maxHeartbeats 40000000 in
theorem rm_nbl_2 (l : Launch) (Z : State) (a0 : Array Value) (hw : HW Z a0) (ws : List Jvm.Cond) (h0 : Heap) (n0 : Nat) (O0 : Old Z n0 h0) :
  MFP l Z (⟨nm1, "newBytesLength", "(I)I"⟩ : MethodName) jdk_52_method_3_code 1 (some .int) ({ frames := 0, cells := 0, slots := 0, locals := 0 } : Room) ws #[(ii 2)] h0 (Q_nbl_2 Z h0 n0) := by
 refine MetFree.of_bodySF (plainFor_of_name pn_java_lang_StringUTF16) hisR ?_
 intro p e s m args below meth c s₁ Bd hml0 hP hK
 obtain ⟨rfl, hZ, hh⟩ := hP
 have hx := Bd.exec
 have hby := Bd.bytes
 have hml : c.maxLocals = 1 := hml0
 have hown : s.vm.findClass nm1 = some m.cls := findClass_of_methodNamed Bd.named
 have hnm := (name_of_methodNamed Bd.named Bd.method).1
 have X0 : Stand p l e ({ frames := 0, cells := 0, slots := 0, locals := 0 } : Room) s m #[(ii 2)] below meth c s₁ [] 0 0 := Stand.of_body Bd
 have e0 : s₁.heap = h0 := by rw [← hh, Bd.state]; rfl
 have N0 := Fr.nil n0
 have kp0 : Keep h0 h0 [] := Keep.refl _ _
 have c0 : ∀ t, S_ p e below s₁ m 0 #[vi 2] [] t → Steps p.tables e below (s₁.setTop (entryFrame m #[(ii 2)] 1)) t := fun t k => castTop (ef_nbl_2 m) k
 generalize s₁.setTop (entryFrame m #[(ii 2)] 1) = st0 at c0 ⊢
 replace c0 : Kt p e below s₁ st0 (mkF m 0 #[vi 2] []) := c0
 obtain ⟨fs, hr, hrun, hended, hW, hsame⟩ := X0.leave (v := some (ii 4)) (fun h => by rw [Bd.returns] at h; cases h)
 refine ⟨_, _, c0 _ ?_, hrun, hended, _, _, rfl, ?_, ⟨_, rfl⟩, hW, hsame.mono (by decide) (by decide)⟩
 ·show S_ p e below s₁ m 0 #[vi 2] [] _
  refine XS.iloadN X0.here hx rfl (hb hby d6_0) rfl ?_
  show S_ p e below s₁ m 1 #[vi 2] [(ii 2)] _
  refine yI X0.here hx rfl 1 12 rfl (hb hby d6_1) rfl rfl ?_
  show S_ p e below s₁ m 12 #[vi 2] [] _
  refine XS.iloadN X0.here hx rfl (hb hby d6_12) rfl ?_
  show S_ p e below s₁ m 13 #[vi 2] [(ii 2)] _
  refine X0.ldcInt hx hown (mvT hZ (w80 hw)) (g := (mkF m 13 #[vi 2] [(ii 2)])) rfl (hb hby d6_13) _ ?_
  show S_ p e below s₁ m 15 #[vi 2] [(ii 1073741823), (ii 2)] _
  refine yC X0.here hx rfl 15 55 rfl (hb hby d6_15) rfl rfl ?_
  show S_ p e below s₁ m 55 #[vi 2] [] _
  refine XS.iloadN X0.here hx rfl (hb hby d6_55) rfl ?_
  show S_ p e below s₁ m 56 #[vi 2] [(ii 2)] _
  refine XS.iconst X0.here hx rfl (hb hby d6_56) ?_
  show S_ p e below s₁ m 57 #[vi 2] [(ii 1), (ii 2)] _
  refine XS.ishl X0.here hx rfl (hb hby d6_57) rfl ?_
  show S_ p e below s₁ m 58 #[vi 2] [(ii 4)] _
  exact retOut X0 hx Bd.returns rfl (Or.inl ⟨rfl, Or.inl rfl, _, rfl⟩) (hb hby d6_58) hr
 ·show Q_nbl_2 Z h0 n0 _ s₁.heap _
  rw [e0]
  exact ⟨rfl, N0, rfl⟩
theorem ef_nbf_2 (m : MethodId) : entryFrame m #[(ii 2)] 1 = mkF m 0 #[vi 2] [] := by first | (simp [entryFrame, mkF, argsToLocals, Value.category]; done) | rfl
def Q_nbf_2 (Z : State) (h0 : Heap) (n0 : Nat) (v : Option Value) (h : Heap) (L : List Loc) : Prop := ∃ (b_ : Addr), ∃ (kb_ : ClassId), v = some (rr b_) ∧ Fr n0 L ∧ Keep h0 h [] ∧ Arv Z h b_ kb_ .byte (4 : Int32) [(ii 0), (ii 0), (ii 0), (ii 0)] (ii 0) ∧ n0 ≤ b_ ∧ h0.size ≤ b_
set_option maxRecDepth 65536 in
set_option maxHeartbeats 40000000 in
theorem rm_nbf_2 (l : Launch) (Z : State) (a0 : Array Value) (hw : HW Z a0) (ws : List Jvm.Cond) (h0 : Heap) (n0 : Nat) (O0 : Old Z n0 h0) :
  MFP l Z (⟨nm1, "newBytesFor", "(I)[B"⟩ : MethodName) jdk_52_method_2_code 1 (some (.array .byte)) ({ frames := 1, cells := 1, slots := 4, locals := 12 } : Room) ws #[(ii 2)] h0 (Q_nbf_2 Z h0 n0) := by
 refine MetFree.of_bodySF (plainFor_of_name pn_java_lang_StringUTF16) hisR ?_
 intro p e s m args below meth c s₁ Bd hml0 hP hK
 obtain ⟨rfl, hZ, hh⟩ := hP
 have hx := Bd.exec
 have hby := Bd.bytes
 have hml : c.maxLocals = 1 := hml0
 have hown : s.vm.findClass nm1 = some m.cls := findClass_of_methodNamed Bd.named
 have hnm := (name_of_methodNamed Bd.named Bd.method).1
 have X0 : Stand p l e ({ frames := 1, cells := 1, slots := 4, locals := 12 } : Room) s m #[(ii 2)] below meth c s₁ [] 0 0 := Stand.of_body Bd
 have e0 : s₁.heap = h0 := by rw [← hh, Bd.state]; rfl
 have N0 := Fr.nil n0
 have kp0 : Keep h0 h0 [] := Keep.refl _ _
 have c0 : ∀ t, S_ p e below s₁ m 0 #[vi 2] [] t → Steps p.tables e below (s₁.setTop (entryFrame m #[(ii 2)] 1)) t := fun t k => castTop (ef_nbf_2 m) k
 generalize s₁.setTop (entryFrame m #[(ii 2)] 1) = st0 at c0 ⊢
 replace c0 : Kt p e below s₁ st0 (mkF m 0 #[vi 2] []) := c0
 have c1 : Kt p e below s₁ st0 (mkF m 1 #[vi 2] [(ii 2)]) := fun t k => by
  refine c0 t ?_
  show S_ p e below s₁ m 0 #[vi 2] [] t
  refine XS.iloadN X0.here hx rfl (hb hby d7_0) rfl ?_
  exact k
 obtain ⟨_, T2, L2, X2, hQ2, c2⟩ := kstat X0 hx hZ hown (w77 hw) (w78 hw) (w41 hw) (w79 hw) (rm_nbl_2 l Z a0 hw []  h0 n0 O0 ) e0 c1 hml pd_pIrI [(ii 2)] [] 0 (hb hby d7_1) rfl rfl rfl rfl rfl rfl
 obtain ⟨rfl, N3q, K4⟩ := hQ2
 have N3 := Fr.app N0 N3q
 obtain ⟨b5, T5, h5, k5, z5, g5, X5, e5, E5, o6, A5, c5⟩ := knewP (aty := .byte) X2 hx hZ (w17 hw) K4 c2 rfl (hb hby d7_4) rfl (by decide) 4 (by decide) (by decide) (by decide) (by decide) O0
 have kp8 := kp0.ext E5
 have z9 := Nat.le_trans kp0.1 z5
 have f7 : Arv Z h5 b5 k5 .byte (4 : Int32) [(ii 0), (ii 0), (ii 0), (ii 0)] (ii 0) := A5.pad (pad_rep [] (ii 0) 4)
 obtain ⟨fs, hr, hrun, hended, hW, hsame⟩ := X5.leave (v := some (rr b5)) (fun h => by rw [Bd.returns] at h; cases h)
 refine ⟨_, _, c5 _ ?_, hrun, hended, _, _, rfl, ?_, ⟨_, rfl⟩, hW, hsame.mono (by decide) (by decide)⟩
 ·show S_ p e below T5 m 6 #[vi 2] [(rr b5)] _
  exact retOut X5 hx Bd.returns rfl (Or.inr (Or.inr (Or.inr (Or.inr ⟨rfl, rfl, rfl⟩)))) (hb hby d7_6) hr
 ·show Q_nbf_2 Z h0 n0 _ T5.heap _
  rw [e5]
  exact ⟨b5, k5, rfl, N3, kp8, f7, g5, z9⟩
theorem ef_tob_2 (m : MethodId) (s_ : Addr) : entryFrame m #[(rr s_), (ii 0), (ii 2)] 5 = mkF m 0 #[vr s_, vi 0, vi 2, u_, u_] [] := by first | (simp [entryFrame, mkF, argsToLocals, Value.category]; done) | rfl
def Q_tob_2 (Z : State) (s_ : Addr) (ks_ : ClassId) (c0_ : Int32) (c1_ : Int32) (h0 : Heap) (n0 : Nat) (v : Option Value) (h : Heap) (L : List Loc) : Prop := ∃ (b_ : Addr), ∃ (kb_ : ClassId), v = some (rr b_) ∧ Fr n0 L ∧ Keep h0 h [] ∧ Arv Z h b_ kb_ .byte (4 : Int32) [(.int (nar .byte ((c0_ >>> ((0 : Int32) &&& 31)).toInt8.toInt32))), (.int (nar .byte ((c0_ >>> ((8 : Int32) &&& 31)).toInt8.toInt32))), (.int (nar .byte ((c1_ >>> ((0 : Int32) &&& 31)).toInt8.toInt32))), (.int (nar .byte ((c1_ >>> ((8 : Int32) &&& 31)).toInt8.toInt32)))] (ii 0) ∧ n0 ≤ b_ ∧ h0.size ≤ b_
set_option maxRecDepth 65536 in
set_option maxHeartbeats 40000000 in
theorem rm_tob_2 (l : Launch) (Z : State) (a0 : Array Value) (hw : HW Z a0) (ws : List Jvm.Cond) (s_ : Addr) (ks_ : ClassId) (c0_ : Int32) (c1_ : Int32) (h0 : Heap) (n0 : Nat) (O0 : Old Z n0 h0) (A0_ : Arv Z h0 s_ ks_ .char (2 : Int32) [(.int c0_), (.int c1_)] (ii 0)) (ZS1_ : Sta Z Z.heap nm1 "$assertionsDisabled" "Z" (ii 1)) (ZS2_ : Sta Z Z.heap nm1 "HI_BYTE_SHIFT" "I" (ii 0)) (ZS3_ : Sta Z Z.heap nm1 "LO_BYTE_SHIFT" "I" (ii 8)) :
  MFP l Z (⟨nm1, "toBytes", "([CII)[B"⟩ : MethodName) jdk_52_method_14_code 5 (some (.array .byte)) ({ frames := 2, cells := 1, slots := 4, locals := 24 } : Room) ws #[(rr s_), (ii 0), (ii 2)] h0 (Q_tob_2 Z s_ ks_ c0_ c1_ h0 n0) := by
 refine MetFree.of_bodySF (plainFor_of_name pn_java_lang_StringUTF16) hisR ?_
 intro p e s m args below meth c s₁ Bd hml0 hP hK
 obtain ⟨rfl, hZ, hh⟩ := hP
 have hx := Bd.exec
 have hby := Bd.bytes
 have hml : c.maxLocals = 5 := hml0
 have hown : s.vm.findClass nm1 = some m.cls := findClass_of_methodNamed Bd.named
 have hnm := (name_of_methodNamed Bd.named Bd.method).1
 have X0 : Stand p l e ({ frames := 2, cells := 1, slots := 4, locals := 24 } : Room) s m #[(rr s_), (ii 0), (ii 2)] below meth c s₁ [] 0 0 := Stand.of_body Bd
 have e0 : s₁.heap = h0 := by rw [← hh, Bd.state]; rfl
 have N0 := Fr.nil n0
 have kp0 : Keep h0 h0 [] := Keep.refl _ _
 have c0 : ∀ t, S_ p e below s₁ m 0 #[vr s_, vi 0, vi 2, u_, u_] [] t → Steps p.tables e below (s₁.setTop (entryFrame m #[(rr s_), (ii 0), (ii 2)] 5)) t := fun t k => castTop (ef_tob_2 m s_) k
 generalize s₁.setTop (entryFrame m #[(rr s_), (ii 0), (ii 2)] 5) = st0 at c0 ⊢
 replace c0 : Kt p e below s₁ st0 (mkF m 0 #[vr s_, vi 0, vi 2, u_, u_] []) := c0
 have c1 : Kt p e below s₁ st0 (mkF m 1 #[vr s_, vi 0, vi 2, u_, u_] [(ii 2)]) := fun t k => by
  refine c0 t ?_
  show S_ p e below s₁ m 0 #[vr s_, vi 0, vi 2, u_, u_] [] t
  refine XS.iloadN X0.here hx rfl (hb hby d8_0) rfl ?_
  exact k
 obtain ⟨_, T2, L2, X2, hQ2, c2⟩ := kstat X0 hx hZ hown (w74 hw) (w75 hw) (w41 hw) (w76 hw) (rm_nbf_2 l Z a0 hw []  h0 n0 O0 ) e0 c1 hml pd_pIrAB [(ii 2)] [] 0 (hb hby d8_1) rfl rfl rfl rfl rfl rfl
 obtain ⟨b3, k4, rfl, N5q, K6, p7, p8, p9⟩ := hQ2
 have N5 := Fr.app N0 N5q
 have o10 := O0.keep K6 all0
 have kp11 := kp0.trans K6 all0
 have z12 := Nat.le_trans kp0.1 p9
 have g13 := Nat.le_trans (Nat.le_trans (Nat.le_of_eq O0.1.symm) O0.2.1) p9
 have c14 : Kt p e below T2 st0 (mkF m 20 #[vr s_, vi 0, vi 2, vr b3, vi 0] [(.int c0_), (ii 0), (rr b3)]) := fun t k => by
  refine c2 t ?_
  show S_ p e below T2 m 4 #[vr s_, vi 0, vi 2, u_, u_] [(rr b3)] t
  refine XS.astoreN X2.here hx rfl (hb hby d8_4) rfl rfl (l' := #[vr s_, vi 0, vi 2, vr b3, u_]) rfl ?_
  show S_ p e below T2 m 5 #[vr s_, vi 0, vi 2, vr b3, u_] [] t
  refine XS.iconst X2.here hx rfl (hb hby d8_5) ?_
  show S_ p e below T2 m 6 #[vr s_, vi 0, vi 2, vr b3, u_] [(ii 0)] t
  refine XS.istore X2.here hx rfl (hb hby d8_6) rfl (l' := #[vr s_, vi 0, vi 2, vr b3, vi 0]) rfl ?_
  show S_ p e below T2 m 8 #[vr s_, vi 0, vi 2, vr b3, vi 0] [] t
  refine XS.iload X2.here hx rfl (hb hby d8_8) rfl ?_
  show S_ p e below T2 m 10 #[vr s_, vi 0, vi 2, vr b3, vi 0] [(ii 0)] t
  refine XS.iloadN X2.here hx rfl (hb hby d8_10) rfl ?_
  show S_ p e below T2 m 11 #[vr s_, vi 0, vi 2, vr b3, vi 0] [(ii 2), (ii 0)] t
  refine XS.icmpNo X2.here hx rfl (hb hby d8_11) rfl rfl ?_
  show S_ p e below T2 m 14 #[vr s_, vi 0, vi 2, vr b3, vi 0] [] t
  refine XS.aloadN X2.here hx rfl (hb hby d8_14) rfl rfl ?_
  show S_ p e below T2 m 15 #[vr s_, vi 0, vi 2, vr b3, vi 0] [(rr b3)] t
  refine XS.iload X2.here hx rfl (hb hby d8_15) rfl ?_
  show S_ p e below T2 m 17 #[vr s_, vi 0, vi 2, vr b3, vi 0] [(ii 0), (rr b3)] t
  refine XS.aloadN X2.here hx rfl (hb hby d8_17) rfl rfl ?_
  show S_ p e below T2 m 18 #[vr s_, vi 0, vi 2, vr b3, vi 0] [(rr s_), (ii 0), (rr b3)] t
  refine XS.iloadN X2.here hx rfl (hb hby d8_18) rfl ?_
  show S_ p e below T2 m 19 #[vr s_, vi 0, vi 2, vr b3, vi 0] [(ii 0), (rr s_), (ii 0), (rr b3)] t
  refine ldC X2 hx hZ rfl (A0_.keep K6 nin0) (v := (.int c0_)) (by decide) (by decide) rfl rfl rfl (hb hby d8_19) ?_
  exact k
 obtain ⟨_, T15, L15, X15, hQ15, c15⟩ := kstat X2 hx hZ hown (w81 hw) (w82 hw) (w41 hw) (w83 hw) (rm_putc l Z a0 hw [] b3 k4 (4 : Int32) [(ii 0), (ii 0), (ii 0), (ii 0)] (0 : Int32) c0_ T2.heap n0 o10 p7 g13 ZS1_ ZS2_ ZS3_ (by decide) (by decide) (by decide) (by decide) (Nat.le_of_ble_eq_true rfl) (Nat.le_of_ble_eq_true rfl)) rfl c14 hml pd_pABIIrV [(rr b3), (ii 0), (.int c0_)] [] 0 (hb hby d8_20) rfl rfl rfl rfl rfl rfl
 obtain ⟨rfl, N16q, K17, p18⟩ := hQ15
 have N16 := Fr.app N5 N16q
 have o19 := o10.keep K17 (allS g13 all0)
 have kp20 := kp11.trans K17 (allS (Or.inr z12) all0)
 have f21 : Arv Z T15.heap b3 k4 .byte (4 : Int32) [(.int (nar .byte ((c0_ >>> ((0 : Int32) &&& 31)).toInt8.toInt32))), (.int (nar .byte ((c0_ >>> ((8 : Int32) &&& 31)).toInt8.toInt32))), (ii 0), (ii 0)] (ii 0) := p18
 have q22 := Nat.ne_of_lt (Nat.lt_of_lt_of_le A0_.lt p9)
 have c23 : Kt p e below T15 st0 (mkF m 20 #[vr s_, vi 1, vi 2, vr b3, vi 1] [(.int c1_), (ii 1), (rr b3)]) := fun t k => by
  refine c15 t ?_
  show S_ p e below T15 m 23 #[vr s_, vi 0, vi 2, vr b3, vi 0] [] t
  refine XS.iinc X15.here hx rfl (hb hby d8_23) rfl (l' := #[vr s_, vi 1, vi 2, vr b3, vi 0]) rfl ?_
  show S_ p e below T15 m 26 #[vr s_, vi 1, vi 2, vr b3, vi 0] [] t
  refine XS.iinc X15.here hx rfl (hb hby d8_26) rfl (l' := #[vr s_, vi 1, vi 2, vr b3, vi 1]) rfl ?_
  show S_ p e below T15 m 29 #[vr s_, vi 1, vi 2, vr b3, vi 1] [] t
  refine yG X15.here hx rfl 29 8 rfl (hb hby d8_29) ?_
  show S_ p e below T15 m 8 #[vr s_, vi 1, vi 2, vr b3, vi 1] [] t
  refine XS.iload X15.here hx rfl (hb hby d8_8) rfl ?_
  show S_ p e below T15 m 10 #[vr s_, vi 1, vi 2, vr b3, vi 1] [(ii 1)] t
  refine XS.iloadN X15.here hx rfl (hb hby d8_10) rfl ?_
  show S_ p e below T15 m 11 #[vr s_, vi 1, vi 2, vr b3, vi 1] [(ii 2), (ii 1)] t
  refine XS.icmpNo X15.here hx rfl (hb hby d8_11) rfl rfl ?_
  show S_ p e below T15 m 14 #[vr s_, vi 1, vi 2, vr b3, vi 1] [] t
  refine XS.aloadN X15.here hx rfl (hb hby d8_14) rfl rfl ?_
  show S_ p e below T15 m 15 #[vr s_, vi 1, vi 2, vr b3, vi 1] [(rr b3)] t
  refine XS.iload X15.here hx rfl (hb hby d8_15) rfl ?_
  show S_ p e below T15 m 17 #[vr s_, vi 1, vi 2, vr b3, vi 1] [(ii 1), (rr b3)] t
  refine XS.aloadN X15.here hx rfl (hb hby d8_17) rfl rfl ?_
  show S_ p e below T15 m 18 #[vr s_, vi 1, vi 2, vr b3, vi 1] [(rr s_), (ii 1), (rr b3)] t
  refine XS.iloadN X15.here hx rfl (hb hby d8_18) rfl ?_
  show S_ p e below T15 m 19 #[vr s_, vi 1, vi 2, vr b3, vi 1] [(ii 1), (rr s_), (ii 1), (rr b3)] t
  refine ldC X15 hx hZ rfl ((A0_.keep K6 nin0).keep K17 (ninS q22 nin0)) (v := (.int c1_)) (by decide) (by decide) rfl rfl rfl (hb hby d8_19) ?_
  exact k
 obtain ⟨_, T24, L24, X24, hQ24, c24⟩ := kstat X15 hx hZ hown (w81 hw) (w82 hw) (w41 hw) (w83 hw) (rm_putc l Z a0 hw [] b3 k4 (4 : Int32) [(.int (nar .byte ((c0_ >>> ((0 : Int32) &&& 31)).toInt8.toInt32))), (.int (nar .byte ((c0_ >>> ((8 : Int32) &&& 31)).toInt8.toInt32))), (ii 0), (ii 0)] (1 : Int32) c1_ T15.heap n0 o19 f21 g13 ZS1_ ZS2_ ZS3_ (by decide) (by decide) (by decide) (by decide) (Nat.le_of_ble_eq_true rfl) (Nat.le_of_ble_eq_true rfl)) rfl c23 hml pd_pABIIrV [(rr b3), (ii 1), (.int c1_)] [] 0 (hb hby d8_20) rfl rfl rfl rfl rfl rfl
 obtain ⟨rfl, N25q, K26, p27⟩ := hQ24
 have N25 := Fr.app N16 N25q
 have o28 := o19.keep K26 (allS g13 all0)
 have kp29 := kp20.trans K26 (allS (Or.inr z12) all0)
 have f30 : Arv Z T24.heap b3 k4 .byte (4 : Int32) [(.int (nar .byte ((c0_ >>> ((0 : Int32) &&& 31)).toInt8.toInt32))), (.int (nar .byte ((c0_ >>> ((8 : Int32) &&& 31)).toInt8.toInt32))), (.int (nar .byte ((c1_ >>> ((0 : Int32) &&& 31)).toInt8.toInt32))), (.int (nar .byte ((c1_ >>> ((8 : Int32) &&& 31)).toInt8.toInt32)))] (ii 0) := p27
 obtain ⟨fs, hr, hrun, hended, hW, hsame⟩ := X24.leave (v := some (rr b3)) (fun h => by rw [Bd.returns] at h; cases h)
 refine ⟨_, _, c24 _ ?_, hrun, hended, _, _, rfl, ?_, ⟨_, rfl⟩, hW, hsame.mono (by decide) (by decide)⟩
 ·show S_ p e below T24 m 23 #[vr s_, vi 1, vi 2, vr b3, vi 1] [] _
  refine XS.iinc X24.here hx rfl (hb hby d8_23) rfl (l' := #[vr s_, vi 2, vi 2, vr b3, vi 1]) rfl ?_
  show S_ p e below T24 m 26 #[vr s_, vi 2, vi 2, vr b3, vi 1] [] _
  refine XS.iinc X24.here hx rfl (hb hby d8_26) rfl (l' := #[vr s_, vi 2, vi 2, vr b3, vi 2]) rfl ?_
  show S_ p e below T24 m 29 #[vr s_, vi 2, vi 2, vr b3, vi 2] [] _
  refine yG X24.here hx rfl 29 8 rfl (hb hby d8_29) ?_
  show S_ p e below T24 m 8 #[vr s_, vi 2, vi 2, vr b3, vi 2] [] _
  refine XS.iload X24.here hx rfl (hb hby d8_8) rfl ?_
  show S_ p e below T24 m 10 #[vr s_, vi 2, vi 2, vr b3, vi 2] [(ii 2)] _
  refine XS.iloadN X24.here hx rfl (hb hby d8_10) rfl ?_
  show S_ p e below T24 m 11 #[vr s_, vi 2, vi 2, vr b3, vi 2] [(ii 2), (ii 2)] _
  refine yC X24.here hx rfl 11 32 rfl (hb hby d8_11) rfl rfl ?_
  show S_ p e below T24 m 32 #[vr s_, vi 2, vi 2, vr b3, vi 2] [] _
  refine XS.aloadN X24.here hx rfl (hb hby d8_32) rfl rfl ?_
  show S_ p e below T24 m 33 #[vr s_, vi 2, vi 2, vr b3, vi 2] [(rr b3)] _
  exact retOut X24 hx Bd.returns rfl (Or.inr (Or.inr (Or.inr (Or.inr ⟨rfl, rfl, rfl⟩)))) (hb hby d8_33) hr
 ·show Q_tob_2 Z s_ ks_ c0_ c1_ h0 n0 _ T24.heap _
  exact ⟨b3, k4, rfl, N25, kp29, f30, g13, z12⟩
theorem ef_cmp3a_2 (m : MethodId) (s_ : Addr) : entryFrame m #[(rr s_), (ii 0), (ii 2)] 6 = mkF m 0 #[vr s_, vi 0, vi 2, u_, u_, u_] [] := by first | (simp [entryFrame, mkF, argsToLocals, Value.category]; done) | rfl
def Q_cmp3a_2 (Z : State) (s_ : Addr) (ks_ : ClassId) (c0_ : Int32) (c1_ : Int32) (h0 : Heap) (n0 : Nat) (v : Option Value) (h : Heap) (L : List Loc) : Prop := (∃ (b_ : Addr), ∃ (kb_ : ClassId), v = some (rr b_) ∧ Fr n0 L ∧ Keep h0 h [] ∧ Arv Z h b_ kb_ .byte (2 : Int32) [(.int (nar .byte (c0_.toInt8.toInt32))), (.int (nar .byte (c1_.toInt8.toInt32)))] (ii 0) ∧ n0 ≤ b_ ∧ h0.size ≤ b_ ∧ ¬ ((255 : Int32) < c0_) ∧ ¬ ((255 : Int32) < c1_)) ∨ (∃ (b_ : Addr), ∃ (kb_ : ClassId), v = some (rr b_) ∧ Fr n0 L ∧ Keep h0 h [] ∧ Arv Z h b_ kb_ .byte (4 : Int32) [(.int (nar .byte ((c0_ >>> ((0 : Int32) &&& 31)).toInt8.toInt32))), (.int (nar .byte ((c0_ >>> ((8 : Int32) &&& 31)).toInt8.toInt32))), (.int (nar .byte ((c1_ >>> ((0 : Int32) &&& 31)).toInt8.toInt32))), (.int (nar .byte ((c1_ >>> ((8 : Int32) &&& 31)).toInt8.toInt32)))] (ii 0) ∧ n0 ≤ b_ ∧ h0.size ≤ b_)
set_option maxRecDepth 65536 in
set_option maxHeartbeats 40000000 in
theorem rm_cmp3a_2 (l : Launch) (Z : State) (a0 : Array Value) (hw : HW Z a0) (ws : List Jvm.Cond) (s_ : Addr) (ks_ : ClassId) (c0_ : Int32) (c1_ : Int32) (h0 : Heap) (n0 : Nat) (O0 : Old Z n0 h0) (A0_ : Arv Z h0 s_ ks_ .char (2 : Int32) [(.int c0_), (.int c1_)] (ii 0)) (ZS1_ : Sta Z Z.heap nm1 "$assertionsDisabled" "Z" (ii 1)) (ZS2_ : Sta Z Z.heap nm1 "HI_BYTE_SHIFT" "I" (ii 0)) (ZS3_ : Sta Z Z.heap nm1 "LO_BYTE_SHIFT" "I" (ii 8)) (hc0_ : nar .char c0_ = c0_) (hc1_ : nar .char c1_ = c1_) :
  MFP l Z (⟨nm1, "compress", "([CII)[B"⟩ : MethodName) jdk_52_method_16_code 6 (some (.array .byte)) ({ frames := 3, cells := 2, slots := 6, locals := 40 } : Room) ws #[(rr s_), (ii 0), (ii 2)] h0 (Q_cmp3a_2 Z s_ ks_ c0_ c1_ h0 n0) := by
 refine MetFree.of_bodySF (plainFor_of_name pn_java_lang_StringUTF16) hisR ?_
 intro p e s m args below meth c s₁ Bd hml0 hP hK
 obtain ⟨rfl, hZ, hh⟩ := hP
 have hx := Bd.exec
 have hby := Bd.bytes
 have hml : c.maxLocals = 6 := hml0
 have hown : s.vm.findClass nm1 = some m.cls := findClass_of_methodNamed Bd.named
 have hnm := (name_of_methodNamed Bd.named Bd.method).1
 have X0 : Stand p l e ({ frames := 3, cells := 2, slots := 6, locals := 40 } : Room) s m #[(rr s_), (ii 0), (ii 2)] below meth c s₁ [] 0 0 := Stand.of_body Bd
 have e0 : s₁.heap = h0 := by rw [← hh, Bd.state]; rfl
 have N0 := Fr.nil n0
 have kp0 : Keep h0 h0 [] := Keep.refl _ _
 have c0 : ∀ t, S_ p e below s₁ m 0 #[vr s_, vi 0, vi 2, u_, u_, u_] [] t → Steps p.tables e below (s₁.setTop (entryFrame m #[(rr s_), (ii 0), (ii 2)] 6)) t := fun t k => castTop (ef_cmp3a_2 m s_) k
 generalize s₁.setTop (entryFrame m #[(rr s_), (ii 0), (ii 2)] 6) = st0 at c0 ⊢
 replace c0 : Kt p e below s₁ st0 (mkF m 0 #[vr s_, vi 0, vi 2, u_, u_, u_] []) := c0
 have c1 : Kt p e below s₁ st0 (mkF m 1 #[vr s_, vi 0, vi 2, u_, u_, u_] [(ii 2)]) := fun t k => by
  refine c0 t ?_
  show S_ p e below s₁ m 0 #[vr s_, vi 0, vi 2, u_, u_, u_] [] t
  refine XS.iloadN X0.here hx rfl (hb hby d9_0) rfl ?_
  exact k
 obtain ⟨b2, T2, h2, k2, z2, g2, X2, e2, E2, o3, A2, c2⟩ := knewP (aty := .byte) X0 hx hZ (w17 hw) e0 c1 rfl (hb hby d9_1) rfl (by decide) 2 (by decide) (by decide) (by decide) (by decide) O0
 have kp5 := kp0.ext E2
 have z6 := Nat.le_trans kp0.1 z2
 have f4 : Arv Z h2 b2 k2 .byte (2 : Int32) [(ii 0), (ii 0)] (ii 0) := A2.pad (pad_rep [] (ii 0) 2)
 have q7 := Nat.ne_of_lt (Nat.lt_of_lt_of_le A0_.lt z2)
 have c8 : Kt p e below T2 st0 (mkF m 9 #[vr s_, vi 0, vi 2, vr b2, u_, u_] [(ii 2), (ii 0), (rr b2), (ii 0), (rr s_)]) := fun t k => by
  refine c2 t ?_
  show S_ p e below T2 m 3 #[vr s_, vi 0, vi 2, u_, u_, u_] [(rr b2)] t
  refine XS.astoreN X2.here hx rfl (hb hby d9_3) rfl rfl (l' := #[vr s_, vi 0, vi 2, vr b2, u_, u_]) rfl ?_
  show S_ p e below T2 m 4 #[vr s_, vi 0, vi 2, vr b2, u_, u_] [] t
  refine XS.aloadN X2.here hx rfl (hb hby d9_4) rfl rfl ?_
  show S_ p e below T2 m 5 #[vr s_, vi 0, vi 2, vr b2, u_, u_] [(rr s_)] t
  refine XS.iloadN X2.here hx rfl (hb hby d9_5) rfl ?_
  show S_ p e below T2 m 6 #[vr s_, vi 0, vi 2, vr b2, u_, u_] [(ii 0), (rr s_)] t
  refine XS.aloadN X2.here hx rfl (hb hby d9_6) rfl rfl ?_
  show S_ p e below T2 m 7 #[vr s_, vi 0, vi 2, vr b2, u_, u_] [(rr b2), (ii 0), (rr s_)] t
  refine XS.iconst X2.here hx rfl (hb hby d9_7) ?_
  show S_ p e below T2 m 8 #[vr s_, vi 0, vi 2, vr b2, u_, u_] [(ii 0), (rr b2), (ii 0), (rr s_)] t
  refine XS.iloadN X2.here hx rfl (hb hby d9_8) rfl ?_
  exact k
 obtain ⟨_, T9, L9, X9, hQ9, c9⟩ := kstat X2 hx hZ hown (w43 hw) (w44 hw) (w41 hw) (w45 hw) (rm_cmp5a_2 l Z a0 hw [] s_ ks_ b2 k2 c0_ c1_ h2 n0 o3 (A0_.ext E2) f4 g2 q7) e2 c8 hml pd_pACIABIIrI [(rr s_), (ii 0), (rr b2), (ii 0), (ii 2)] [] 0 (hb hby d9_9) rfl rfl rfl rfl rfl rfl
 rcases hQ9 with hQ9 | hQ9 | hQ9
 ·obtain ⟨rfl, N10q, K11, p12, p13, p14⟩ := hQ9
  have N10 := Fr.app N0 N10q
  have o15 := o3.keep K11 (allS g2 all0)
  have kp16 := kp5.trans K11 (allS (Or.inr z6) all0)
  obtain ⟨fs, hr, hrun, hended, hW, hsame⟩ := X9.leave (v := some (rr b2)) (fun h => by rw [Bd.returns] at h; cases h)
  refine ⟨_, _, c9 _ ?_, hrun, hended, _, _, rfl, ?_, ⟨_, rfl⟩, hW, hsame.mono (by decide) (by decide)⟩
  ·show S_ p e below T9 m 12 #[vr s_, vi 0, vi 2, vr b2, u_, u_] [(ii 2)] _
   refine XS.istore X9.here hx rfl (hb hby d9_12) rfl (l' := #[vr s_, vi 0, vi 2, vr b2, vi 2, u_]) rfl ?_
   show S_ p e below T9 m 14 #[vr s_, vi 0, vi 2, vr b2, vi 2, u_] [] _
   refine XS.iload X9.here hx rfl (hb hby d9_14) rfl ?_
   show S_ p e below T9 m 16 #[vr s_, vi 0, vi 2, vr b2, vi 2, u_] [(ii 2)] _
   refine XS.iloadN X9.here hx rfl (hb hby d9_16) rfl ?_
   show S_ p e below T9 m 17 #[vr s_, vi 0, vi 2, vr b2, vi 2, u_] [(ii 2), (ii 2)] _
   refine yC X9.here hx rfl 17 57 rfl (hb hby d9_17) rfl rfl ?_
   show S_ p e below T9 m 57 #[vr s_, vi 0, vi 2, vr b2, vi 2, u_] [] _
   refine XS.aloadN X9.here hx rfl (hb hby d9_57) rfl rfl ?_
   show S_ p e below T9 m 58 #[vr s_, vi 0, vi 2, vr b2, vi 2, u_] [(rr b2)] _
   exact retOut X9 hx Bd.returns rfl (Or.inr (Or.inr (Or.inr (Or.inr ⟨rfl, rfl, rfl⟩)))) (hb hby d9_58) hr
  ·show Q_cmp3a_2 Z s_ ks_ c0_ c1_ h0 n0 _ T9.heap _
   exact (Or.inl ⟨b2, k2, rfl, N10, kp16, p12, g2, z6, p13, p14⟩)
 ·obtain ⟨rfl, N17q, K18, p19⟩ := hQ9
  have N17 := Fr.app N0 N17q
  have o20 := o3.keep K18 (allS g2 all0)
  have kp21 := kp5.trans K18 (allS (Or.inr z6) all0)
  have c22 : Kt p e below T9 st0 (mkF m 23 #[vr s_, vi 0, vi 2, vr b2, vi 0, u_] [(ii 2), (ii 0), (rr s_)]) := fun t k => by
   refine c9 t ?_
   show S_ p e below T9 m 12 #[vr s_, vi 0, vi 2, vr b2, u_, u_] [(ii 0)] t
   refine XS.istore X9.here hx rfl (hb hby d9_12) rfl (l' := #[vr s_, vi 0, vi 2, vr b2, vi 0, u_]) rfl ?_
   show S_ p e below T9 m 14 #[vr s_, vi 0, vi 2, vr b2, vi 0, u_] [] t
   refine XS.iload X9.here hx rfl (hb hby d9_14) rfl ?_
   show S_ p e below T9 m 16 #[vr s_, vi 0, vi 2, vr b2, vi 0, u_] [(ii 0)] t
   refine XS.iloadN X9.here hx rfl (hb hby d9_16) rfl ?_
   show S_ p e below T9 m 17 #[vr s_, vi 0, vi 2, vr b2, vi 0, u_] [(ii 2), (ii 0)] t
   refine XS.icmpNo X9.here hx rfl (hb hby d9_17) rfl rfl ?_
   show S_ p e below T9 m 20 #[vr s_, vi 0, vi 2, vr b2, vi 0, u_] [] t
   refine XS.aloadN X9.here hx rfl (hb hby d9_20) rfl rfl ?_
   show S_ p e below T9 m 21 #[vr s_, vi 0, vi 2, vr b2, vi 0, u_] [(rr s_)] t
   refine XS.iloadN X9.here hx rfl (hb hby d9_21) rfl ?_
   show S_ p e below T9 m 22 #[vr s_, vi 0, vi 2, vr b2, vi 0, u_] [(ii 0), (rr s_)] t
   refine XS.iloadN X9.here hx rfl (hb hby d9_22) rfl ?_
   exact k
  obtain ⟨_, T23, L23, X23, hQ23, c23⟩ := kstat X9 hx hZ hown (w71 hw) (w72 hw) (w41 hw) (w73 hw) (rm_tob_2 l Z a0 hw [] s_ ks_ c0_ c1_ T9.heap n0 o20 ((A0_.ext E2).keep K18 (ninS q7 nin0)) ZS1_ ZS2_ ZS3_) rfl c22 hml pd_pACIIrAB [(rr s_), (ii 0), (ii 2)] [] 0 (hb hby d9_23) rfl rfl rfl rfl rfl rfl
  obtain ⟨b24, k25, rfl, N26q, K27, p28, p29, p30⟩ := hQ23
  have N26 := Fr.app N17 N26q
  have o31 := o20.keep K27 all0
  have kp32 := kp21.trans K27 all0
  have z33 := Nat.le_trans kp21.1 p30
  have g34 := Nat.le_trans (Nat.le_trans (Nat.le_of_eq o20.1.symm) o20.2.1) p30
  have c35 : Kt p e below T23 st0 (mkF m 32 #[vr s_, vi 0, vi 2, vr b2, vi 0, vr b24] [(ii 0), (rr b24)]) := fun t k => by
   refine c23 t ?_
   show S_ p e below T23 m 26 #[vr s_, vi 0, vi 2, vr b2, vi 0, u_] [(rr b24)] t
   refine XS.astore X23.here hx rfl (hb hby d9_26) rfl rfl (l' := #[vr s_, vi 0, vi 2, vr b2, vi 0, vr b24]) rfl ?_
   show S_ p e below T23 m 28 #[vr s_, vi 0, vi 2, vr b2, vi 0, vr b24] [] t
   refine XS.aload X23.here hx rfl (hb hby d9_28) rfl rfl ?_
   show S_ p e below T23 m 30 #[vr s_, vi 0, vi 2, vr b2, vi 0, vr b24] [(rr b24)] t
   refine XS.iload X23.here hx rfl (hb hby d9_30) rfl ?_
   exact k
  obtain ⟨_, T36, L36, X36, hQ36, c36⟩ := kstat X23 hx hZ hown (w87 hw) (w88 hw) (w41 hw) (w89 hw) (rm_getc l Z a0 hw [] b24 k25 (4 : Int32) [(.int (nar .byte ((c0_ >>> ((0 : Int32) &&& 31)).toInt8.toInt32))), (.int (nar .byte ((c0_ >>> ((8 : Int32) &&& 31)).toInt8.toInt32))), (.int (nar .byte ((c1_ >>> ((0 : Int32) &&& 31)).toInt8.toInt32))), (.int (nar .byte ((c1_ >>> ((8 : Int32) &&& 31)).toInt8.toInt32)))] (0 : Int32) ((nar .byte ((c0_ >>> ((0 : Int32) &&& 31)).toInt8.toInt32))) ((nar .byte ((c0_ >>> ((8 : Int32) &&& 31)).toInt8.toInt32))) c0_ T23.heap n0 o31 p28 ZS1_ ZS2_ ZS3_ (by decide) (by decide) (by decide) (by decide) rfl rfl (own_get16 hc0_)) rfl c35 hml pd_pABIrC [(rr b24), (ii 0)] [] 0 (hb hby d9_32) rfl rfl rfl rfl rfl rfl
  obtain ⟨rfl, N37q, K38⟩ := hQ36
  have N37 := Fr.app N26 N37q
  obtain ⟨fs, hr, hrun, hended, hW, hsame⟩ := X36.leave (v := some (rr b24)) (fun h => by rw [Bd.returns] at h; cases h)
  refine ⟨_, _, c36 _ ?_, hrun, hended, _, _, rfl, ?_, ⟨_, rfl⟩, hW, hsame.mono (by decide) (by decide)⟩
  ·show S_ p e below T36 m 35 #[vr s_, vi 0, vi 2, vr b2, vi 0, vr b24] [(.int c0_)] _
   refine XS.sipush X36.here hx rfl (hb hby d9_35) ?_
   show S_ p e below T36 m 38 #[vr s_, vi 0, vi 2, vr b2, vi 0, vr b24] [(ii 255), (.int c0_)] _
   refine yC X36.here hx rfl 38 54 rfl (hb hby d9_38) rfl (tlt p19).2.2.1 ?_
   show S_ p e below T36 m 54 #[vr s_, vi 0, vi 2, vr b2, vi 0, vr b24] [] _
   refine XS.aload X36.here hx rfl (hb hby d9_54) rfl rfl ?_
   show S_ p e below T36 m 56 #[vr s_, vi 0, vi 2, vr b2, vi 0, vr b24] [(rr b24)] _
   exact retOut X36 hx Bd.returns rfl (Or.inr (Or.inr (Or.inr (Or.inr ⟨rfl, rfl, rfl⟩)))) (hb hby d9_56) hr
  ·show Q_cmp3a_2 Z s_ ks_ c0_ c1_ h0 n0 _ T36.heap _
   rw [K38]
   exact (Or.inr (⟨b24, k25, rfl, N37, kp32, p28, g34, z33⟩))
 ·obtain ⟨rfl, N39q, K40, p41⟩ := hQ9
  have N39 := Fr.app N0 N39q
  have o42 := o3.keep K40 (allS g2 all0)
  have kp43 := kp5.trans K40 (allS (Or.inr z6) all0)
  have c44 : Kt p e below T9 st0 (mkF m 23 #[vr s_, vi 0, vi 2, vr b2, vi 1, u_] [(ii 2), (ii 0), (rr s_)]) := fun t k => by
   refine c9 t ?_
   show S_ p e below T9 m 12 #[vr s_, vi 0, vi 2, vr b2, u_, u_] [(ii 1)] t
   refine XS.istore X9.here hx rfl (hb hby d9_12) rfl (l' := #[vr s_, vi 0, vi 2, vr b2, vi 1, u_]) rfl ?_
   show S_ p e below T9 m 14 #[vr s_, vi 0, vi 2, vr b2, vi 1, u_] [] t
   refine XS.iload X9.here hx rfl (hb hby d9_14) rfl ?_
   show S_ p e below T9 m 16 #[vr s_, vi 0, vi 2, vr b2, vi 1, u_] [(ii 1)] t
   refine XS.iloadN X9.here hx rfl (hb hby d9_16) rfl ?_
   show S_ p e below T9 m 17 #[vr s_, vi 0, vi 2, vr b2, vi 1, u_] [(ii 2), (ii 1)] t
   refine XS.icmpNo X9.here hx rfl (hb hby d9_17) rfl rfl ?_
   show S_ p e below T9 m 20 #[vr s_, vi 0, vi 2, vr b2, vi 1, u_] [] t
   refine XS.aloadN X9.here hx rfl (hb hby d9_20) rfl rfl ?_
   show S_ p e below T9 m 21 #[vr s_, vi 0, vi 2, vr b2, vi 1, u_] [(rr s_)] t
   refine XS.iloadN X9.here hx rfl (hb hby d9_21) rfl ?_
   show S_ p e below T9 m 22 #[vr s_, vi 0, vi 2, vr b2, vi 1, u_] [(ii 0), (rr s_)] t
   refine XS.iloadN X9.here hx rfl (hb hby d9_22) rfl ?_
   exact k
  obtain ⟨_, T45, L45, X45, hQ45, c45⟩ := kstat X9 hx hZ hown (w71 hw) (w72 hw) (w41 hw) (w73 hw) (rm_tob_2 l Z a0 hw [] s_ ks_ c0_ c1_ T9.heap n0 o42 ((A0_.ext E2).keep K40 (ninS q7 nin0)) ZS1_ ZS2_ ZS3_) rfl c44 hml pd_pACIIrAB [(rr s_), (ii 0), (ii 2)] [] 0 (hb hby d9_23) rfl rfl rfl rfl rfl rfl
  obtain ⟨b46, k47, rfl, N48q, K49, p50, p51, p52⟩ := hQ45
  have N48 := Fr.app N39 N48q
  have o53 := o42.keep K49 all0
  have kp54 := kp43.trans K49 all0
  have z55 := Nat.le_trans kp43.1 p52
  have g56 := Nat.le_trans (Nat.le_trans (Nat.le_of_eq o42.1.symm) o42.2.1) p52
  have c57 : Kt p e below T45 st0 (mkF m 32 #[vr s_, vi 0, vi 2, vr b2, vi 1, vr b46] [(ii 1), (rr b46)]) := fun t k => by
   refine c45 t ?_
   show S_ p e below T45 m 26 #[vr s_, vi 0, vi 2, vr b2, vi 1, u_] [(rr b46)] t
   refine XS.astore X45.here hx rfl (hb hby d9_26) rfl rfl (l' := #[vr s_, vi 0, vi 2, vr b2, vi 1, vr b46]) rfl ?_
   show S_ p e below T45 m 28 #[vr s_, vi 0, vi 2, vr b2, vi 1, vr b46] [] t
   refine XS.aload X45.here hx rfl (hb hby d9_28) rfl rfl ?_
   show S_ p e below T45 m 30 #[vr s_, vi 0, vi 2, vr b2, vi 1, vr b46] [(rr b46)] t
   refine XS.iload X45.here hx rfl (hb hby d9_30) rfl ?_
   exact k
  obtain ⟨_, T58, L58, X58, hQ58, c58⟩ := kstat X45 hx hZ hown (w87 hw) (w88 hw) (w41 hw) (w89 hw) (rm_getc l Z a0 hw [] b46 k47 (4 : Int32) [(.int (nar .byte ((c0_ >>> ((0 : Int32) &&& 31)).toInt8.toInt32))), (.int (nar .byte ((c0_ >>> ((8 : Int32) &&& 31)).toInt8.toInt32))), (.int (nar .byte ((c1_ >>> ((0 : Int32) &&& 31)).toInt8.toInt32))), (.int (nar .byte ((c1_ >>> ((8 : Int32) &&& 31)).toInt8.toInt32)))] (1 : Int32) ((nar .byte ((c1_ >>> ((0 : Int32) &&& 31)).toInt8.toInt32))) ((nar .byte ((c1_ >>> ((8 : Int32) &&& 31)).toInt8.toInt32))) c1_ T45.heap n0 o53 p50 ZS1_ ZS2_ ZS3_ (by decide) (by decide) (by decide) (by decide) rfl rfl (own_get16 hc1_)) rfl c57 hml pd_pABIrC [(rr b46), (ii 1)] [] 0 (hb hby d9_32) rfl rfl rfl rfl rfl rfl
  obtain ⟨rfl, N59q, K60⟩ := hQ58
  have N59 := Fr.app N48 N59q
  obtain ⟨fs, hr, hrun, hended, hW, hsame⟩ := X58.leave (v := some (rr b46)) (fun h => by rw [Bd.returns] at h; cases h)
  refine ⟨_, _, c58 _ ?_, hrun, hended, _, _, rfl, ?_, ⟨_, rfl⟩, hW, hsame.mono (by decide) (by decide)⟩
  ·show S_ p e below T58 m 35 #[vr s_, vi 0, vi 2, vr b2, vi 1, vr b46] [(.int c1_)] _
   refine XS.sipush X58.here hx rfl (hb hby d9_35) ?_
   show S_ p e below T58 m 38 #[vr s_, vi 0, vi 2, vr b2, vi 1, vr b46] [(ii 255), (.int c1_)] _
   refine yC X58.here hx rfl 38 54 rfl (hb hby d9_38) rfl (tlt p41).2.2.1 ?_
   show S_ p e below T58 m 54 #[vr s_, vi 0, vi 2, vr b2, vi 1, vr b46] [] _
   refine XS.aload X58.here hx rfl (hb hby d9_54) rfl rfl ?_
   show S_ p e below T58 m 56 #[vr s_, vi 0, vi 2, vr b2, vi 1, vr b46] [(rr b46)] _
   exact retOut X58 hx Bd.returns rfl (Or.inr (Or.inr (Or.inr (Or.inr ⟨rfl, rfl, rfl⟩)))) (hb hby d9_56) hr
  ·show Q_cmp3a_2 Z s_ ks_ c0_ c1_ h0 n0 _ T58.heap _
   rw [K60]
   exact (Or.inr (⟨b46, k47, rfl, N59, kp54, p50, g56, z55⟩))
theorem ef_codl_2 (m : MethodId) (s_ : Addr) : entryFrame m #[(rr s_), (ii 2)] 2 = mkF m 0 #[vr s_, vi 2] [] := by first | (simp [entryFrame, mkF, argsToLocals, Value.category]; done) | rfl
def Q_codl_2 (Z : State) (s_ : Addr) (ks_ : ClassId) (vs_ : List Value) (h0 : Heap) (n0 : Nat) (v : Option Value) (h : Heap) (L : List Loc) : Prop := v = some (ii 0) ∧ Fr n0 L ∧ h = h0
set_option maxRecDepth 65536 in
set_option maxHeartbeats 40000000 in
theorem rm_codl_2 (l : Launch) (Z : State) (a0 : Array Value) (hw : HW Z a0) (ws : List Jvm.Cond) (s_ : Addr) (ks_ : ClassId) (vs_ : List Value) (h0 : Heap) (n0 : Nat) (O0 : Old Z n0 h0) (A0_ : Arv Z h0 s_ ks_ .byte (2 : Int32) vs_ (ii 0)) :
  MFP l Z (⟨nm1, "coderFromArrayLen", "([BI)B"⟩ : MethodName) jdk_52_method_15_code 2 (some .byte) ({ frames := 0, cells := 0, slots := 0, locals := 0 } : Room) ws #[(rr s_), (ii 2)] h0 (Q_codl_2 Z s_ ks_ vs_ h0 n0) := by
 refine MetFree.of_bodySF (plainFor_of_name pn_java_lang_StringUTF16) hisR ?_
 intro p e s m args below meth c s₁ Bd hml0 hP hK
 obtain ⟨rfl, hZ, hh⟩ := hP
 have hx := Bd.exec
 have hby := Bd.bytes
 have hml : c.maxLocals = 2 := hml0
 have hown : s.vm.findClass nm1 = some m.cls := findClass_of_methodNamed Bd.named
 have hnm := (name_of_methodNamed Bd.named Bd.method).1
 have X0 : Stand p l e ({ frames := 0, cells := 0, slots := 0, locals := 0 } : Room) s m #[(rr s_), (ii 2)] below meth c s₁ [] 0 0 := Stand.of_body Bd
 have e0 : s₁.heap = h0 := by rw [← hh, Bd.state]; rfl
 have N0 := Fr.nil n0
 have kp0 : Keep h0 h0 [] := Keep.refl _ _
 have c0 : ∀ t, S_ p e below s₁ m 0 #[vr s_, vi 2] [] t → Steps p.tables e below (s₁.setTop (entryFrame m #[(rr s_), (ii 2)] 2)) t := fun t k => castTop (ef_codl_2 m s_) k
 generalize s₁.setTop (entryFrame m #[(rr s_), (ii 2)] 2) = st0 at c0 ⊢
 replace c0 : Kt p e below s₁ st0 (mkF m 0 #[vr s_, vi 2] []) := c0
 obtain ⟨fs, hr, hrun, hended, hW, hsame⟩ := X0.leave (v := some (ii 0)) (fun h => by rw [Bd.returns] at h; cases h)
 refine ⟨_, _, c0 _ ?_, hrun, hended, _, _, rfl, ?_, ⟨_, rfl⟩, hW, hsame.mono (by decide) (by decide)⟩
 ·show S_ p e below s₁ m 0 #[vr s_, vi 2] [] _
  refine XS.iloadN X0.here hx rfl (hb hby d10_0) rfl ?_
  show S_ p e below s₁ m 1 #[vr s_, vi 2] [(ii 2)] _
  refine XS.aloadN X0.here hx rfl (hb hby d10_1) rfl rfl ?_
  show S_ p e below s₁ m 2 #[vr s_, vi 2] [(rr s_), (ii 2)] _
  refine ldLen X0 hx hZ e0 A0_ rfl rfl (hb hby d10_2) ?_
  show S_ p e below s₁ m 3 #[vr s_, vi 2] [(ii 2), (ii 2)] _
  refine XS.isub X0.here hx rfl (hb hby d10_3) rfl ?_
  show S_ p e below s₁ m 4 #[vr s_, vi 2] [(ii 0)] _
  refine XS.bipush X0.here hx rfl (hb hby d10_4) ?_
  show S_ p e below s₁ m 6 #[vr s_, vi 2] [(ii 31), (ii 0)] _
  refine XS.iushr X0.here hx rfl (hb hby d10_6) rfl ?_
  show S_ p e below s₁ m 7 #[vr s_, vi 2] [(ii 0)] _
  refine XS.i2b X0.here hx rfl (hb hby d10_7) rfl ?_
  show S_ p e below s₁ m 8 #[vr s_, vi 2] [(ii 0)] _
  exact retN X0 hx (t := .byte) Bd.returns (by simp) (hb hby d10_8) hr
 ·show Q_codl_2 Z s_ ks_ vs_ h0 n0 _ s₁.heap _
  rw [e0]
  exact ⟨rfl, N0, rfl⟩
theorem ef_codu_2 (m : MethodId) (s_ : Addr) : entryFrame m #[(rr s_), (ii 2)] 2 = mkF m 0 #[vr s_, vi 2] [] := by first | (simp [entryFrame, mkF, argsToLocals, Value.category]; done) | rfl
def Q_codu_2 (Z : State) (s_ : Addr) (ks_ : ClassId) (vs_ : List Value) (h0 : Heap) (n0 : Nat) (v : Option Value) (h : Heap) (L : List Loc) : Prop := v = some (ii 1) ∧ Fr n0 L ∧ h = h0
set_option maxRecDepth 65536 in
set_option maxHeartbeats 40000000 in
theorem rm_codu_2 (l : Launch) (Z : State) (a0 : Array Value) (hw : HW Z a0) (ws : List Jvm.Cond) (s_ : Addr) (ks_ : ClassId) (vs_ : List Value) (h0 : Heap) (n0 : Nat) (O0 : Old Z n0 h0) (A0_ : Arv Z h0 s_ ks_ .byte (4 : Int32) vs_ (ii 0)) :
  MFP l Z (⟨nm1, "coderFromArrayLen", "([BI)B"⟩ : MethodName) jdk_52_method_15_code 2 (some .byte) ({ frames := 0, cells := 0, slots := 0, locals := 0 } : Room) ws #[(rr s_), (ii 2)] h0 (Q_codu_2 Z s_ ks_ vs_ h0 n0) := by
 refine MetFree.of_bodySF (plainFor_of_name pn_java_lang_StringUTF16) hisR ?_
 intro p e s m args below meth c s₁ Bd hml0 hP hK
 obtain ⟨rfl, hZ, hh⟩ := hP
 have hx := Bd.exec
 have hby := Bd.bytes
 have hml : c.maxLocals = 2 := hml0
 have hown : s.vm.findClass nm1 = some m.cls := findClass_of_methodNamed Bd.named
 have hnm := (name_of_methodNamed Bd.named Bd.method).1
 have X0 : Stand p l e ({ frames := 0, cells := 0, slots := 0, locals := 0 } : Room) s m #[(rr s_), (ii 2)] below meth c s₁ [] 0 0 := Stand.of_body Bd
 have e0 : s₁.heap = h0 := by rw [← hh, Bd.state]; rfl
 have N0 := Fr.nil n0
 have kp0 : Keep h0 h0 [] := Keep.refl _ _
 have c0 : ∀ t, S_ p e below s₁ m 0 #[vr s_, vi 2] [] t → Steps p.tables e below (s₁.setTop (entryFrame m #[(rr s_), (ii 2)] 2)) t := fun t k => castTop (ef_codu_2 m s_) k
 generalize s₁.setTop (entryFrame m #[(rr s_), (ii 2)] 2) = st0 at c0 ⊢
 replace c0 : Kt p e below s₁ st0 (mkF m 0 #[vr s_, vi 2] []) := c0
 obtain ⟨fs, hr, hrun, hended, hW, hsame⟩ := X0.leave (v := some (ii 1)) (fun h => by rw [Bd.returns] at h; cases h)
 refine ⟨_, _, c0 _ ?_, hrun, hended, _, _, rfl, ?_, ⟨_, rfl⟩, hW, hsame.mono (by decide) (by decide)⟩
 ·show S_ p e below s₁ m 0 #[vr s_, vi 2] [] _
  refine XS.iloadN X0.here hx rfl (hb hby d10_0) rfl ?_
  show S_ p e below s₁ m 1 #[vr s_, vi 2] [(ii 2)] _
  refine XS.aloadN X0.here hx rfl (hb hby d10_1) rfl rfl ?_
  show S_ p e below s₁ m 2 #[vr s_, vi 2] [(rr s_), (ii 2)] _
  refine ldLen X0 hx hZ e0 A0_ rfl rfl (hb hby d10_2) ?_
  show S_ p e below s₁ m 3 #[vr s_, vi 2] [(ii 4), (ii 2)] _
  refine XS.isub X0.here hx rfl (hb hby d10_3) rfl ?_
  show S_ p e below s₁ m 4 #[vr s_, vi 2] [(ii (-2))] _
  refine XS.bipush X0.here hx rfl (hb hby d10_4) ?_
  show S_ p e below s₁ m 6 #[vr s_, vi 2] [(ii 31), (ii (-2))] _
  refine XS.iushr X0.here hx rfl (hb hby d10_6) rfl ?_
  show S_ p e below s₁ m 7 #[vr s_, vi 2] [(ii 1)] _
  refine XS.i2b X0.here hx rfl (hb hby d10_7) rfl ?_
  show S_ p e below s₁ m 8 #[vr s_, vi 2] [(ii 1)] _
  exact retN X0 hx (t := .byte) Bd.returns (by simp) (hb hby d10_8) hr
 ·show Q_codu_2 Z s_ ks_ vs_ h0 n0 _ s₁.heap _
  rw [e0]
  exact ⟨rfl, N0, rfl⟩
theorem ef_str4a_2 (m : MethodId) (x_ : Addr) (s_ : Addr) : entryFrame m #[(rr x_), (rr s_), (ii 0), (ii 2), .null] 6 = mkF m 0 #[vr x_, vr s_, vi 0, vi 2, .val .null, u_] [] := by first | (simp [entryFrame, mkF, argsToLocals, Value.category]; done) | rfl
def Q_str4a_2 (Z : State) (x_ : Addr) (s_ : Addr) (ks_ : ClassId) (z_ : Int32) (c0_ : Int32) (c1_ : Int32) (h0 : Heap) (n0 : Nat) (v : Option Value) (h : Heap) (L : List Loc) : Prop := (v = none ∧ Fr n0 L ∧ Keep h0 h [x_] ∧ Exa Z h x_ nm0 ∧ Fld Z h x_ nm0 "coder" "B" (ii 0) ∧ ∃ (b_ : Addr), ∃ (kb_ : ClassId), Fld Z h x_ nm0 "value" "[B" (rr b_) ∧ Arv Z h b_ kb_ .byte (2 : Int32) [(.int (nar .byte (c0_.toInt8.toInt32))), (.int (nar .byte (c1_.toInt8.toInt32)))] (ii 0) ∧ n0 ≤ b_ ∧ h0.size ≤ b_ ∧ ¬ ((255 : Int32) < c0_) ∧ ¬ ((255 : Int32) < c1_)) ∨ (v = none ∧ Fr n0 L ∧ Keep h0 h [x_] ∧ Exa Z h x_ nm0 ∧ Fld Z h x_ nm0 "coder" "B" (ii 1) ∧ ∃ (b_ : Addr), ∃ (kb_ : ClassId), Fld Z h x_ nm0 "value" "[B" (rr b_) ∧ Arv Z h b_ kb_ .byte (4 : Int32) [(.int (nar .byte ((c0_ >>> ((0 : Int32) &&& 31)).toInt8.toInt32))), (.int (nar .byte ((c0_ >>> ((8 : Int32) &&& 31)).toInt8.toInt32))), (.int (nar .byte ((c1_ >>> ((0 : Int32) &&& 31)).toInt8.toInt32))), (.int (nar .byte ((c1_ >>> ((8 : Int32) &&& 31)).toInt8.toInt32)))] (ii 0) ∧ n0 ≤ b_ ∧ h0.size ≤ b_)
set_option maxRecDepth 65536 in
set_option maxHeartbeats 40000000 in
theorem rm_str4a_2 (l : Launch) (Z : State) (a0 : Array Value) (hw : HW Z a0) (ws : List Jvm.Cond) (x_ : Addr) (s_ : Addr) (ks_ : ClassId) (z_ : Int32) (c0_ : Int32) (c1_ : Int32) (h0 : Heap) (n0 : Nat) (O0 : Old Z n0 h0) (E0_ : Exa Z h0 x_ nm0) (F1_ : Fld Z h0 x_ nm0 "value" "[B" .null) (F2_ : Fld Z h0 x_ nm0 "coder" "B" (ii 0)) (G3_ : n0 ≤ x_) (A4_ : Arv Z h0 s_ ks_ .char (2 : Int32) [(.int c0_), (.int c1_)] (ii 0)) (ZS5_ : Sta Z Z.heap nm0 "COMPACT_STRINGS" "Z" (.int z_)) (hz_ : ¬ (z_ = (0 : Int32))) (ZS7_ : Sta Z Z.heap nm1 "$assertionsDisabled" "Z" (ii 1)) (ZS8_ : Sta Z Z.heap nm1 "HI_BYTE_SHIFT" "I" (ii 0)) (ZS9_ : Sta Z Z.heap nm1 "LO_BYTE_SHIFT" "I" (ii 8)) (hc0_ : nar .char c0_ = c0_) (hc1_ : nar .char c1_ = c1_) :
  MFP l Z (⟨nm0, "<init>", "([CIILjava/lang/Void;)V"⟩ : MethodName) jdk_42_method_149_code 6 none ({ frames := 4, cells := 2, slots := 6, locals := 57 } : Room) ws #[(rr x_), (rr s_), (ii 0), (ii 2), .null] h0 (Q_str4a_2 Z x_ s_ ks_ z_ c0_ c1_ h0 n0) := by
 refine MetFree.of_bodySF (plainFor_of_name pn_java_lang_String) hisR ?_
 intro p e s m args below meth c s₁ Bd hml0 hP hK
 obtain ⟨rfl, hZ, hh⟩ := hP
 have hx := Bd.exec
 have hby := Bd.bytes
 have hml : c.maxLocals = 6 := hml0
 have hown : s.vm.findClass nm0 = some m.cls := findClass_of_methodNamed Bd.named
 have hnm := (name_of_methodNamed Bd.named Bd.method).1
 have X0 : Stand p l e ({ frames := 4, cells := 2, slots := 6, locals := 57 } : Room) s m #[(rr x_), (rr s_), (ii 0), (ii 2), .null] below meth c s₁ [] 0 0 := Stand.of_body Bd
 have e0 : s₁.heap = h0 := by rw [← hh, Bd.state]; rfl
 have N0 := Fr.nil n0
 have kp0 : Keep h0 h0 [x_] := Keep.refl _ _
 have c0 : ∀ t, S_ p e below s₁ m 0 #[vr x_, vr s_, vi 0, vi 2, .val .null, u_] [] t → Steps p.tables e below (s₁.setTop (entryFrame m #[(rr x_), (rr s_), (ii 0), (ii 2), .null] 6)) t := fun t k => castTop (ef_str4a_2 m x_ s_) k
 generalize s₁.setTop (entryFrame m #[(rr x_), (rr s_), (ii 0), (ii 2), .null] 6) = st0 at c0 ⊢
 replace c0 : Kt p e below s₁ st0 (mkF m 0 #[vr x_, vr s_, vi 0, vi 2, .val .null, u_] []) := c0
 have c1 : Kt p e below s₁ st0 (mkF m 1 #[vr x_, vr s_, vi 0, vi 2, .val .null, u_] [(rr x_)]) := fun t k => by
  refine c0 t ?_
  show S_ p e below s₁ m 0 #[vr x_, vr s_, vi 0, vi 2, .val .null, u_] [] t
  refine XS.aloadN X0.here hx rfl (hb hby d11_0) rfl rfl ?_
  exact k
 obtain ⟨T2, X2, e2, c2⟩ := kinit X0 hx hZ hown (w13 hw) (w14 hw) (w15 hw) e0 c1 rfl hml rfl rfl (hb hby d11_1) 0 (own_w rfl) (by decide) (by decide)
 have c3 : Kt p e below T2 st0 (mkF m 27 #[vr x_, vr s_, vi 0, vi 2, .val .null, u_] []) := fun t k => by
  refine c2 t ?_
  show S_ p e below T2 m 4 #[vr x_, vr s_, vi 0, vi 2, .val .null, u_] [] t
  refine XS.iloadN X2.here hx rfl (hb hby d11_4) rfl ?_
  show S_ p e below T2 m 5 #[vr x_, vr s_, vi 0, vi 2, .val .null, u_] [(ii 2)] t
  refine yI X2.here hx rfl 5 27 rfl (hb hby d11_5) rfl rfl ?_
  exact k
 obtain ⟨T4, X4, e4, c4⟩ := kgetS X2 hx hZ hown (host := "") (Or.inl (w38 hw)) Via.refl e2 (ZS5_.ext O0.2) c3 rfl (hb hby d11_27)
 have c5 : Kt p e below T4 st0 (mkF m 36 #[vr x_, vr s_, vi 0, vi 2, .val .null, u_] [(ii 2), (ii 0), (rr s_)]) := fun t k => by
  refine c4 t ?_
  show S_ p e below T4 m 30 #[vr x_, vr s_, vi 0, vi 2, .val .null, u_] [(.int z_)] t
  refine XS.ifNo X4.here hx rfl (hb hby d11_30) rfl ((if0 _ _).trans (feq hz_).1) ?_
  show S_ p e below T4 m 33 #[vr x_, vr s_, vi 0, vi 2, .val .null, u_] [] t
  refine XS.aloadN X4.here hx rfl (hb hby d11_33) rfl rfl ?_
  show S_ p e below T4 m 34 #[vr x_, vr s_, vi 0, vi 2, .val .null, u_] [(rr s_)] t
  refine XS.iloadN X4.here hx rfl (hb hby d11_34) rfl ?_
  show S_ p e below T4 m 35 #[vr x_, vr s_, vi 0, vi 2, .val .null, u_] [(ii 0), (rr s_)] t
  refine XS.iloadN X4.here hx rfl (hb hby d11_35) rfl ?_
  exact k
 obtain ⟨_, T6, L6, X6, hQ6, c6⟩ := kstat X4 hx hZ hown (w39 hw) (w40 hw) (w41 hw) (w42 hw) (rm_cmp3a_2 l Z a0 hw [] s_ ks_ c0_ c1_ h0 n0 O0 A4_ ZS7_ ZS8_ ZS9_ hc0_ hc1_) e4 c5 hml pd_pACIIrAB [(rr s_), (ii 0), (ii 2)] [] 0 (hb hby d11_36) rfl rfl rfl rfl rfl rfl
 rcases hQ6 with hQ6 | hQ6
 ·obtain ⟨b7, k8, rfl, N9q, K10, p11, p12, p13, p14, p15⟩ := hQ6
  have N9 := Fr.app N0 N9q
  have o16 := O0.keep K10 all0
  have kp17 := kp0.trans K10 all0
  have z18 := Nat.le_trans kp0.1 p13
  have g19 := Nat.le_trans (Nat.le_trans (Nat.le_of_eq O0.1.symm) O0.2.1) p13
  have c20 : Kt p e below T6 st0 (mkF m 45 #[vr x_, vr s_, vi 0, vi 2, .val .null, vr b7] [(ii 2), (rr b7), (rr x_)]) := fun t k => by
   refine c6 t ?_
   show S_ p e below T6 m 39 #[vr x_, vr s_, vi 0, vi 2, .val .null, u_] [(rr b7)] t
   refine XS.astore X6.here hx rfl (hb hby d11_39) rfl rfl (l' := #[vr x_, vr s_, vi 0, vi 2, .val .null, vr b7]) rfl ?_
   show S_ p e below T6 m 41 #[vr x_, vr s_, vi 0, vi 2, .val .null, vr b7] [] t
   refine XS.aloadN X6.here hx rfl (hb hby d11_41) rfl rfl ?_
   show S_ p e below T6 m 42 #[vr x_, vr s_, vi 0, vi 2, .val .null, vr b7] [(rr x_)] t
   refine XS.aload X6.here hx rfl (hb hby d11_42) rfl rfl ?_
   show S_ p e below T6 m 44 #[vr x_, vr s_, vi 0, vi 2, .val .null, vr b7] [(rr b7), (rr x_)] t
   refine XS.iloadN X6.here hx rfl (hb hby d11_44) rfl ?_
   exact k
  obtain ⟨_, T21, L21, X21, hQ21, c21⟩ := kstat X6 hx hZ hown (w46 hw) (w47 hw) (w41 hw) (w48 hw) (rm_codl_2 l Z a0 hw [] b7 k8 [(.int (nar .byte (c0_.toInt8.toInt32))), (.int (nar .byte (c1_.toInt8.toInt32)))] T6.heap n0 o16 p11) rfl c20 hml pd_pABIrB [(rr b7), (ii 2)] [(rr x_)] 1 (hb hby d11_45) rfl rfl rfl rfl rfl rfl
  obtain ⟨rfl, N22q, K23⟩ := hQ21
  have N22 := Fr.app N9 N22q
  obtain ⟨T24, h24, X24, e24, W24, f25, o27, N26, c24⟩ := kput X21 hx hZ .byte hown (host := "") (Or.inl (w23 hw)) Via.refl K23 (F2_.keep K10 nin0) (E0_.keep K10) (Or.inr ⟨(w19 hw), rfl, hnm⟩) (w4 hw) c21 rfl rfl (hb hby d11_48) (by decide) rfl rfl o16 N22 G3_
  have kp28 := kp17.wr W24 (Or.inl (List.mem_of_getElem? (i := 0) rfl))
  have f29 := (F1_.keep K10 nin0).other W24 (Or.inr (slot_ne (Or.inr (w18 hw)) (Or.inr (w19 hw)) (by decide) (t := (.array .byte)) (t' := .byte) (by decide) (by decide)))
  have c30 : Kt p e below T24 st0 (mkF m 54 #[vr x_, vr s_, vi 0, vi 2, .val .null, vr b7] [(rr b7), (rr x_)]) := fun t k => by
   refine c24 t ?_
   show S_ p e below T24 m 51 #[vr x_, vr s_, vi 0, vi 2, .val .null, vr b7] [] t
   refine XS.aloadN X24.here hx rfl (hb hby d11_51) rfl rfl ?_
   show S_ p e below T24 m 52 #[vr x_, vr s_, vi 0, vi 2, .val .null, vr b7] [(rr x_)] t
   refine XS.aload X24.here hx rfl (hb hby d11_52) rfl rfl ?_
   exact k
  obtain ⟨T31, h31, X31, e31, W31, f32, o34, N33, c31⟩ := kput X24 hx hZ (.array .byte) hown (host := "") (Or.inl (w22 hw)) Via.refl e24 f29 ((E0_.keep K10).wr W24) (Or.inr ⟨(w18 hw), rfl, hnm⟩) (w4 hw) c30 rfl rfl (hb hby d11_54) (by decide) rfl rfl o27 N26 G3_
  have kp35 := kp28.wr W31 (Or.inl (List.mem_of_getElem? (i := 0) rfl))
  have f36 := f25.other W31 (Or.inr (slot_ne (Or.inr (w19 hw)) (Or.inr (w18 hw)) (by decide) (t := .byte) (t' := (.array .byte)) (by decide) (by decide)))
  have q37 := Ne.symm (Nat.ne_of_lt (Nat.lt_of_lt_of_le E0_.lt p13))
  obtain ⟨fs, hr, hrun, hended, hW, hsame⟩ := X31.leave (v := none) (fun _ => rfl)
  refine ⟨_, _, c31 _ ?_, hrun, hended, _, _, rfl, ?_, ⟨_, rfl⟩, hW, hsame.mono (by decide) (by decide)⟩
  ·show S_ p e below T31 m 57 #[vr x_, vr s_, vi 0, vi 2, .val .null, vr b7] [] _
   exact X31.returnOut hx Bd.returns (hb hby d11_57) hr
  ·show Q_str4a_2 Z x_ s_ ks_ z_ c0_ c1_ h0 n0 _ T31.heap _
   rw [e31]
   exact (Or.inl ⟨rfl, N33, kp35, (((E0_.keep K10).wr W24).wr W31), f36, b7, k8, f32, ((p11.other W24 q37).other W31 q37), g19, z18, p14, p15⟩)
 ·obtain ⟨b38, k39, rfl, N40q, K41, p42, p43, p44⟩ := hQ6
  have N40 := Fr.app N0 N40q
  have o45 := O0.keep K41 all0
  have kp46 := kp0.trans K41 all0
  have z47 := Nat.le_trans kp0.1 p44
  have g48 := Nat.le_trans (Nat.le_trans (Nat.le_of_eq O0.1.symm) O0.2.1) p44
  have c49 : Kt p e below T6 st0 (mkF m 45 #[vr x_, vr s_, vi 0, vi 2, .val .null, vr b38] [(ii 2), (rr b38), (rr x_)]) := fun t k => by
   refine c6 t ?_
   show S_ p e below T6 m 39 #[vr x_, vr s_, vi 0, vi 2, .val .null, u_] [(rr b38)] t
   refine XS.astore X6.here hx rfl (hb hby d11_39) rfl rfl (l' := #[vr x_, vr s_, vi 0, vi 2, .val .null, vr b38]) rfl ?_
   show S_ p e below T6 m 41 #[vr x_, vr s_, vi 0, vi 2, .val .null, vr b38] [] t
   refine XS.aloadN X6.here hx rfl (hb hby d11_41) rfl rfl ?_
   show S_ p e below T6 m 42 #[vr x_, vr s_, vi 0, vi 2, .val .null, vr b38] [(rr x_)] t
   refine XS.aload X6.here hx rfl (hb hby d11_42) rfl rfl ?_
   show S_ p e below T6 m 44 #[vr x_, vr s_, vi 0, vi 2, .val .null, vr b38] [(rr b38), (rr x_)] t
   refine XS.iloadN X6.here hx rfl (hb hby d11_44) rfl ?_
   exact k
  obtain ⟨_, T50, L50, X50, hQ50, c50⟩ := kstat X6 hx hZ hown (w46 hw) (w47 hw) (w41 hw) (w48 hw) (rm_codu_2 l Z a0 hw [] b38 k39 [(.int (nar .byte ((c0_ >>> ((0 : Int32) &&& 31)).toInt8.toInt32))), (.int (nar .byte ((c0_ >>> ((8 : Int32) &&& 31)).toInt8.toInt32))), (.int (nar .byte ((c1_ >>> ((0 : Int32) &&& 31)).toInt8.toInt32))), (.int (nar .byte ((c1_ >>> ((8 : Int32) &&& 31)).toInt8.toInt32)))] T6.heap n0 o45 p42) rfl c49 hml pd_pABIrB [(rr b38), (ii 2)] [(rr x_)] 1 (hb hby d11_45) rfl rfl rfl rfl rfl rfl
  obtain ⟨rfl, N51q, K52⟩ := hQ50
  have N51 := Fr.app N40 N51q
  obtain ⟨T53, h53, X53, e53, W53, f54, o56, N55, c53⟩ := kput X50 hx hZ .byte hown (host := "") (Or.inl (w23 hw)) Via.refl K52 (F2_.keep K41 nin0) (E0_.keep K41) (Or.inr ⟨(w19 hw), rfl, hnm⟩) (w4 hw) c50 rfl rfl (hb hby d11_48) (by decide) rfl rfl o45 N51 G3_
  have kp57 := kp46.wr W53 (Or.inl (List.mem_of_getElem? (i := 0) rfl))
  have f58 := (F1_.keep K41 nin0).other W53 (Or.inr (slot_ne (Or.inr (w18 hw)) (Or.inr (w19 hw)) (by decide) (t := (.array .byte)) (t' := .byte) (by decide) (by decide)))
  have c59 : Kt p e below T53 st0 (mkF m 54 #[vr x_, vr s_, vi 0, vi 2, .val .null, vr b38] [(rr b38), (rr x_)]) := fun t k => by
   refine c53 t ?_
   show S_ p e below T53 m 51 #[vr x_, vr s_, vi 0, vi 2, .val .null, vr b38] [] t
   refine XS.aloadN X53.here hx rfl (hb hby d11_51) rfl rfl ?_
   show S_ p e below T53 m 52 #[vr x_, vr s_, vi 0, vi 2, .val .null, vr b38] [(rr x_)] t
   refine XS.aload X53.here hx rfl (hb hby d11_52) rfl rfl ?_
   exact k
  obtain ⟨T60, h60, X60, e60, W60, f61, o63, N62, c60⟩ := kput X53 hx hZ (.array .byte) hown (host := "") (Or.inl (w22 hw)) Via.refl e53 f58 ((E0_.keep K41).wr W53) (Or.inr ⟨(w18 hw), rfl, hnm⟩) (w4 hw) c59 rfl rfl (hb hby d11_54) (by decide) rfl rfl o56 N55 G3_
  have kp64 := kp57.wr W60 (Or.inl (List.mem_of_getElem? (i := 0) rfl))
  have f65 := f54.other W60 (Or.inr (slot_ne (Or.inr (w19 hw)) (Or.inr (w18 hw)) (by decide) (t := .byte) (t' := (.array .byte)) (by decide) (by decide)))
  have q66 := Ne.symm (Nat.ne_of_lt (Nat.lt_of_lt_of_le E0_.lt p44))
  obtain ⟨fs, hr, hrun, hended, hW, hsame⟩ := X60.leave (v := none) (fun _ => rfl)
  refine ⟨_, _, c60 _ ?_, hrun, hended, _, _, rfl, ?_, ⟨_, rfl⟩, hW, hsame.mono (by decide) (by decide)⟩
  ·show S_ p e below T60 m 57 #[vr x_, vr s_, vi 0, vi 2, .val .null, vr b38] [] _
   exact X60.returnOut hx Bd.returns (hb hby d11_57) hr
  ·show Q_str4a_2 Z x_ s_ ks_ z_ c0_ c1_ h0 n0 _ T60.heap _
   rw [e60]
   exact (Or.inr (⟨rfl, N62, kp64, (((E0_.keep K41).wr W53).wr W60), f65, b38, k39, f61, ((p42.other W53 q66).other W60 q66), g48, z47⟩))
theorem ef_str1a_2 (m : MethodId) (x_ : Addr) (s_ : Addr) : entryFrame m #[(rr x_), (rr s_)] 2 = mkF m 0 #[vr x_, vr s_] [] := by first | (simp [entryFrame, mkF, argsToLocals, Value.category]; done) | rfl
def Q_str1a_2 (Z : State) (x_ : Addr) (s_ : Addr) (ks_ : ClassId) (z_ : Int32) (c0_ : Int32) (c1_ : Int32) (h0 : Heap) (n0 : Nat) (v : Option Value) (h : Heap) (L : List Loc) : Prop := (v = none ∧ Fr n0 L ∧ Keep h0 h [x_] ∧ Exa Z h x_ nm0 ∧ Fld Z h x_ nm0 "coder" "B" (ii 0) ∧ ∃ (b_ : Addr), ∃ (kb_ : ClassId), Fld Z h x_ nm0 "value" "[B" (rr b_) ∧ Arv Z h b_ kb_ .byte (2 : Int32) [(.int (nar .byte (c0_.toInt8.toInt32))), (.int (nar .byte (c1_.toInt8.toInt32)))] (ii 0) ∧ n0 ≤ b_ ∧ h0.size ≤ b_ ∧ ¬ ((255 : Int32) < c0_) ∧ ¬ ((255 : Int32) < c1_)) ∨ (v = none ∧ Fr n0 L ∧ Keep h0 h [x_] ∧ Exa Z h x_ nm0 ∧ Fld Z h x_ nm0 "coder" "B" (ii 1) ∧ ∃ (b_ : Addr), ∃ (kb_ : ClassId), Fld Z h x_ nm0 "value" "[B" (rr b_) ∧ Arv Z h b_ kb_ .byte (4 : Int32) [(.int (nar .byte ((c0_ >>> ((0 : Int32) &&& 31)).toInt8.toInt32))), (.int (nar .byte ((c0_ >>> ((8 : Int32) &&& 31)).toInt8.toInt32))), (.int (nar .byte ((c1_ >>> ((0 : Int32) &&& 31)).toInt8.toInt32))), (.int (nar .byte ((c1_ >>> ((8 : Int32) &&& 31)).toInt8.toInt32)))] (ii 0) ∧ n0 ≤ b_ ∧ h0.size ≤ b_)
set_option maxRecDepth 65536 in
set_option maxHeartbeats 40000000 in
theorem rm_str1a_2 (l : Launch) (Z : State) (a0 : Array Value) (hw : HW Z a0) (ws : List Jvm.Cond) (x_ : Addr) (s_ : Addr) (ks_ : ClassId) (z_ : Int32) (c0_ : Int32) (c1_ : Int32) (h0 : Heap) (n0 : Nat) (O0 : Old Z n0 h0) (E0_ : Exa Z h0 x_ nm0) (F1_ : Fld Z h0 x_ nm0 "value" "[B" .null) (F2_ : Fld Z h0 x_ nm0 "coder" "B" (ii 0)) (G3_ : n0 ≤ x_) (A4_ : Arv Z h0 s_ ks_ .char (2 : Int32) [(.int c0_), (.int c1_)] (ii 0)) (ZS5_ : Sta Z Z.heap nm0 "COMPACT_STRINGS" "Z" (.int z_)) (hz_ : ¬ (z_ = (0 : Int32))) (ZS7_ : Sta Z Z.heap nm1 "$assertionsDisabled" "Z" (ii 1)) (ZS8_ : Sta Z Z.heap nm1 "HI_BYTE_SHIFT" "I" (ii 0)) (ZS9_ : Sta Z Z.heap nm1 "LO_BYTE_SHIFT" "I" (ii 8)) (hc0_ : nar .char c0_ = c0_) (hc1_ : nar .char c1_ = c1_) :
  MFP l Z (⟨nm0, "<init>", "([C)V"⟩ : MethodName) jdk_42_method_3_code 2 none ({ frames := 5, cells := 2, slots := 6, locals := 74 } : Room) ws #[(rr x_), (rr s_)] h0 (Q_str1a_2 Z x_ s_ ks_ z_ c0_ c1_ h0 n0) := by
 refine MetFree.of_bodySF (plainFor_of_name pn_java_lang_String) hisR ?_
 intro p e s m args below meth c s₁ Bd hml0 hP hK
 obtain ⟨rfl, hZ, hh⟩ := hP
 have hx := Bd.exec
 have hby := Bd.bytes
 have hml : c.maxLocals = 2 := hml0
 have hown : s.vm.findClass nm0 = some m.cls := findClass_of_methodNamed Bd.named
 have hnm := (name_of_methodNamed Bd.named Bd.method).1
 have X0 : Stand p l e ({ frames := 5, cells := 2, slots := 6, locals := 74 } : Room) s m #[(rr x_), (rr s_)] below meth c s₁ [] 0 0 := Stand.of_body Bd
 have e0 : s₁.heap = h0 := by rw [← hh, Bd.state]; rfl
 have N0 := Fr.nil n0
 have kp0 : Keep h0 h0 [x_] := Keep.refl _ _
 have c0 : ∀ t, S_ p e below s₁ m 0 #[vr x_, vr s_] [] t → Steps p.tables e below (s₁.setTop (entryFrame m #[(rr x_), (rr s_)] 2)) t := fun t k => castTop (ef_str1a_2 m x_ s_) k
 generalize s₁.setTop (entryFrame m #[(rr x_), (rr s_)] 2) = st0 at c0 ⊢
 replace c0 : Kt p e below s₁ st0 (mkF m 0 #[vr x_, vr s_] []) := c0
 have c1 : Kt p e below s₁ st0 (mkF m 6 #[vr x_, vr s_] [.null, (ii 2), (ii 0), (rr s_), (rr x_)]) := fun t k => by
  refine c0 t ?_
  show S_ p e below s₁ m 0 #[vr x_, vr s_] [] t
  refine XS.aloadN X0.here hx rfl (hb hby d12_0) rfl rfl ?_
  show S_ p e below s₁ m 1 #[vr x_, vr s_] [(rr x_)] t
  refine XS.aloadN X0.here hx rfl (hb hby d12_1) rfl rfl ?_
  show S_ p e below s₁ m 2 #[vr x_, vr s_] [(rr s_), (rr x_)] t
  refine XS.iconst X0.here hx rfl (hb hby d12_2) ?_
  show S_ p e below s₁ m 3 #[vr x_, vr s_] [(ii 0), (rr s_), (rr x_)] t
  refine XS.aloadN X0.here hx rfl (hb hby d12_3) rfl rfl ?_
  show S_ p e below s₁ m 4 #[vr x_, vr s_] [(rr s_), (ii 0), (rr s_), (rr x_)] t
  refine ldLen X0 hx hZ e0 A4_ rfl rfl (hb hby d12_4) ?_
  show S_ p e below s₁ m 5 #[vr x_, vr s_] [(ii 2), (ii 0), (rr s_), (rr x_)] t
  refine XS.aconstNull X0.here hx rfl (hb hby d12_5) ?_
  exact k
 obtain ⟨_, T2, L2, X2, hQ2, c2⟩ := kspec X0 hx hZ hown (w9 hw) (w10 hw) (w5 hw) (w12 hw) (rm_str4a_2 l Z a0 hw [] x_ s_ ks_ z_ c0_ c1_ h0 n0 O0 E0_ F1_ F2_ G3_ A4_ ZS5_ hz_ ZS7_ ZS8_ ZS9_ hc0_ hc1_) e0 c1 hml pd_pACIILjava_lang_Void_rV x_ [(rr s_), (ii 0), (ii 2), .null] [] 0 (hb hby d12_6) rfl rfl rfl rfl rfl rfl
 rcases hQ2 with hQ2 | hQ2
 ·obtain ⟨rfl, N3q, K4, p5, p6, b7, k8, p9, p10, p11, p12, p13, p14⟩ := hQ2
  have N3 := Fr.app N0 N3q
  have o15 := O0.keep K4 (allS G3_ all0)
  have kp16 := kp0.trans K4 (allS (Or.inl (List.mem_of_getElem? (i := 0) rfl)) all0)
  have z17 := Nat.le_trans kp0.1 p12
  have g18 := Nat.le_trans (Nat.le_trans (Nat.le_of_eq O0.1.symm) O0.2.1) p12
  obtain ⟨fs, hr, hrun, hended, hW, hsame⟩ := X2.leave (v := none) (fun _ => rfl)
  refine ⟨_, _, c2 _ ?_, hrun, hended, _, _, rfl, ?_, ⟨_, rfl⟩, hW, hsame.mono (by decide) (by decide)⟩
  ·show S_ p e below T2 m 9 #[vr x_, vr s_] [] _
   exact X2.returnOut hx Bd.returns (hb hby d12_9) hr
  ·show Q_str1a_2 Z x_ s_ ks_ z_ c0_ c1_ h0 n0 _ T2.heap _
   exact (Or.inl ⟨rfl, N3, kp16, p5, p6, b7, k8, p9, p10, g18, z17, p13, p14⟩)
 ·obtain ⟨rfl, N19q, K20, p21, p22, b23, k24, p25, p26, p27, p28⟩ := hQ2
  have N19 := Fr.app N0 N19q
  have o29 := O0.keep K20 (allS G3_ all0)
  have kp30 := kp0.trans K20 (allS (Or.inl (List.mem_of_getElem? (i := 0) rfl)) all0)
  have z31 := Nat.le_trans kp0.1 p28
  have g32 := Nat.le_trans (Nat.le_trans (Nat.le_of_eq O0.1.symm) O0.2.1) p28
  obtain ⟨fs, hr, hrun, hended, hW, hsame⟩ := X2.leave (v := none) (fun _ => rfl)
  refine ⟨_, _, c2 _ ?_, hrun, hended, _, _, rfl, ?_, ⟨_, rfl⟩, hW, hsame.mono (by decide) (by decide)⟩
  ·show S_ p e below T2 m 9 #[vr x_, vr s_] [] _
   exact X2.returnOut hx Bd.returns (hb hby d12_9) hr
  ·show Q_str1a_2 Z x_ s_ ks_ z_ c0_ c1_ h0 n0 _ T2.heap _
   exact (Or.inr (⟨rfl, N19, kp30, p21, p22, b23, k24, p25, p26, g32, z31⟩))
theorem ef_u16len_2 (m : MethodId) (s_ : Addr) : entryFrame m #[(rr s_)] 1 = mkF m 0 #[vr s_] [] := by first | (simp [entryFrame, mkF, argsToLocals, Value.category]; done) | rfl
def Q_u16len_2 (Z : State) (s_ : Addr) (ks_ : ClassId) (vs_ : List Value) (h0 : Heap) (n0 : Nat) (v : Option Value) (h : Heap) (L : List Loc) : Prop := v = some (ii 2) ∧ Fr n0 L ∧ h = h0
set_option maxRecDepth 65536 in
set_option maxHeartbeats 40000000 in
theorem rm_u16len_2 (l : Launch) (Z : State) (a0 : Array Value) (hw : HW Z a0) (ws : List Jvm.Cond) (s_ : Addr) (ks_ : ClassId) (vs_ : List Value) (h0 : Heap) (n0 : Nat) (O0 : Old Z n0 h0) (A0_ : Arv Z h0 s_ ks_ .byte (4 : Int32) vs_ (ii 0)) :
  MFP l Z (⟨nm1, "length", "([B)I"⟩ : MethodName) jdk_52_method_6_code 1 (some .int) ({ frames := 0, cells := 0, slots := 0, locals := 0 } : Room) ws #[(rr s_)] h0 (Q_u16len_2 Z s_ ks_ vs_ h0 n0) := by
 refine MetFree.of_bodySF (plainFor_of_name pn_java_lang_StringUTF16) hisR ?_
 intro p e s m args below meth c s₁ Bd hml0 hP hK
 obtain ⟨rfl, hZ, hh⟩ := hP
 have hx := Bd.exec
 have hby := Bd.bytes
 have hml : c.maxLocals = 1 := hml0
 have hown : s.vm.findClass nm1 = some m.cls := findClass_of_methodNamed Bd.named
 have hnm := (name_of_methodNamed Bd.named Bd.method).1
 have X0 : Stand p l e ({ frames := 0, cells := 0, slots := 0, locals := 0 } : Room) s m #[(rr s_)] below meth c s₁ [] 0 0 := Stand.of_body Bd
 have e0 : s₁.heap = h0 := by rw [← hh, Bd.state]; rfl
 have N0 := Fr.nil n0
 have kp0 : Keep h0 h0 [] := Keep.refl _ _
 have c0 : ∀ t, S_ p e below s₁ m 0 #[vr s_] [] t → Steps p.tables e below (s₁.setTop (entryFrame m #[(rr s_)] 1)) t := fun t k => castTop (ef_u16len_2 m s_) k
 generalize s₁.setTop (entryFrame m #[(rr s_)] 1) = st0 at c0 ⊢
 replace c0 : Kt p e below s₁ st0 (mkF m 0 #[vr s_] []) := c0
 obtain ⟨fs, hr, hrun, hended, hW, hsame⟩ := X0.leave (v := some (ii 2)) (fun h => by rw [Bd.returns] at h; cases h)
 refine ⟨_, _, c0 _ ?_, hrun, hended, _, _, rfl, ?_, ⟨_, rfl⟩, hW, hsame.mono (by decide) (by decide)⟩
 ·show S_ p e below s₁ m 0 #[vr s_] [] _
  refine XS.aloadN X0.here hx rfl (hb hby d16_0) rfl rfl ?_
  show S_ p e below s₁ m 1 #[vr s_] [(rr s_)] _
  refine ldLen X0 hx hZ e0 A0_ rfl rfl (hb hby d16_1) ?_
  show S_ p e below s₁ m 2 #[vr s_] [(ii 4)] _
  refine XS.iconst X0.here hx rfl (hb hby d16_2) ?_
  show S_ p e below s₁ m 3 #[vr s_] [(ii 1), (ii 4)] _
  refine XS.ishr X0.here hx rfl (hb hby d16_3) rfl ?_
  show S_ p e below s₁ m 4 #[vr s_] [(ii 2)] _
  exact retOut X0 hx Bd.returns rfl (Or.inl ⟨rfl, Or.inl rfl, _, rfl⟩) (hb hby d16_4) hr
 ·show Q_u16len_2 Z s_ ks_ vs_ h0 n0 _ s₁.heap _
  rw [e0]
  exact ⟨rfl, N0, rfl⟩
theorem ef_u16chk_2 (m : MethodId) (i_ : Int32) (s_ : Addr) : entryFrame m #[(.int i_), (rr s_)] 2 = mkF m 0 #[vi i_, vr s_] [] := by first | (simp [entryFrame, mkF, argsToLocals, Value.category]; done) | rfl
def Q_u16chk_2 (Z : State) (s_ : Addr) (ks_ : ClassId) (vs_ : List Value) (i_ : Int32) (fm_ : Value) (h0 : Heap) (n0 : Nat) (v : Option Value) (h : Heap) (L : List Loc) : Prop := v = none ∧ Fr n0 L ∧ h = h0
set_option maxRecDepth 65536 in
set_option maxHeartbeats 40000000 in
theorem rm_u16chk_2 (l : Launch) (Z : State) (a0 : Array Value) (hw : HW Z a0) (ws : List Jvm.Cond) (s_ : Addr) (ks_ : ClassId) (vs_ : List Value) (i_ : Int32) (fm_ : Value) (h0 : Heap) (n0 : Nat) (O0 : Old Z n0 h0) (A0_ : Arv Z h0 s_ ks_ .byte (4 : Int32) vs_ (ii 0)) (ZS1_ : Sta Z Z.heap nm2 "SIOOBE_FORMATTER" nm4 fm_) (hfm_ : fm_.isRef = true) (h1_ : ¬ (i_ < (0 : Int32))) (h2_ : i_ < (2 : Int32)) :
  MFP l Z (⟨nm1, "checkIndex", "(I[B)V"⟩ : MethodName) jdk_52_method_91_code 2 none ({ frames := 2, cells := 0, slots := 0, locals := 27 } : Room) ws #[(.int i_), (rr s_)] h0 (Q_u16chk_2 Z s_ ks_ vs_ i_ fm_ h0 n0) := by
 refine MetFree.of_bodySF (plainFor_of_name pn_java_lang_StringUTF16) hisR ?_
 intro p e s m args below meth c s₁ Bd hml0 hP hK
 obtain ⟨rfl, hZ, hh⟩ := hP
 have hx := Bd.exec
 have hby := Bd.bytes
 have hml : c.maxLocals = 2 := hml0
 have hown : s.vm.findClass nm1 = some m.cls := findClass_of_methodNamed Bd.named
 have hnm := (name_of_methodNamed Bd.named Bd.method).1
 have X0 : Stand p l e ({ frames := 2, cells := 0, slots := 0, locals := 27 } : Room) s m #[(.int i_), (rr s_)] below meth c s₁ [] 0 0 := Stand.of_body Bd
 have e0 : s₁.heap = h0 := by rw [← hh, Bd.state]; rfl
 have N0 := Fr.nil n0
 have kp0 : Keep h0 h0 [] := Keep.refl _ _
 have c0 : ∀ t, S_ p e below s₁ m 0 #[vi i_, vr s_] [] t → Steps p.tables e below (s₁.setTop (entryFrame m #[(.int i_), (rr s_)] 2)) t := fun t k => castTop (ef_u16chk_2 m i_ s_) k
 generalize s₁.setTop (entryFrame m #[(.int i_), (rr s_)] 2) = st0 at c0 ⊢
 replace c0 : Kt p e below s₁ st0 (mkF m 0 #[vi i_, vr s_] []) := c0
 have c1 : Kt p e below s₁ st0 (mkF m 2 #[vi i_, vr s_] [(rr s_), (.int i_)]) := fun t k => by
  refine c0 t ?_
  show S_ p e below s₁ m 0 #[vi i_, vr s_] [] t
  refine XS.iloadN X0.here hx rfl (hb hby d17_0) rfl ?_
  show S_ p e below s₁ m 1 #[vi i_, vr s_] [(.int i_)] t
  refine XS.aloadN X0.here hx rfl (hb hby d17_1) rfl rfl ?_
  exact k
 obtain ⟨_, T2, L2, X2, hQ2, c2⟩ := kstat X0 hx hZ hown (w96 hw) (w97 hw) (w41 hw) (w98 hw) (rm_u16len_2 l Z a0 hw [] s_ ks_ vs_ h0 n0 O0 A0_) e0 c1 hml pd_pABrI [(rr s_)] [(.int i_)] 1 (hb hby d17_2) rfl rfl rfl rfl rfl rfl
 obtain ⟨rfl, N3q, K4⟩ := hQ2
 have N3 := Fr.app N0 N3q
 obtain ⟨_, T5, L5, X5, hQ5, c5⟩ := kstat X2 hx hZ hown (w99 hw) (w64 hw) (w5 hw) (w65 hw) (rm_schk l Z a0 hw [] i_ (2 : Int32) fm_ h0 n0 O0 ZS1_ hfm_ h1_ h2_) K4 c2 hml pd_pIIrV [(.int i_), (ii 2)] [] 0 (hb hby d17_5) rfl rfl rfl rfl rfl rfl
 obtain ⟨rfl, N6q, K7⟩ := hQ5
 have N6 := Fr.app N3 N6q
 obtain ⟨fs, hr, hrun, hended, hW, hsame⟩ := X5.leave (v := none) (fun _ => rfl)
 refine ⟨_, _, c5 _ ?_, hrun, hended, _, _, rfl, ?_, ⟨_, rfl⟩, hW, hsame.mono (by decide) (by decide)⟩
 ·show S_ p e below T5 m 8 #[vi i_, vr s_] [] _
  exact X5.returnOut hx Bd.returns (hb hby d17_8) hr
 ·show Q_u16chk_2 Z s_ ks_ vs_ i_ fm_ h0 n0 _ T5.heap _
  rw [K7]
  exact ⟨rfl, N6, rfl⟩
theorem ef_u16ch_2 (m : MethodId) (s_ : Addr) (i_ : Int32) : entryFrame m #[(rr s_), (.int i_)] 2 = mkF m 0 #[vr s_, vi i_] [] := by first | (simp [entryFrame, mkF, argsToLocals, Value.category]; done) | rfl
def Q_u16ch_2 (Z : State) (s_ : Addr) (ks_ : ClassId) (vs_ : List Value) (i_ : Int32) (b_ : Int32) (d_ : Int32) (c_ : Int32) (fm_ : Value) (h0 : Heap) (n0 : Nat) (v : Option Value) (h : Heap) (L : List Loc) : Prop := v = some (.int c_) ∧ Fr n0 L ∧ h = h0
set_option maxRecDepth 65536 in
set_option maxHeartbeats 40000000 in
theorem rm_u16ch_2 (l : Launch) (Z : State) (a0 : Array Value) (hw : HW Z a0) (ws : List Jvm.Cond) (s_ : Addr) (ks_ : ClassId) (vs_ : List Value) (i_ : Int32) (b_ : Int32) (d_ : Int32) (c_ : Int32) (fm_ : Value) (h0 : Heap) (n0 : Nat) (O0 : Old Z n0 h0) (A0_ : Arv Z h0 s_ ks_ .byte (4 : Int32) vs_ (ii 0)) (ZS1_ : Sta Z Z.heap nm2 "SIOOBE_FORMATTER" nm4 fm_) (hfm_ : fm_.isRef = true) (ZS3_ : Sta Z Z.heap nm1 "$assertionsDisabled" "Z" (ii 1)) (ZS4_ : Sta Z Z.heap nm1 "HI_BYTE_SHIFT" "I" (ii 0)) (ZS5_ : Sta Z Z.heap nm1 "LO_BYTE_SHIFT" "I" (ii 8)) (ha_ : ¬ (i_ < (0 : Int32))) (hb_ : i_ < (2 : Int32)) (h1_ : ¬ ((i_ <<< ((1 : Int32) &&& 31)) < (0 : Int32))) (h2_ : (i_ <<< ((1 : Int32) &&& 31)) < (4 : Int32)) (h3_ : ¬ (((i_ <<< ((1 : Int32) &&& 31)) + (1 : Int32)) < (0 : Int32))) (h4_ : ((i_ <<< ((1 : Int32) &&& 31)) + (1 : Int32)) < (4 : Int32)) (h5_ : vs_.getD ((i_ <<< ((1 : Int32) &&& 31))).toNatClampNeg (ii 0) = (.int b_)) (h6_ : vs_.getD (((i_ <<< ((1 : Int32) &&& 31)) + (1 : Int32))).toNatClampNeg (ii 0) = (.int d_)) (h7_ : (nar .char ((((b_ &&& (255 : Int32)) <<< ((0 : Int32) &&& 31)) ||| ((d_ &&& (255 : Int32)) <<< ((8 : Int32) &&& 31))).toUInt32.toUInt16.toUInt32.toInt32)) = c_) (h8_ : nar .char c_ = c_) :
  MFP l Z (⟨nm1, "charAt", "([BI)C"⟩ : MethodName) jdk_52_method_83_code 2 (some .char) ({ frames := 3, cells := 0, slots := 0, locals := 40 } : Room) ws #[(rr s_), (.int i_)] h0 (Q_u16ch_2 Z s_ ks_ vs_ i_ b_ d_ c_ fm_ h0 n0) := by
 refine MetFree.of_bodySF (plainFor_of_name pn_java_lang_StringUTF16) hisR ?_
 intro p e s m args below meth c s₁ Bd hml0 hP hK
 obtain ⟨rfl, hZ, hh⟩ := hP
 have hx := Bd.exec
 have hby := Bd.bytes
 have hml : c.maxLocals = 2 := hml0
 have hown : s.vm.findClass nm1 = some m.cls := findClass_of_methodNamed Bd.named
 have hnm := (name_of_methodNamed Bd.named Bd.method).1
 have X0 : Stand p l e ({ frames := 3, cells := 0, slots := 0, locals := 40 } : Room) s m #[(rr s_), (.int i_)] below meth c s₁ [] 0 0 := Stand.of_body Bd
 have e0 : s₁.heap = h0 := by rw [← hh, Bd.state]; rfl
 have N0 := Fr.nil n0
 have kp0 : Keep h0 h0 [] := Keep.refl _ _
 have c0 : ∀ t, S_ p e below s₁ m 0 #[vr s_, vi i_] [] t → Steps p.tables e below (s₁.setTop (entryFrame m #[(rr s_), (.int i_)] 2)) t := fun t k => castTop (ef_u16ch_2 m s_ i_) k
 generalize s₁.setTop (entryFrame m #[(rr s_), (.int i_)] 2) = st0 at c0 ⊢
 replace c0 : Kt p e below s₁ st0 (mkF m 0 #[vr s_, vi i_] []) := c0
 have c1 : Kt p e below s₁ st0 (mkF m 2 #[vr s_, vi i_] [(rr s_), (.int i_)]) := fun t k => by
  refine c0 t ?_
  show S_ p e below s₁ m 0 #[vr s_, vi i_] [] t
  refine XS.iloadN X0.here hx rfl (hb hby d18_0) rfl ?_
  show S_ p e below s₁ m 1 #[vr s_, vi i_] [(.int i_)] t
  refine XS.aloadN X0.here hx rfl (hb hby d18_1) rfl rfl ?_
  exact k
 obtain ⟨_, T2, L2, X2, hQ2, c2⟩ := kstat X0 hx hZ hown (w93 hw) (w94 hw) (w41 hw) (w95 hw) (rm_u16chk_2 l Z a0 hw [] s_ ks_ vs_ i_ fm_ h0 n0 O0 A0_ ZS1_ hfm_ ha_ hb_) e0 c1 hml pd_pIABrV [(.int i_), (rr s_)] [] 0 (hb hby d18_2) rfl rfl rfl rfl rfl rfl
 obtain ⟨rfl, N3q, K4⟩ := hQ2
 have N3 := Fr.app N0 N3q
 have c5 : Kt p e below T2 st0 (mkF m 7 #[vr s_, vi i_] [(.int i_), (rr s_)]) := fun t k => by
  refine c2 t ?_
  show S_ p e below T2 m 5 #[vr s_, vi i_] [] t
  refine XS.aloadN X2.here hx rfl (hb hby d18_5) rfl rfl ?_
  show S_ p e below T2 m 6 #[vr s_, vi i_] [(rr s_)] t
  refine XS.iloadN X2.here hx rfl (hb hby d18_6) rfl ?_
  exact k
 obtain ⟨_, T6, L6, X6, hQ6, c6⟩ := kstat X2 hx hZ hown (w87 hw) (w88 hw) (w41 hw) (w89 hw) (rm_getc l Z a0 hw [] s_ ks_ (4 : Int32) vs_ i_ b_ d_ c_ h0 n0 O0 A0_ ZS3_ ZS4_ ZS5_ h1_ h2_ h3_ h4_ h5_ h6_ h7_) K4 c5 hml pd_pABIrC [(rr s_), (.int i_)] [] 0 (hb hby d18_7) rfl rfl rfl rfl rfl rfl
 obtain ⟨rfl, N7q, K8⟩ := hQ6
 have N7 := Fr.app N3 N7q
 obtain ⟨fs, hr, hrun, hended, hW, hsame⟩ := X6.leave (v := some (.int (nar .char c_))) (fun h => by rw [Bd.returns] at h; cases h)
 refine ⟨_, _, c6 _ ?_, hrun, hended, _, _, rfl, ?_, ⟨_, rfl⟩, hW, hsame.mono (by decide) (by decide)⟩
 ·show S_ p e below T6 m 10 #[vr s_, vi i_] [(.int c_)] _
  exact retN X6 hx (t := .char) Bd.returns (by simp) (hb hby d18_10) hr
 ·show Q_u16ch_2 Z s_ ks_ vs_ i_ b_ d_ c_ fm_ h0 n0 _ T6.heap _
  rw [K8]
  exact ⟨(by rw [h8_]), N7, rfl⟩
theorem ef_chU_2 (m : MethodId) (x_ : Addr) (i_ : Int32) : entryFrame m #[(rr x_), (.int i_)] 2 = mkF m 0 #[vr x_, vi i_] [] := by first | (simp [entryFrame, mkF, argsToLocals, Value.category]; done) | rfl
def Q_chU_2 (Z : State) (x_ : Addr) (s_ : Addr) (ks_ : ClassId) (vs_ : List Value) (i_ : Int32) (b_ : Int32) (d_ : Int32) (c_ : Int32) (fm_ : Value) (z_ : Int32) (h0 : Heap) (n0 : Nat) (v : Option Value) (h : Heap) (L : List Loc) : Prop := v = some (.int c_) ∧ Fr n0 L ∧ h = h0
set_option maxRecDepth 65536 in
set_option maxHeartbeats 40000000 in
theorem rm_chU_2 (l : Launch) (Z : State) (a0 : Array Value) (hw : HW Z a0) (ws : List Jvm.Cond) (x_ : Addr) (s_ : Addr) (ks_ : ClassId) (vs_ : List Value) (i_ : Int32) (b_ : Int32) (d_ : Int32) (c_ : Int32) (fm_ : Value) (z_ : Int32) (h0 : Heap) (n0 : Nat) (O0 : Old Z n0 h0) (E0_ : Exa Z h0 x_ nm0) (F1_ : Fld Z h0 x_ nm0 "coder" "B" (ii 1)) (F2_ : Fld Z h0 x_ nm0 "value" "[B" (rr s_)) (A3_ : Arv Z h0 s_ ks_ .byte (4 : Int32) vs_ (ii 0)) (ZS4_ : Sta Z Z.heap nm2 "SIOOBE_FORMATTER" nm4 fm_) (hfm_ : fm_.isRef = true) (ZS6_ : Sta Z Z.heap nm0 "COMPACT_STRINGS" "Z" (.int z_)) (hz_ : ¬ (z_ = (0 : Int32))) (ZS8_ : Sta Z Z.heap nm1 "$assertionsDisabled" "Z" (ii 1)) (ZS9_ : Sta Z Z.heap nm1 "HI_BYTE_SHIFT" "I" (ii 0)) (ZS10_ : Sta Z Z.heap nm1 "LO_BYTE_SHIFT" "I" (ii 8)) (ha_ : ¬ (i_ < (0 : Int32))) (hb_ : i_ < (2 : Int32)) (h1_ : ¬ ((i_ <<< ((1 : Int32) &&& 31)) < (0 : Int32))) (h2_ : (i_ <<< ((1 : Int32) &&& 31)) < (4 : Int32)) (h3_ : ¬ (((i_ <<< ((1 : Int32) &&& 31)) + (1 : Int32)) < (0 : Int32))) (h4_ : ((i_ <<< ((1 : Int32) &&& 31)) + (1 : Int32)) < (4 : Int32)) (h5_ : vs_.getD ((i_ <<< ((1 : Int32) &&& 31))).toNatClampNeg (ii 0) = (.int b_)) (h6_ : vs_.getD (((i_ <<< ((1 : Int32) &&& 31)) + (1 : Int32))).toNatClampNeg (ii 0) = (.int d_)) (h7_ : (nar .char ((((b_ &&& (255 : Int32)) <<< ((0 : Int32) &&& 31)) ||| ((d_ &&& (255 : Int32)) <<< ((8 : Int32) &&& 31))).toUInt32.toUInt16.toUInt32.toInt32)) = c_) (h8_ : nar .char c_ = c_) :
  MFP l Z (⟨nm0, "charAt", "(I)C"⟩ : MethodName) jdk_42_method_56_code 2 (some .char) ({ frames := 4, cells := 0, slots := 0, locals := 53 } : Room) ws #[(rr x_), (.int i_)] h0 (Q_chU_2 Z x_ s_ ks_ vs_ i_ b_ d_ c_ fm_ z_ h0 n0) := by
 refine MetFree.of_bodySF (plainFor_of_name pn_java_lang_String) hisR ?_
 intro p e s m args below meth c s₁ Bd hml0 hP hK
 obtain ⟨rfl, hZ, hh⟩ := hP
 have hx := Bd.exec
 have hby := Bd.bytes
 have hml : c.maxLocals = 2 := hml0
 have hown : s.vm.findClass nm0 = some m.cls := findClass_of_methodNamed Bd.named
 have hnm := (name_of_methodNamed Bd.named Bd.method).1
 have X0 : Stand p l e ({ frames := 4, cells := 0, slots := 0, locals := 53 } : Room) s m #[(rr x_), (.int i_)] below meth c s₁ [] 0 0 := Stand.of_body Bd
 have e0 : s₁.heap = h0 := by rw [← hh, Bd.state]; rfl
 have N0 := Fr.nil n0
 have kp0 : Keep h0 h0 [] := Keep.refl _ _
 have c0 : ∀ t, S_ p e below s₁ m 0 #[vr x_, vi i_] [] t → Steps p.tables e below (s₁.setTop (entryFrame m #[(rr x_), (.int i_)] 2)) t := fun t k => castTop (ef_chU_2 m x_ i_) k
 generalize s₁.setTop (entryFrame m #[(rr x_), (.int i_)] 2) = st0 at c0 ⊢
 replace c0 : Kt p e below s₁ st0 (mkF m 0 #[vr x_, vi i_] []) := c0
 have c1 : Kt p e below s₁ st0 (mkF m 1 #[vr x_, vi i_] [(rr x_)]) := fun t k => by
  refine c0 t ?_
  show S_ p e below s₁ m 0 #[vr x_, vi i_] [] t
  refine XS.aloadN X0.here hx rfl (hb hby d15_0) rfl rfl ?_
  exact k
 obtain ⟨_, T2, L2, X2, hQ2, c2⟩ := kvirt X0 hx hZ hown (w54 hw) (w55 hw) (w57 hw) (w56 hw) (w58 hw) (w5 hw) (rm_islU l Z a0 hw [] x_ z_ h0 n0 O0 F1_ ZS6_ hz_) e0 E0_ c1 hml pd_prZ [] [] 0 (hb hby d15_1) rfl rfl rfl rfl rfl rfl
 obtain ⟨rfl, N3q, K4⟩ := hQ2
 have N3 := Fr.app N0 N3q
 have c5 : Kt p e below T2 st0 (mkF m 17 #[vr x_, vi i_] [(rr x_)]) := fun t k => by
  refine c2 t ?_
  show S_ p e below T2 m 4 #[vr x_, vi i_] [(ii 0)] t
  refine yI X2.here hx rfl 4 16 rfl (hb hby d15_4) rfl rfl ?_
  show S_ p e below T2 m 16 #[vr x_, vi i_] [] t
  refine XS.aloadN X2.here hx rfl (hb hby d15_16) rfl rfl ?_
  exact k
 obtain ⟨T6, X6, e6, c6⟩ := kget X2 hx hZ hown (host := "") (Or.inl (w22 hw)) Via.refl K4 F2_ c5 rfl rfl (hb hby d15_17)
 have c7 : Kt p e below T6 st0 (mkF m 21 #[vr x_, vi i_] [(.int i_), (rr s_)]) := fun t k => by
  refine c6 t ?_
  show S_ p e below T6 m 20 #[vr x_, vi i_] [(rr s_)] t
  refine XS.iloadN X6.here hx rfl (hb hby d15_20) rfl ?_
  exact k
 obtain ⟨_, T8, L8, X8, hQ8, c8⟩ := kstat X6 hx hZ hown (w90 hw) (w91 hw) (w41 hw) (w92 hw) (rm_u16ch_2 l Z a0 hw [] s_ ks_ vs_ i_ b_ d_ c_ fm_ h0 n0 O0 A3_ ZS4_ hfm_ ZS8_ ZS9_ ZS10_ ha_ hb_ h1_ h2_ h3_ h4_ h5_ h6_ h7_ h8_) e6 c7 hml pd_pABIrC [(rr s_), (.int i_)] [] 0 (hb hby d15_21) rfl rfl rfl rfl rfl rfl
 obtain ⟨rfl, N9q, K10⟩ := hQ8
 have N9 := Fr.app N3 N9q
 obtain ⟨fs, hr, hrun, hended, hW, hsame⟩ := X8.leave (v := some (.int (nar .char c_))) (fun h => by rw [Bd.returns] at h; cases h)
 refine ⟨_, _, c8 _ ?_, hrun, hended, _, _, rfl, ?_, ⟨_, rfl⟩, hW, hsame.mono (by decide) (by decide)⟩
 ·show S_ p e below T8 m 24 #[vr x_, vi i_] [(.int c_)] _
  exact retN X8 hx (t := .char) Bd.returns (by simp) (hb hby d15_24) hr
 ·show Q_chU_2 Z x_ s_ ks_ vs_ i_ b_ d_ c_ fm_ z_ h0 n0 _ T8.heap _
  rw [K10]
  exact ⟨(by rw [h8_]), N9, rfl⟩
theorem ef_lenL_2 (m : MethodId) (x_ : Addr) : entryFrame m #[(rr x_)] 1 = mkF m 0 #[vr x_] [] := by first | (simp [entryFrame, mkF, argsToLocals, Value.category]; done) | rfl
def Q_lenL_2 (Z : State) (x_ : Addr) (s_ : Addr) (ks_ : ClassId) (vs_ : List Value) (z_ : Int32) (h0 : Heap) (n0 : Nat) (v : Option Value) (h : Heap) (L : List Loc) : Prop := v = some (ii 2) ∧ Fr n0 L ∧ h = h0
set_option maxRecDepth 65536 in
set_option maxHeartbeats 40000000 in
theorem rm_lenL_2 (l : Launch) (Z : State) (a0 : Array Value) (hw : HW Z a0) (ws : List Jvm.Cond) (x_ : Addr) (s_ : Addr) (ks_ : ClassId) (vs_ : List Value) (z_ : Int32) (h0 : Heap) (n0 : Nat) (O0 : Old Z n0 h0) (E0_ : Exa Z h0 x_ nm0) (F1_ : Fld Z h0 x_ nm0 "coder" "B" (ii 0)) (F2_ : Fld Z h0 x_ nm0 "value" "[B" (rr s_)) (A3_ : Arv Z h0 s_ ks_ .byte (2 : Int32) vs_ (ii 0)) (ZS4_ : Sta Z Z.heap nm0 "COMPACT_STRINGS" "Z" (.int z_)) (hz_ : ¬ (z_ = (0 : Int32))) :
  MFP l Z (⟨nm0, "length", "()I"⟩ : MethodName) jdk_42_method_54_code 1 (some .int) ({ frames := 1, cells := 0, slots := 0, locals := 13 } : Room) ws #[(rr x_)] h0 (Q_lenL_2 Z x_ s_ ks_ vs_ z_ h0 n0) := by
 refine MetFree.of_bodySF (plainFor_of_name pn_java_lang_String) hisR ?_
 intro p e s m args below meth c s₁ Bd hml0 hP hK
 obtain ⟨rfl, hZ, hh⟩ := hP
 have hx := Bd.exec
 have hby := Bd.bytes
 have hml : c.maxLocals = 1 := hml0
 have hown : s.vm.findClass nm0 = some m.cls := findClass_of_methodNamed Bd.named
 have hnm := (name_of_methodNamed Bd.named Bd.method).1
 have X0 : Stand p l e ({ frames := 1, cells := 0, slots := 0, locals := 13 } : Room) s m #[(rr x_)] below meth c s₁ [] 0 0 := Stand.of_body Bd
 have e0 : s₁.heap = h0 := by rw [← hh, Bd.state]; rfl
 have N0 := Fr.nil n0
 have kp0 : Keep h0 h0 [] := Keep.refl _ _
 have c0 : ∀ t, S_ p e below s₁ m 0 #[vr x_] [] t → Steps p.tables e below (s₁.setTop (entryFrame m #[(rr x_)] 1)) t := fun t k => castTop (ef_lenL_2 m x_) k
 generalize s₁.setTop (entryFrame m #[(rr x_)] 1) = st0 at c0 ⊢
 replace c0 : Kt p e below s₁ st0 (mkF m 0 #[vr x_] []) := c0
 have c1 : Kt p e below s₁ st0 (mkF m 1 #[vr x_] [(rr x_)]) := fun t k => by
  refine c0 t ?_
  show S_ p e below s₁ m 0 #[vr x_] [] t
  refine XS.aloadN X0.here hx rfl (hb hby d19_0) rfl rfl ?_
  exact k
 obtain ⟨T2, X2, e2, c2⟩ := kget X0 hx hZ hown (host := "") (Or.inl (w22 hw)) Via.refl e0 F2_ c1 rfl rfl (hb hby d19_1)
 have c3 : Kt p e below T2 st0 (mkF m 6 #[vr x_] [(rr x_), (ii 2)]) := fun t k => by
  refine c2 t ?_
  show S_ p e below T2 m 4 #[vr x_] [(rr s_)] t
  refine ldLen X2 hx hZ e2 A3_ rfl rfl (hb hby d19_4) ?_
  show S_ p e below T2 m 5 #[vr x_] [(ii 2)] t
  refine XS.aloadN X2.here hx rfl (hb hby d19_5) rfl rfl ?_
  exact k
 obtain ⟨_, T4, L4, X4, hQ4, c4⟩ := kvirt X2 hx hZ hown (w33 hw) (w34 hw) (w36 hw) (w35 hw) (w37 hw) (w5 hw) (rm_codL l Z a0 hw [] x_ z_ h0 n0 O0 F1_ ZS4_ hz_) e2 E0_ c3 hml pd_prB [] [(ii 2)] 1 (hb hby d19_6) rfl rfl rfl rfl rfl rfl
 obtain ⟨rfl, N5q, K6⟩ := hQ4
 have N5 := Fr.app N0 N5q
 obtain ⟨fs, hr, hrun, hended, hW, hsame⟩ := X4.leave (v := some (ii 2)) (fun h => by rw [Bd.returns] at h; cases h)
 refine ⟨_, _, c4 _ ?_, hrun, hended, _, _, rfl, ?_, ⟨_, rfl⟩, hW, hsame.mono (by decide) (by decide)⟩
 ·show S_ p e below T4 m 9 #[vr x_] [(ii 0), (ii 2)] _
  refine XS.ishr X4.here hx rfl (hb hby d19_9) rfl ?_
  show S_ p e below T4 m 10 #[vr x_] [(ii 2)] _
  exact retOut X4 hx Bd.returns rfl (Or.inl ⟨rfl, Or.inl rfl, _, rfl⟩) (hb hby d19_10) hr
 ·show Q_lenL_2 Z x_ s_ ks_ vs_ z_ h0 n0 _ T4.heap _
  rw [K6]
  exact ⟨rfl, N5, rfl⟩
theorem ef_lenU_2 (m : MethodId) (x_ : Addr) : entryFrame m #[(rr x_)] 1 = mkF m 0 #[vr x_] [] := by first | (simp [entryFrame, mkF, argsToLocals, Value.category]; done) | rfl
def Q_lenU_2 (Z : State) (x_ : Addr) (s_ : Addr) (ks_ : ClassId) (vs_ : List Value) (z_ : Int32) (h0 : Heap) (n0 : Nat) (v : Option Value) (h : Heap) (L : List Loc) : Prop := v = some (ii 2) ∧ Fr n0 L ∧ h = h0
set_option maxRecDepth 65536 in
set_option maxHeartbeats 40000000 in
theorem rm_lenU_2 (l : Launch) (Z : State) (a0 : Array Value) (hw : HW Z a0) (ws : List Jvm.Cond) (x_ : Addr) (s_ : Addr) (ks_ : ClassId) (vs_ : List Value) (z_ : Int32) (h0 : Heap) (n0 : Nat) (O0 : Old Z n0 h0) (E0_ : Exa Z h0 x_ nm0) (F1_ : Fld Z h0 x_ nm0 "coder" "B" (ii 1)) (F2_ : Fld Z h0 x_ nm0 "value" "[B" (rr s_)) (A3_ : Arv Z h0 s_ ks_ .byte (4 : Int32) vs_ (ii 0)) (ZS4_ : Sta Z Z.heap nm0 "COMPACT_STRINGS" "Z" (.int z_)) (hz_ : ¬ (z_ = (0 : Int32))) :
  MFP l Z (⟨nm0, "length", "()I"⟩ : MethodName) jdk_42_method_54_code 1 (some .int) ({ frames := 1, cells := 0, slots := 0, locals := 13 } : Room) ws #[(rr x_)] h0 (Q_lenU_2 Z x_ s_ ks_ vs_ z_ h0 n0) := by
 refine MetFree.of_bodySF (plainFor_of_name pn_java_lang_String) hisR ?_
 intro p e s m args below meth c s₁ Bd hml0 hP hK
 obtain ⟨rfl, hZ, hh⟩ := hP
 have hx := Bd.exec
 have hby := Bd.bytes
 have hml : c.maxLocals = 1 := hml0
 have hown : s.vm.findClass nm0 = some m.cls := findClass_of_methodNamed Bd.named
 have hnm := (name_of_methodNamed Bd.named Bd.method).1
 have X0 : Stand p l e ({ frames := 1, cells := 0, slots := 0, locals := 13 } : Room) s m #[(rr x_)] below meth c s₁ [] 0 0 := Stand.of_body Bd
 have e0 : s₁.heap = h0 := by rw [← hh, Bd.state]; rfl
 have N0 := Fr.nil n0
 have kp0 : Keep h0 h0 [] := Keep.refl _ _
 have c0 : ∀ t, S_ p e below s₁ m 0 #[vr x_] [] t → Steps p.tables e below (s₁.setTop (entryFrame m #[(rr x_)] 1)) t := fun t k => castTop (ef_lenU_2 m x_) k
 generalize s₁.setTop (entryFrame m #[(rr x_)] 1) = st0 at c0 ⊢
 replace c0 : Kt p e below s₁ st0 (mkF m 0 #[vr x_] []) := c0
 have c1 : Kt p e below s₁ st0 (mkF m 1 #[vr x_] [(rr x_)]) := fun t k => by
  refine c0 t ?_
  show S_ p e below s₁ m 0 #[vr x_] [] t
  refine XS.aloadN X0.here hx rfl (hb hby d19_0) rfl rfl ?_
  exact k
 obtain ⟨T2, X2, e2, c2⟩ := kget X0 hx hZ hown (host := "") (Or.inl (w22 hw)) Via.refl e0 F2_ c1 rfl rfl (hb hby d19_1)
 have c3 : Kt p e below T2 st0 (mkF m 6 #[vr x_] [(rr x_), (ii 4)]) := fun t k => by
  refine c2 t ?_
  show S_ p e below T2 m 4 #[vr x_] [(rr s_)] t
  refine ldLen X2 hx hZ e2 A3_ rfl rfl (hb hby d19_4) ?_
  show S_ p e below T2 m 5 #[vr x_] [(ii 4)] t
  refine XS.aloadN X2.here hx rfl (hb hby d19_5) rfl rfl ?_
  exact k
 obtain ⟨_, T4, L4, X4, hQ4, c4⟩ := kvirt X2 hx hZ hown (w33 hw) (w34 hw) (w36 hw) (w35 hw) (w37 hw) (w5 hw) (rm_codU l Z a0 hw [] x_ z_ h0 n0 O0 F1_ ZS4_ hz_) e2 E0_ c3 hml pd_prB [] [(ii 4)] 1 (hb hby d19_6) rfl rfl rfl rfl rfl rfl
 obtain ⟨rfl, N5q, K6⟩ := hQ4
 have N5 := Fr.app N0 N5q
 obtain ⟨fs, hr, hrun, hended, hW, hsame⟩ := X4.leave (v := some (ii 2)) (fun h => by rw [Bd.returns] at h; cases h)
 refine ⟨_, _, c4 _ ?_, hrun, hended, _, _, rfl, ?_, ⟨_, rfl⟩, hW, hsame.mono (by decide) (by decide)⟩
 ·show S_ p e below T4 m 9 #[vr x_] [(ii 1), (ii 4)] _
  refine XS.ishr X4.here hx rfl (hb hby d19_9) rfl ?_
  show S_ p e below T4 m 10 #[vr x_] [(ii 2)] _
  exact retOut X4 hx Bd.returns rfl (Or.inl ⟨rfl, Or.inl rfl, _, rfl⟩) (hb hby d19_10) hr
 ·show Q_lenU_2 Z x_ s_ ks_ vs_ z_ h0 n0 _ T4.heap _
  rw [K6]
  exact ⟨rfl, N5, rfl⟩
theorem ef_cmp5a_3 (m : MethodId) (s_ : Addr) (d_ : Addr) : entryFrame m #[(rr s_), (ii 0), (rr d_), (ii 0), (ii 3)] 7 = mkF m 0 #[vr s_, vi 0, vr d_, vi 0, vi 3, u_, u_] [] := by first | (simp [entryFrame, mkF, argsToLocals, Value.category]; done) | rfl
def Q_cmp5a_3 (Z : State) (s_ : Addr) (ks_ : ClassId) (d_ : Addr) (kd_ : ClassId) (c0_ : Int32) (c1_ : Int32) (c2_ : Int32) (h0 : Heap) (n0 : Nat) (v : Option Value) (h : Heap) (L : List Loc) : Prop := (v = some (ii 3) ∧ Fr n0 L ∧ Keep h0 h [d_] ∧ Arv Z h d_ kd_ .byte (3 : Int32) [(.int (nar .byte (c0_.toInt8.toInt32))), (.int (nar .byte (c1_.toInt8.toInt32))), (.int (nar .byte (c2_.toInt8.toInt32)))] (ii 0) ∧ ¬ ((255 : Int32) < c0_) ∧ ¬ ((255 : Int32) < c1_) ∧ ¬ ((255 : Int32) < c2_)) ∨ (v = some (ii 0) ∧ Fr n0 L ∧ Keep h0 h [d_] ∧ (255 : Int32) < c0_) ∨ (v = some (ii 1) ∧ Fr n0 L ∧ Keep h0 h [d_] ∧ (255 : Int32) < c1_) ∨ (v = some (ii 2) ∧ Fr n0 L ∧ Keep h0 h [d_] ∧ (255 : Int32) < c2_)
set_option maxRecDepth 65536 in
set_option maxHeartbeats 40000000 in
theorem rm_cmp5a_3 (l : Launch) (Z : State) (a0 : Array Value) (hw : HW Z a0) (ws : List Jvm.Cond) (s_ : Addr) (ks_ : ClassId) (d_ : Addr) (kd_ : ClassId) (c0_ : Int32) (c1_ : Int32) (c2_ : Int32) (h0 : Heap) (n0 : Nat) (O0 : Old Z n0 h0) (A0_ : Arv Z h0 s_ ks_ .char (3 : Int32) [(.int c0_), (.int c1_), (.int c2_)] (ii 0)) (A1_ : Arv Z h0 d_ kd_ .byte (3 : Int32) [(ii 0), (ii 0), (ii 0)] (ii 0)) (G2_ : n0 ≤ d_) (NE3_ : s_ ≠ d_) :
  MFP l Z (⟨nm1, "compress", "([CI[BII)I"⟩ : MethodName) jdk_52_method_21_code 7 (some .int) ({ frames := 0, cells := 0, slots := 0, locals := 0 } : Room) ws #[(rr s_), (ii 0), (rr d_), (ii 0), (ii 3)] h0 (Q_cmp5a_3 Z s_ ks_ d_ kd_ c0_ c1_ c2_ h0 n0) := by
 refine MetFree.of_bodySF (plainFor_of_name pn_java_lang_StringUTF16) hisR ?_
 intro p e s m args below meth c s₁ Bd hml0 hP hK
 obtain ⟨rfl, hZ, hh⟩ := hP
 have hx := Bd.exec
 have hby := Bd.bytes
 have hml : c.maxLocals = 7 := hml0
 have hown : s.vm.findClass nm1 = some m.cls := findClass_of_methodNamed Bd.named
 have hnm := (name_of_methodNamed Bd.named Bd.method).1
 have X0 : Stand p l e ({ frames := 0, cells := 0, slots := 0, locals := 0 } : Room) s m #[(rr s_), (ii 0), (rr d_), (ii 0), (ii 3)] below meth c s₁ [] 0 0 := Stand.of_body Bd
 have e0 : s₁.heap = h0 := by rw [← hh, Bd.state]; rfl
 have N0 := Fr.nil n0
 have kp0 : Keep h0 h0 [d_] := Keep.refl _ _
 have c0 : ∀ t, S_ p e below s₁ m 0 #[vr s_, vi 0, vr d_, vi 0, vi 3, u_, u_] [] t → Steps p.tables e below (s₁.setTop (entryFrame m #[(rr s_), (ii 0), (rr d_), (ii 0), (ii 3)] 7)) t := fun t k => castTop (ef_cmp5a_3 m s_ d_) k
 generalize s₁.setTop (entryFrame m #[(rr s_), (ii 0), (rr d_), (ii 0), (ii 3)] 7) = st0 at c0 ⊢
 replace c0 : Kt p e below s₁ st0 (mkF m 0 #[vr s_, vi 0, vr d_, vi 0, vi 3, u_, u_] []) := c0
 have c1 : Kt p e below s₁ st0 (mkF m 20 #[vr s_, vi 0, vr d_, vi 0, vi 3, vi 0, vi c0_] [(ii 255), (.int c0_)]) := fun t k => by
  refine c0 t ?_
  show S_ p e below s₁ m 0 #[vr s_, vi 0, vr d_, vi 0, vi 3, u_, u_] [] t
  refine XS.iconst X0.here hx rfl (hb hby d5_0) ?_
  show S_ p e below s₁ m 1 #[vr s_, vi 0, vr d_, vi 0, vi 3, u_, u_] [(ii 0)] t
  refine XS.istore X0.here hx rfl (hb hby d5_1) rfl (l' := #[vr s_, vi 0, vr d_, vi 0, vi 3, vi 0, u_]) rfl ?_
  show S_ p e below s₁ m 3 #[vr s_, vi 0, vr d_, vi 0, vi 3, vi 0, u_] [] t
  refine XS.iload X0.here hx rfl (hb hby d5_3) rfl ?_
  show S_ p e below s₁ m 5 #[vr s_, vi 0, vr d_, vi 0, vi 3, vi 0, u_] [(ii 0)] t
  refine XS.iload X0.here hx rfl (hb hby d5_5) rfl ?_
  show S_ p e below s₁ m 7 #[vr s_, vi 0, vr d_, vi 0, vi 3, vi 0, u_] [(ii 3), (ii 0)] t
  refine XS.icmpNo X0.here hx rfl (hb hby d5_7) rfl rfl ?_
  show S_ p e below s₁ m 10 #[vr s_, vi 0, vr d_, vi 0, vi 3, vi 0, u_] [] t
  refine XS.aloadN X0.here hx rfl (hb hby d5_10) rfl rfl ?_
  show S_ p e below s₁ m 11 #[vr s_, vi 0, vr d_, vi 0, vi 3, vi 0, u_] [(rr s_)] t
  refine XS.iloadN X0.here hx rfl (hb hby d5_11) rfl ?_
  show S_ p e below s₁ m 12 #[vr s_, vi 0, vr d_, vi 0, vi 3, vi 0, u_] [(ii 0), (rr s_)] t
  refine ldC X0 hx hZ e0 A0_ (v := (.int c0_)) (by decide) (by decide) rfl rfl rfl (hb hby d5_12) ?_
  show S_ p e below s₁ m 13 #[vr s_, vi 0, vr d_, vi 0, vi 3, vi 0, u_] [(.int c0_)] t
  refine XS.istore X0.here hx rfl (hb hby d5_13) rfl (l' := #[vr s_, vi 0, vr d_, vi 0, vi 3, vi 0, vi c0_]) rfl ?_
  show S_ p e below s₁ m 15 #[vr s_, vi 0, vr d_, vi 0, vi 3, vi 0, vi c0_] [] t
  refine XS.iload X0.here hx rfl (hb hby d5_15) rfl ?_
  show S_ p e below s₁ m 17 #[vr s_, vi 0, vr d_, vi 0, vi 3, vi 0, vi c0_] [(.int c0_)] t
  refine XS.sipush X0.here hx rfl (hb hby d5_17) ?_
  exact k
 by_cases hc2 : (255 : Int32) < c0_
 ·obtain ⟨fs, hr, hrun, hended, hW, hsame⟩ := X0.leave (v := some (ii 0)) (fun h => by rw [Bd.returns] at h; cases h)
  refine ⟨_, _, c1 _ ?_, hrun, hended, _, _, rfl, ?_, ⟨_, rfl⟩, hW, hsame.mono (by decide) (by decide)⟩
  ·show S_ p e below s₁ m 20 #[vr s_, vi 0, vr d_, vi 0, vi 3, vi 0, vi c0_] [(ii 255), (.int c0_)] _
   refine XS.icmpNo X0.here hx rfl (hb hby d5_20) rfl (tlt hc2).2.2.2 ?_
   show S_ p e below s₁ m 23 #[vr s_, vi 0, vr d_, vi 0, vi 3, vi 0, vi c0_] [] _
   refine XS.iload X0.here hx rfl (hb hby d5_23) rfl ?_
   show S_ p e below s₁ m 25 #[vr s_, vi 0, vr d_, vi 0, vi 3, vi 0, vi c0_] [(ii 0)] _
   exact retOut X0 hx Bd.returns rfl (Or.inl ⟨rfl, Or.inl rfl, _, rfl⟩) (hb hby d5_25) hr
  ·show Q_cmp5a_3 Z s_ ks_ d_ kd_ c0_ c1_ c2_ h0 n0 _ s₁.heap _
   rw [e0]
   exact (Or.inr (Or.inl ⟨rfl, N0, kp0, hc2⟩))
 ·have c3 : Kt p e below s₁ st0 (mkF m 31 #[vr s_, vi 0, vr d_, vi 0, vi 3, vi 0, vi c0_] [(.int (c0_.toInt8.toInt32)), (ii 0), (rr d_)]) := fun t k => by
   refine c1 t ?_
   show S_ p e below s₁ m 20 #[vr s_, vi 0, vr d_, vi 0, vi 3, vi 0, vi c0_] [(ii 255), (.int c0_)] t
   refine yC X0.here hx rfl 20 26 rfl (hb hby d5_20) rfl (flt hc2).2.2.2 ?_
   show S_ p e below s₁ m 26 #[vr s_, vi 0, vr d_, vi 0, vi 3, vi 0, vi c0_] [] t
   refine XS.aloadN X0.here hx rfl (hb hby d5_26) rfl rfl ?_
   show S_ p e below s₁ m 27 #[vr s_, vi 0, vr d_, vi 0, vi 3, vi 0, vi c0_] [(rr d_)] t
   refine XS.iloadN X0.here hx rfl (hb hby d5_27) rfl ?_
   show S_ p e below s₁ m 28 #[vr s_, vi 0, vr d_, vi 0, vi 3, vi 0, vi c0_] [(ii 0), (rr d_)] t
   refine XS.iload X0.here hx rfl (hb hby d5_28) rfl ?_
   show S_ p e below s₁ m 30 #[vr s_, vi 0, vr d_, vi 0, vi 3, vi 0, vi c0_] [(.int c0_), (ii 0), (rr d_)] t
   refine XS.i2b X0.here hx rfl (hb hby d5_30) rfl ?_
   exact k
  obtain ⟨T4, h4, X4, e4, W4, f7, o5, N6, c4⟩ := kstB X0 hx hZ e0 A1_ (j := (0 : Int32)) (by decide) (by decide) 0 rfl (Nat.le_of_ble_eq_true rfl) c3 rfl rfl (hb hby d5_31) O0 N0 G2_
  have f8 : Arv Z h4 d_ kd_ .byte (3 : Int32) [(.int (nar .byte (c0_.toInt8.toInt32))), (ii 0), (ii 0)] (ii 0) := f7
  have kp9 := kp0.wr W4 (Or.inl (List.mem_of_getElem? (i := 0) rfl))
  have c10 : Kt p e below T4 st0 (mkF m 20 #[vr s_, vi 1, vr d_, vi 1, vi 3, vi 1, vi c1_] [(ii 255), (.int c1_)]) := fun t k => by
   refine c4 t ?_
   show S_ p e below T4 m 32 #[vr s_, vi 0, vr d_, vi 0, vi 3, vi 0, vi c0_] [] t
   refine XS.iinc X4.here hx rfl (hb hby d5_32) rfl (l' := #[vr s_, vi 1, vr d_, vi 0, vi 3, vi 0, vi c0_]) rfl ?_
   show S_ p e below T4 m 35 #[vr s_, vi 1, vr d_, vi 0, vi 3, vi 0, vi c0_] [] t
   refine XS.iinc X4.here hx rfl (hb hby d5_35) rfl (l' := #[vr s_, vi 1, vr d_, vi 1, vi 3, vi 0, vi c0_]) rfl ?_
   show S_ p e below T4 m 38 #[vr s_, vi 1, vr d_, vi 1, vi 3, vi 0, vi c0_] [] t
   refine XS.iinc X4.here hx rfl (hb hby d5_38) rfl (l' := #[vr s_, vi 1, vr d_, vi 1, vi 3, vi 1, vi c0_]) rfl ?_
   show S_ p e below T4 m 41 #[vr s_, vi 1, vr d_, vi 1, vi 3, vi 1, vi c0_] [] t
   refine yG X4.here hx rfl 41 3 rfl (hb hby d5_41) ?_
   show S_ p e below T4 m 3 #[vr s_, vi 1, vr d_, vi 1, vi 3, vi 1, vi c0_] [] t
   refine XS.iload X4.here hx rfl (hb hby d5_3) rfl ?_
   show S_ p e below T4 m 5 #[vr s_, vi 1, vr d_, vi 1, vi 3, vi 1, vi c0_] [(ii 1)] t
   refine XS.iload X4.here hx rfl (hb hby d5_5) rfl ?_
   show S_ p e below T4 m 7 #[vr s_, vi 1, vr d_, vi 1, vi 3, vi 1, vi c0_] [(ii 3), (ii 1)] t
   refine XS.icmpNo X4.here hx rfl (hb hby d5_7) rfl rfl ?_
   show S_ p e below T4 m 10 #[vr s_, vi 1, vr d_, vi 1, vi 3, vi 1, vi c0_] [] t
   refine XS.aloadN X4.here hx rfl (hb hby d5_10) rfl rfl ?_
   show S_ p e below T4 m 11 #[vr s_, vi 1, vr d_, vi 1, vi 3, vi 1, vi c0_] [(rr s_)] t
   refine XS.iloadN X4.here hx rfl (hb hby d5_11) rfl ?_
   show S_ p e below T4 m 12 #[vr s_, vi 1, vr d_, vi 1, vi 3, vi 1, vi c0_] [(ii 1), (rr s_)] t
   refine ldC X4 hx hZ e4 (A0_.other W4 NE3_) (v := (.int c1_)) (by decide) (by decide) rfl rfl rfl (hb hby d5_12) ?_
   show S_ p e below T4 m 13 #[vr s_, vi 1, vr d_, vi 1, vi 3, vi 1, vi c0_] [(.int c1_)] t
   refine XS.istore X4.here hx rfl (hb hby d5_13) rfl (l' := #[vr s_, vi 1, vr d_, vi 1, vi 3, vi 1, vi c1_]) rfl ?_
   show S_ p e below T4 m 15 #[vr s_, vi 1, vr d_, vi 1, vi 3, vi 1, vi c1_] [] t
   refine XS.iload X4.here hx rfl (hb hby d5_15) rfl ?_
   show S_ p e below T4 m 17 #[vr s_, vi 1, vr d_, vi 1, vi 3, vi 1, vi c1_] [(.int c1_)] t
   refine XS.sipush X4.here hx rfl (hb hby d5_17) ?_
   exact k
  by_cases hc11 : (255 : Int32) < c1_
  ·obtain ⟨fs, hr, hrun, hended, hW, hsame⟩ := X4.leave (v := some (ii 1)) (fun h => by rw [Bd.returns] at h; cases h)
   refine ⟨_, _, c10 _ ?_, hrun, hended, _, _, rfl, ?_, ⟨_, rfl⟩, hW, hsame.mono (by decide) (by decide)⟩
   ·show S_ p e below T4 m 20 #[vr s_, vi 1, vr d_, vi 1, vi 3, vi 1, vi c1_] [(ii 255), (.int c1_)] _
    refine XS.icmpNo X4.here hx rfl (hb hby d5_20) rfl (tlt hc11).2.2.2 ?_
    show S_ p e below T4 m 23 #[vr s_, vi 1, vr d_, vi 1, vi 3, vi 1, vi c1_] [] _
    refine XS.iload X4.here hx rfl (hb hby d5_23) rfl ?_
    show S_ p e below T4 m 25 #[vr s_, vi 1, vr d_, vi 1, vi 3, vi 1, vi c1_] [(ii 1)] _
    exact retOut X4 hx Bd.returns rfl (Or.inl ⟨rfl, Or.inl rfl, _, rfl⟩) (hb hby d5_25) hr
   ·show Q_cmp5a_3 Z s_ ks_ d_ kd_ c0_ c1_ c2_ h0 n0 _ T4.heap _
    rw [e4]
    exact (Or.inr (Or.inr (Or.inl ⟨rfl, N6, kp9, hc11⟩)))
  ·have c12 : Kt p e below T4 st0 (mkF m 31 #[vr s_, vi 1, vr d_, vi 1, vi 3, vi 1, vi c1_] [(.int (c1_.toInt8.toInt32)), (ii 1), (rr d_)]) := fun t k => by
    refine c10 t ?_
    show S_ p e below T4 m 20 #[vr s_, vi 1, vr d_, vi 1, vi 3, vi 1, vi c1_] [(ii 255), (.int c1_)] t
    refine yC X4.here hx rfl 20 26 rfl (hb hby d5_20) rfl (flt hc11).2.2.2 ?_
    show S_ p e below T4 m 26 #[vr s_, vi 1, vr d_, vi 1, vi 3, vi 1, vi c1_] [] t
    refine XS.aloadN X4.here hx rfl (hb hby d5_26) rfl rfl ?_
    show S_ p e below T4 m 27 #[vr s_, vi 1, vr d_, vi 1, vi 3, vi 1, vi c1_] [(rr d_)] t
    refine XS.iloadN X4.here hx rfl (hb hby d5_27) rfl ?_
    show S_ p e below T4 m 28 #[vr s_, vi 1, vr d_, vi 1, vi 3, vi 1, vi c1_] [(ii 1), (rr d_)] t
    refine XS.iload X4.here hx rfl (hb hby d5_28) rfl ?_
    show S_ p e below T4 m 30 #[vr s_, vi 1, vr d_, vi 1, vi 3, vi 1, vi c1_] [(.int c1_), (ii 1), (rr d_)] t
    refine XS.i2b X4.here hx rfl (hb hby d5_30) rfl ?_
    exact k
   obtain ⟨T13, h13, X13, e13, W13, f16, o14, N15, c13⟩ := kstB X4 hx hZ e4 f8 (j := (1 : Int32)) (by decide) (by decide) 1 rfl (Nat.le_of_ble_eq_true rfl) c12 rfl rfl (hb hby d5_31) o5 N6 G2_
   have f17 : Arv Z h13 d_ kd_ .byte (3 : Int32) [(.int (nar .byte (c0_.toInt8.toInt32))), (.int (nar .byte (c1_.toInt8.toInt32))), (ii 0)] (ii 0) := f16
   have kp18 := kp9.wr W13 (Or.inl (List.mem_of_getElem? (i := 0) rfl))
   have c19 : Kt p e below T13 st0 (mkF m 20 #[vr s_, vi 2, vr d_, vi 2, vi 3, vi 2, vi c2_] [(ii 255), (.int c2_)]) := fun t k => by
    refine c13 t ?_
    show S_ p e below T13 m 32 #[vr s_, vi 1, vr d_, vi 1, vi 3, vi 1, vi c1_] [] t
    refine XS.iinc X13.here hx rfl (hb hby d5_32) rfl (l' := #[vr s_, vi 2, vr d_, vi 1, vi 3, vi 1, vi c1_]) rfl ?_
    show S_ p e below T13 m 35 #[vr s_, vi 2, vr d_, vi 1, vi 3, vi 1, vi c1_] [] t
    refine XS.iinc X13.here hx rfl (hb hby d5_35) rfl (l' := #[vr s_, vi 2, vr d_, vi 2, vi 3, vi 1, vi c1_]) rfl ?_
    show S_ p e below T13 m 38 #[vr s_, vi 2, vr d_, vi 2, vi 3, vi 1, vi c1_] [] t
    refine XS.iinc X13.here hx rfl (hb hby d5_38) rfl (l' := #[vr s_, vi 2, vr d_, vi 2, vi 3, vi 2, vi c1_]) rfl ?_
    show S_ p e below T13 m 41 #[vr s_, vi 2, vr d_, vi 2, vi 3, vi 2, vi c1_] [] t
    refine yG X13.here hx rfl 41 3 rfl (hb hby d5_41) ?_
    show S_ p e below T13 m 3 #[vr s_, vi 2, vr d_, vi 2, vi 3, vi 2, vi c1_] [] t
    refine XS.iload X13.here hx rfl (hb hby d5_3) rfl ?_
    show S_ p e below T13 m 5 #[vr s_, vi 2, vr d_, vi 2, vi 3, vi 2, vi c1_] [(ii 2)] t
    refine XS.iload X13.here hx rfl (hb hby d5_5) rfl ?_
    show S_ p e below T13 m 7 #[vr s_, vi 2, vr d_, vi 2, vi 3, vi 2, vi c1_] [(ii 3), (ii 2)] t
    refine XS.icmpNo X13.here hx rfl (hb hby d5_7) rfl rfl ?_
    show S_ p e below T13 m 10 #[vr s_, vi 2, vr d_, vi 2, vi 3, vi 2, vi c1_] [] t
    refine XS.aloadN X13.here hx rfl (hb hby d5_10) rfl rfl ?_
    show S_ p e below T13 m 11 #[vr s_, vi 2, vr d_, vi 2, vi 3, vi 2, vi c1_] [(rr s_)] t
    refine XS.iloadN X13.here hx rfl (hb hby d5_11) rfl ?_
    show S_ p e below T13 m 12 #[vr s_, vi 2, vr d_, vi 2, vi 3, vi 2, vi c1_] [(ii 2), (rr s_)] t
    refine ldC X13 hx hZ e13 ((A0_.other W4 NE3_).other W13 NE3_) (v := (.int c2_)) (by decide) (by decide) rfl rfl rfl (hb hby d5_12) ?_
    show S_ p e below T13 m 13 #[vr s_, vi 2, vr d_, vi 2, vi 3, vi 2, vi c1_] [(.int c2_)] t
    refine XS.istore X13.here hx rfl (hb hby d5_13) rfl (l' := #[vr s_, vi 2, vr d_, vi 2, vi 3, vi 2, vi c2_]) rfl ?_
    show S_ p e below T13 m 15 #[vr s_, vi 2, vr d_, vi 2, vi 3, vi 2, vi c2_] [] t
    refine XS.iload X13.here hx rfl (hb hby d5_15) rfl ?_
    show S_ p e below T13 m 17 #[vr s_, vi 2, vr d_, vi 2, vi 3, vi 2, vi c2_] [(.int c2_)] t
    refine XS.sipush X13.here hx rfl (hb hby d5_17) ?_
    exact k
   by_cases hc20 : (255 : Int32) < c2_
   ·obtain ⟨fs, hr, hrun, hended, hW, hsame⟩ := X13.leave (v := some (ii 2)) (fun h => by rw [Bd.returns] at h; cases h)
    refine ⟨_, _, c19 _ ?_, hrun, hended, _, _, rfl, ?_, ⟨_, rfl⟩, hW, hsame.mono (by decide) (by decide)⟩
    ·show S_ p e below T13 m 20 #[vr s_, vi 2, vr d_, vi 2, vi 3, vi 2, vi c2_] [(ii 255), (.int c2_)] _
     refine XS.icmpNo X13.here hx rfl (hb hby d5_20) rfl (tlt hc20).2.2.2 ?_
     show S_ p e below T13 m 23 #[vr s_, vi 2, vr d_, vi 2, vi 3, vi 2, vi c2_] [] _
     refine XS.iload X13.here hx rfl (hb hby d5_23) rfl ?_
     show S_ p e below T13 m 25 #[vr s_, vi 2, vr d_, vi 2, vi 3, vi 2, vi c2_] [(ii 2)] _
     exact retOut X13 hx Bd.returns rfl (Or.inl ⟨rfl, Or.inl rfl, _, rfl⟩) (hb hby d5_25) hr
    ·show Q_cmp5a_3 Z s_ ks_ d_ kd_ c0_ c1_ c2_ h0 n0 _ T13.heap _
     rw [e13]
     exact (Or.inr (Or.inr (Or.inr (⟨rfl, N15, kp18, hc20⟩))))
   ·have c21 : Kt p e below T13 st0 (mkF m 31 #[vr s_, vi 2, vr d_, vi 2, vi 3, vi 2, vi c2_] [(.int (c2_.toInt8.toInt32)), (ii 2), (rr d_)]) := fun t k => by
     refine c19 t ?_
     show S_ p e below T13 m 20 #[vr s_, vi 2, vr d_, vi 2, vi 3, vi 2, vi c2_] [(ii 255), (.int c2_)] t
     refine yC X13.here hx rfl 20 26 rfl (hb hby d5_20) rfl (flt hc20).2.2.2 ?_
     show S_ p e below T13 m 26 #[vr s_, vi 2, vr d_, vi 2, vi 3, vi 2, vi c2_] [] t
     refine XS.aloadN X13.here hx rfl (hb hby d5_26) rfl rfl ?_
     show S_ p e below T13 m 27 #[vr s_, vi 2, vr d_, vi 2, vi 3, vi 2, vi c2_] [(rr d_)] t
     refine XS.iloadN X13.here hx rfl (hb hby d5_27) rfl ?_
     show S_ p e below T13 m 28 #[vr s_, vi 2, vr d_, vi 2, vi 3, vi 2, vi c2_] [(ii 2), (rr d_)] t
     refine XS.iload X13.here hx rfl (hb hby d5_28) rfl ?_
     show S_ p e below T13 m 30 #[vr s_, vi 2, vr d_, vi 2, vi 3, vi 2, vi c2_] [(.int c2_), (ii 2), (rr d_)] t
     refine XS.i2b X13.here hx rfl (hb hby d5_30) rfl ?_
     exact k
    obtain ⟨T22, h22, X22, e22, W22, f25, o23, N24, c22⟩ := kstB X13 hx hZ e13 f17 (j := (2 : Int32)) (by decide) (by decide) 2 rfl (Nat.le_of_ble_eq_true rfl) c21 rfl rfl (hb hby d5_31) o14 N15 G2_
    have f26 : Arv Z h22 d_ kd_ .byte (3 : Int32) [(.int (nar .byte (c0_.toInt8.toInt32))), (.int (nar .byte (c1_.toInt8.toInt32))), (.int (nar .byte (c2_.toInt8.toInt32)))] (ii 0) := f25
    have kp27 := kp18.wr W22 (Or.inl (List.mem_of_getElem? (i := 0) rfl))
    obtain ⟨fs, hr, hrun, hended, hW, hsame⟩ := X22.leave (v := some (ii 3)) (fun h => by rw [Bd.returns] at h; cases h)
    refine ⟨_, _, c22 _ ?_, hrun, hended, _, _, rfl, ?_, ⟨_, rfl⟩, hW, hsame.mono (by decide) (by decide)⟩
    ·show S_ p e below T22 m 32 #[vr s_, vi 2, vr d_, vi 2, vi 3, vi 2, vi c2_] [] _
     refine XS.iinc X22.here hx rfl (hb hby d5_32) rfl (l' := #[vr s_, vi 3, vr d_, vi 2, vi 3, vi 2, vi c2_]) rfl ?_
     show S_ p e below T22 m 35 #[vr s_, vi 3, vr d_, vi 2, vi 3, vi 2, vi c2_] [] _
     refine XS.iinc X22.here hx rfl (hb hby d5_35) rfl (l' := #[vr s_, vi 3, vr d_, vi 3, vi 3, vi 2, vi c2_]) rfl ?_
     show S_ p e below T22 m 38 #[vr s_, vi 3, vr d_, vi 3, vi 3, vi 2, vi c2_] [] _
     refine XS.iinc X22.here hx rfl (hb hby d5_38) rfl (l' := #[vr s_, vi 3, vr d_, vi 3, vi 3, vi 3, vi c2_]) rfl ?_
     show S_ p e below T22 m 41 #[vr s_, vi 3, vr d_, vi 3, vi 3, vi 3, vi c2_] [] _
     refine yG X22.here hx rfl 41 3 rfl (hb hby d5_41) ?_
     show S_ p e below T22 m 3 #[vr s_, vi 3, vr d_, vi 3, vi 3, vi 3, vi c2_] [] _
     refine XS.iload X22.here hx rfl (hb hby d5_3) rfl ?_
     show S_ p e below T22 m 5 #[vr s_, vi 3, vr d_, vi 3, vi 3, vi 3, vi c2_] [(ii 3)] _
     refine XS.iload X22.here hx rfl (hb hby d5_5) rfl ?_
     show S_ p e below T22 m 7 #[vr s_, vi 3, vr d_, vi 3, vi 3, vi 3, vi c2_] [(ii 3), (ii 3)] _
     refine yC X22.here hx rfl 7 44 rfl (hb hby d5_7) rfl rfl ?_
     show S_ p e below T22 m 44 #[vr s_, vi 3, vr d_, vi 3, vi 3, vi 3, vi c2_] [] _
     refine XS.iload X22.here hx rfl (hb hby d5_44) rfl ?_
     show S_ p e below T22 m 46 #[vr s_, vi 3, vr d_, vi 3, vi 3, vi 3, vi c2_] [(ii 3)] _
     exact retOut X22 hx Bd.returns rfl (Or.inl ⟨rfl, Or.inl rfl, _, rfl⟩) (hb hby d5_46) hr
    ·show Q_cmp5a_3 Z s_ ks_ d_ kd_ c0_ c1_ c2_ h0 n0 _ T22.heap _
     rw [e22]
     exact (Or.inl ⟨rfl, N24, kp27, f26, hc2, hc11, hc20⟩)
theorem ef_nbl_3 (m : MethodId) : entryFrame m #[(ii 3)] 1 = mkF m 0 #[vi 3] [] := by first | (simp [entryFrame, mkF, argsToLocals, Value.category]; done) | rfl
def Q_nbl_3 (Z : State) (h0 : Heap) (n0 : Nat) (v : Option Value) (h : Heap) (L : List Loc) : Prop := v = some (ii 6) ∧ Fr n0 L ∧ h = h0
set_option maxRecDepth 65536 in
set_option maxHeartbeats 40000000 in
theorem rm_nbl_3 (l : Launch) (Z : State) (a0 : Array Value) (hw : HW Z a0) (ws : List Jvm.Cond) (h0 : Heap) (n0 : Nat) (O0 : Old Z n0 h0) :
  MFP l Z (⟨nm1, "newBytesLength", "(I)I"⟩ : MethodName) jdk_52_method_3_code 1 (some .int) ({ frames := 0, cells := 0, slots := 0, locals := 0 } : Room) ws #[(ii 3)] h0 (Q_nbl_3 Z h0 n0) := by
 refine MetFree.of_bodySF (plainFor_of_name pn_java_lang_StringUTF16) hisR ?_
 intro p e s m args below meth c s₁ Bd hml0 hP hK
 obtain ⟨rfl, hZ, hh⟩ := hP
 have hx := Bd.exec
 have hby := Bd.bytes
 have hml : c.maxLocals = 1 := hml0
 have hown : s.vm.findClass nm1 = some m.cls := findClass_of_methodNamed Bd.named
 have hnm := (name_of_methodNamed Bd.named Bd.method).1
 have X0 : Stand p l e ({ frames := 0, cells := 0, slots := 0, locals := 0 } : Room) s m #[(ii 3)] below meth c s₁ [] 0 0 := Stand.of_body Bd
 have e0 : s₁.heap = h0 := by rw [← hh, Bd.state]; rfl
 have N0 := Fr.nil n0
 have kp0 : Keep h0 h0 [] := Keep.refl _ _
 have c0 : ∀ t, S_ p e below s₁ m 0 #[vi 3] [] t → Steps p.tables e below (s₁.setTop (entryFrame m #[(ii 3)] 1)) t := fun t k => castTop (ef_nbl_3 m) k
 generalize s₁.setTop (entryFrame m #[(ii 3)] 1) = st0 at c0 ⊢
 replace c0 : Kt p e below s₁ st0 (mkF m 0 #[vi 3] []) := c0
 obtain ⟨fs, hr, hrun, hended, hW, hsame⟩ := X0.leave (v := some (ii 6)) (fun h => by rw [Bd.returns] at h; cases h)
 refine ⟨_, _, c0 _ ?_, hrun, hended, _, _, rfl, ?_, ⟨_, rfl⟩, hW, hsame.mono (by decide) (by decide)⟩
 ·show S_ p e below s₁ m 0 #[vi 3] [] _
  refine XS.iloadN X0.here hx rfl (hb hby d6_0) rfl ?_
  show S_ p e below s₁ m 1 #[vi 3] [(ii 3)] _
  refine yI X0.here hx rfl 1 12 rfl (hb hby d6_1) rfl rfl ?_
  show S_ p e below s₁ m 12 #[vi 3] [] _
  refine XS.iloadN X0.here hx rfl (hb hby d6_12) rfl ?_
  show S_ p e below s₁ m 13 #[vi 3] [(ii 3)] _
  refine X0.ldcInt hx hown (mvT hZ (w80 hw)) (g := (mkF m 13 #[vi 3] [(ii 3)])) rfl (hb hby d6_13) _ ?_
  show S_ p e below s₁ m 15 #[vi 3] [(ii 1073741823), (ii 3)] _
  refine yC X0.here hx rfl 15 55 rfl (hb hby d6_15) rfl rfl ?_
  show S_ p e below s₁ m 55 #[vi 3] [] _
  refine XS.iloadN X0.here hx rfl (hb hby d6_55) rfl ?_
  show S_ p e below s₁ m 56 #[vi 3] [(ii 3)] _
  refine XS.iconst X0.here hx rfl (hb hby d6_56) ?_
  show S_ p e below s₁ m 57 #[vi 3] [(ii 1), (ii 3)] _
  refine XS.ishl X0.here hx rfl (hb hby d6_57) rfl ?_
  show S_ p e below s₁ m 58 #[vi 3] [(ii 6)] _
  exact retOut X0 hx Bd.returns rfl (Or.inl ⟨rfl, Or.inl rfl, _, rfl⟩) (hb hby d6_58) hr
 ·show Q_nbl_3 Z h0 n0 _ s₁.heap _
  rw [e0]
  exact ⟨rfl, N0, rfl⟩
theorem ef_nbf_3 (m : MethodId) : entryFrame m #[(ii 3)] 1 = mkF m 0 #[vi 3] [] := by first | (simp [entryFrame, mkF, argsToLocals, Value.category]; done) | rfl
def Q_nbf_3 (Z : State) (h0 : Heap) (n0 : Nat) (v : Option Value) (h : Heap) (L : List Loc) : Prop := ∃ (b_ : Addr), ∃ (kb_ : ClassId), v = some (rr b_) ∧ Fr n0 L ∧ Keep h0 h [] ∧ Arv Z h b_ kb_ .byte (6 : Int32) [(ii 0), (ii 0), (ii 0), (ii 0), (ii 0), (ii 0)] (ii 0) ∧ n0 ≤ b_ ∧ h0.size ≤ b_
set_option maxRecDepth 65536 in
set_option maxHeartbeats 40000000 in
theorem rm_nbf_3 (l : Launch) (Z : State) (a0 : Array Value) (hw : HW Z a0) (ws : List Jvm.Cond) (h0 : Heap) (n0 : Nat) (O0 : Old Z n0 h0) :
  MFP l Z (⟨nm1, "newBytesFor", "(I)[B"⟩ : MethodName) jdk_52_method_2_code 1 (some (.array .byte)) ({ frames := 1, cells := 1, slots := 6, locals := 12 } : Room) ws #[(ii 3)] h0 (Q_nbf_3 Z h0 n0) := by
 refine MetFree.of_bodySF (plainFor_of_name pn_java_lang_StringUTF16) hisR ?_
 intro p e s m args below meth c s₁ Bd hml0 hP hK
 obtain ⟨rfl, hZ, hh⟩ := hP
 have hx := Bd.exec
 have hby := Bd.bytes
 have hml : c.maxLocals = 1 := hml0
 have hown : s.vm.findClass nm1 = some m.cls := findClass_of_methodNamed Bd.named
 have hnm := (name_of_methodNamed Bd.named Bd.method).1
 have X0 : Stand p l e ({ frames := 1, cells := 1, slots := 6, locals := 12 } : Room) s m #[(ii 3)] below meth c s₁ [] 0 0 := Stand.of_body Bd
 have e0 : s₁.heap = h0 := by rw [← hh, Bd.state]; rfl
 have N0 := Fr.nil n0
 have kp0 : Keep h0 h0 [] := Keep.refl _ _
 have c0 : ∀ t, S_ p e below s₁ m 0 #[vi 3] [] t → Steps p.tables e below (s₁.setTop (entryFrame m #[(ii 3)] 1)) t := fun t k => castTop (ef_nbf_3 m) k
 generalize s₁.setTop (entryFrame m #[(ii 3)] 1) = st0 at c0 ⊢
 replace c0 : Kt p e below s₁ st0 (mkF m 0 #[vi 3] []) := c0
 have c1 : Kt p e below s₁ st0 (mkF m 1 #[vi 3] [(ii 3)]) := fun t k => by
  refine c0 t ?_
  show S_ p e below s₁ m 0 #[vi 3] [] t
  refine XS.iloadN X0.here hx rfl (hb hby d7_0) rfl ?_
  exact k
 obtain ⟨_, T2, L2, X2, hQ2, c2⟩ := kstat X0 hx hZ hown (w77 hw) (w78 hw) (w41 hw) (w79 hw) (rm_nbl_3 l Z a0 hw []  h0 n0 O0 ) e0 c1 hml pd_pIrI [(ii 3)] [] 0 (hb hby d7_1) rfl rfl rfl rfl rfl rfl
 obtain ⟨rfl, N3q, K4⟩ := hQ2
 have N3 := Fr.app N0 N3q
 obtain ⟨b5, T5, h5, k5, z5, g5, X5, e5, E5, o6, A5, c5⟩ := knewP (aty := .byte) X2 hx hZ (w17 hw) K4 c2 rfl (hb hby d7_4) rfl (by decide) 6 (by decide) (by decide) (by decide) (by decide) O0
 have kp8 := kp0.ext E5
 have z9 := Nat.le_trans kp0.1 z5
 have f7 : Arv Z h5 b5 k5 .byte (6 : Int32) [(ii 0), (ii 0), (ii 0), (ii 0), (ii 0), (ii 0)] (ii 0) := A5.pad (pad_rep [] (ii 0) 6)
 obtain ⟨fs, hr, hrun, hended, hW, hsame⟩ := X5.leave (v := some (rr b5)) (fun h => by rw [Bd.returns] at h; cases h)
 refine ⟨_, _, c5 _ ?_, hrun, hended, _, _, rfl, ?_, ⟨_, rfl⟩, hW, hsame.mono (by decide) (by decide)⟩
 ·show S_ p e below T5 m 6 #[vi 3] [(rr b5)] _
  exact retOut X5 hx Bd.returns rfl (Or.inr (Or.inr (Or.inr (Or.inr ⟨rfl, rfl, rfl⟩)))) (hb hby d7_6) hr
 ·show Q_nbf_3 Z h0 n0 _ T5.heap _
  rw [e5]
  exact ⟨b5, k5, rfl, N3, kp8, f7, g5, z9⟩
theorem ef_tob_3 (m : MethodId) (s_ : Addr) : entryFrame m #[(rr s_), (ii 0), (ii 3)] 5 = mkF m 0 #[vr s_, vi 0, vi 3, u_, u_] [] := by first | (simp [entryFrame, mkF, argsToLocals, Value.category]; done) | rfl
def Q_tob_3 (Z : State) (s_ : Addr) (ks_ : ClassId) (c0_ : Int32) (c1_ : Int32) (c2_ : Int32) (h0 : Heap) (n0 : Nat) (v : Option Value) (h : Heap) (L : List Loc) : Prop := ∃ (b_ : Addr), ∃ (kb_ : ClassId), v = some (rr b_) ∧ Fr n0 L ∧ Keep h0 h [] ∧ Arv Z h b_ kb_ .byte (6 : Int32) [(.int (nar .byte ((c0_ >>> ((0 : Int32) &&& 31)).toInt8.toInt32))), (.int (nar .byte ((c0_ >>> ((8 : Int32) &&& 31)).toInt8.toInt32))), (.int (nar .byte ((c1_ >>> ((0 : Int32) &&& 31)).toInt8.toInt32))), (.int (nar .byte ((c1_ >>> ((8 : Int32) &&& 31)).toInt8.toInt32))), (.int (nar .byte ((c2_ >>> ((0 : Int32) &&& 31)).toInt8.toInt32))), (.int (nar .byte ((c2_ >>> ((8 : Int32) &&& 31)).toInt8.toInt32)))] (ii 0) ∧ n0 ≤ b_ ∧ h0.size ≤ b_
set_option maxRecDepth 65536 in
set_option maxHeartbeats 40000000 in
theorem rm_tob_3 (l : Launch) (Z : State) (a0 : Array Value) (hw : HW Z a0) (ws : List Jvm.Cond) (s_ : Addr) (ks_ : ClassId) (c0_ : Int32) (c1_ : Int32) (c2_ : Int32) (h0 : Heap) (n0 : Nat) (O0 : Old Z n0 h0) (A0_ : Arv Z h0 s_ ks_ .char (3 : Int32) [(.int c0_), (.int c1_), (.int c2_)] (ii 0)) (ZS1_ : Sta Z Z.heap nm1 "$assertionsDisabled" "Z" (ii 1)) (ZS2_ : Sta Z Z.heap nm1 "HI_BYTE_SHIFT" "I" (ii 0)) (ZS3_ : Sta Z Z.heap nm1 "LO_BYTE_SHIFT" "I" (ii 8)) :
  MFP l Z (⟨nm1, "toBytes", "([CII)[B"⟩ : MethodName) jdk_52_method_14_code 5 (some (.array .byte)) ({ frames := 2, cells := 1, slots := 6, locals := 24 } : Room) ws #[(rr s_), (ii 0), (ii 3)] h0 (Q_tob_3 Z s_ ks_ c0_ c1_ c2_ h0 n0) := by
 refine MetFree.of_bodySF (plainFor_of_name pn_java_lang_StringUTF16) hisR ?_
 intro p e s m args below meth c s₁ Bd hml0 hP hK
 obtain ⟨rfl, hZ, hh⟩ := hP
 have hx := Bd.exec
 have hby := Bd.bytes
 have hml : c.maxLocals = 5 := hml0
 have hown : s.vm.findClass nm1 = some m.cls := findClass_of_methodNamed Bd.named
 have hnm := (name_of_methodNamed Bd.named Bd.method).1
 have X0 : Stand p l e ({ frames := 2, cells := 1, slots := 6, locals := 24 } : Room) s m #[(rr s_), (ii 0), (ii 3)] below meth c s₁ [] 0 0 := Stand.of_body Bd
 have e0 : s₁.heap = h0 := by rw [← hh, Bd.state]; rfl
 have N0 := Fr.nil n0
 have kp0 : Keep h0 h0 [] := Keep.refl _ _
 have c0 : ∀ t, S_ p e below s₁ m 0 #[vr s_, vi 0, vi 3, u_, u_] [] t → Steps p.tables e below (s₁.setTop (entryFrame m #[(rr s_), (ii 0), (ii 3)] 5)) t := fun t k => castTop (ef_tob_3 m s_) k
 generalize s₁.setTop (entryFrame m #[(rr s_), (ii 0), (ii 3)] 5) = st0 at c0 ⊢
 replace c0 : Kt p e below s₁ st0 (mkF m 0 #[vr s_, vi 0, vi 3, u_, u_] []) := c0
 have c1 : Kt p e below s₁ st0 (mkF m 1 #[vr s_, vi 0, vi 3, u_, u_] [(ii 3)]) := fun t k => by
  refine c0 t ?_
  show S_ p e below s₁ m 0 #[vr s_, vi 0, vi 3, u_, u_] [] t
  refine XS.iloadN X0.here hx rfl (hb hby d8_0) rfl ?_
  exact k
 obtain ⟨_, T2, L2, X2, hQ2, c2⟩ := kstat X0 hx hZ hown (w74 hw) (w75 hw) (w41 hw) (w76 hw) (rm_nbf_3 l Z a0 hw []  h0 n0 O0 ) e0 c1 hml pd_pIrAB [(ii 3)] [] 0 (hb hby d8_1) rfl rfl rfl rfl rfl rfl
 obtain ⟨b3, k4, rfl, N5q, K6, p7, p8, p9⟩ := hQ2
 have N5 := Fr.app N0 N5q
 have o10 := O0.keep K6 all0
 have kp11 := kp0.trans K6 all0
 have z12 := Nat.le_trans kp0.1 p9
 have g13 := Nat.le_trans (Nat.le_trans (Nat.le_of_eq O0.1.symm) O0.2.1) p9
 have c14 : Kt p e below T2 st0 (mkF m 20 #[vr s_, vi 0, vi 3, vr b3, vi 0] [(.int c0_), (ii 0), (rr b3)]) := fun t k => by
  refine c2 t ?_
  show S_ p e below T2 m 4 #[vr s_, vi 0, vi 3, u_, u_] [(rr b3)] t
  refine XS.astoreN X2.here hx rfl (hb hby d8_4) rfl rfl (l' := #[vr s_, vi 0, vi 3, vr b3, u_]) rfl ?_
  show S_ p e below T2 m 5 #[vr s_, vi 0, vi 3, vr b3, u_] [] t
  refine XS.iconst X2.here hx rfl (hb hby d8_5) ?_
  show S_ p e below T2 m 6 #[vr s_, vi 0, vi 3, vr b3, u_] [(ii 0)] t
  refine XS.istore X2.here hx rfl (hb hby d8_6) rfl (l' := #[vr s_, vi 0, vi 3, vr b3, vi 0]) rfl ?_
  show S_ p e below T2 m 8 #[vr s_, vi 0, vi 3, vr b3, vi 0] [] t
  refine XS.iload X2.here hx rfl (hb hby d8_8) rfl ?_
  show S_ p e below T2 m 10 #[vr s_, vi 0, vi 3, vr b3, vi 0] [(ii 0)] t
  refine XS.iloadN X2.here hx rfl (hb hby d8_10) rfl ?_
  show S_ p e below T2 m 11 #[vr s_, vi 0, vi 3, vr b3, vi 0] [(ii 3), (ii 0)] t
  refine XS.icmpNo X2.here hx rfl (hb hby d8_11) rfl rfl ?_
  show S_ p e below T2 m 14 #[vr s_, vi 0, vi 3, vr b3, vi 0] [] t
  refine XS.aloadN X2.here hx rfl (hb hby d8_14) rfl rfl ?_
  show S_ p e below T2 m 15 #[vr s_, vi 0, vi 3, vr b3, vi 0] [(rr b3)] t
  refine XS.iload X2.here hx rfl (hb hby d8_15) rfl ?_
  show S_ p e below T2 m 17 #[vr s_, vi 0, vi 3, vr b3, vi 0] [(ii 0), (rr b3)] t
  refine XS.aloadN X2.here hx rfl (hb hby d8_17) rfl rfl ?_
  show S_ p e below T2 m 18 #[vr s_, vi 0, vi 3, vr b3, vi 0] [(rr s_), (ii 0), (rr b3)] t
  refine XS.iloadN X2.here hx rfl (hb hby d8_18) rfl ?_
  show S_ p e below T2 m 19 #[vr s_, vi 0, vi 3, vr b3, vi 0] [(ii 0), (rr s_), (ii 0), (rr b3)] t
  refine ldC X2 hx hZ rfl (A0_.keep K6 nin0) (v := (.int c0_)) (by decide) (by decide) rfl rfl rfl (hb hby d8_19) ?_
  exact k
 obtain ⟨_, T15, L15, X15, hQ15, c15⟩ := kstat X2 hx hZ hown (w81 hw) (w82 hw) (w41 hw) (w83 hw) (rm_putc l Z a0 hw [] b3 k4 (6 : Int32) [(ii 0), (ii 0), (ii 0), (ii 0), (ii 0), (ii 0)] (0 : Int32) c0_ T2.heap n0 o10 p7 g13 ZS1_ ZS2_ ZS3_ (by decide) (by decide) (by decide) (by decide) (Nat.le_of_ble_eq_true rfl) (Nat.le_of_ble_eq_true rfl)) rfl c14 hml pd_pABIIrV [(rr b3), (ii 0), (.int c0_)] [] 0 (hb hby d8_20) rfl rfl rfl rfl rfl rfl
 obtain ⟨rfl, N16q, K17, p18⟩ := hQ15
 have N16 := Fr.app N5 N16q
 have o19 := o10.keep K17 (allS g13 all0)
 have kp20 := kp11.trans K17 (allS (Or.inr z12) all0)
 have f21 : Arv Z T15.heap b3 k4 .byte (6 : Int32) [(.int (nar .byte ((c0_ >>> ((0 : Int32) &&& 31)).toInt8.toInt32))), (.int (nar .byte ((c0_ >>> ((8 : Int32) &&& 31)).toInt8.toInt32))), (ii 0), (ii 0), (ii 0), (ii 0)] (ii 0) := p18
 have q22 := Nat.ne_of_lt (Nat.lt_of_lt_of_le A0_.lt p9)
 have c23 : Kt p e below T15 st0 (mkF m 20 #[vr s_, vi 1, vi 3, vr b3, vi 1] [(.int c1_), (ii 1), (rr b3)]) := fun t k => by
  refine c15 t ?_
  show S_ p e below T15 m 23 #[vr s_, vi 0, vi 3, vr b3, vi 0] [] t
  refine XS.iinc X15.here hx rfl (hb hby d8_23) rfl (l' := #[vr s_, vi 1, vi 3, vr b3, vi 0]) rfl ?_
  show S_ p e below T15 m 26 #[vr s_, vi 1, vi 3, vr b3, vi 0] [] t
  refine XS.iinc X15.here hx rfl (hb hby d8_26) rfl (l' := #[vr s_, vi 1, vi 3, vr b3, vi 1]) rfl ?_
  show S_ p e below T15 m 29 #[vr s_, vi 1, vi 3, vr b3, vi 1] [] t
  refine yG X15.here hx rfl 29 8 rfl (hb hby d8_29) ?_
  show S_ p e below T15 m 8 #[vr s_, vi 1, vi 3, vr b3, vi 1] [] t
  refine XS.iload X15.here hx rfl (hb hby d8_8) rfl ?_
  show S_ p e below T15 m 10 #[vr s_, vi 1, vi 3, vr b3, vi 1] [(ii 1)] t
  refine XS.iloadN X15.here hx rfl (hb hby d8_10) rfl ?_
  show S_ p e below T15 m 11 #[vr s_, vi 1, vi 3, vr b3, vi 1] [(ii 3), (ii 1)] t
  refine XS.icmpNo X15.here hx rfl (hb hby d8_11) rfl rfl ?_
  show S_ p e below T15 m 14 #[vr s_, vi 1, vi 3, vr b3, vi 1] [] t
  refine XS.aloadN X15.here hx rfl (hb hby d8_14) rfl rfl ?_
  show S_ p e below T15 m 15 #[vr s_, vi 1, vi 3, vr b3, vi 1] [(rr b3)] t
  refine XS.iload X15.here hx rfl (hb hby d8_15) rfl ?_
  show S_ p e below T15 m 17 #[vr s_, vi 1, vi 3, vr b3, vi 1] [(ii 1), (rr b3)] t
  refine XS.aloadN X15.here hx rfl (hb hby d8_17) rfl rfl ?_
  show S_ p e below T15 m 18 #[vr s_, vi 1, vi 3, vr b3, vi 1] [(rr s_), (ii 1), (rr b3)] t
  refine XS.iloadN X15.here hx rfl (hb hby d8_18) rfl ?_
  show S_ p e below T15 m 19 #[vr s_, vi 1, vi 3, vr b3, vi 1] [(ii 1), (rr s_), (ii 1), (rr b3)] t
  refine ldC X15 hx hZ rfl ((A0_.keep K6 nin0).keep K17 (ninS q22 nin0)) (v := (.int c1_)) (by decide) (by decide) rfl rfl rfl (hb hby d8_19) ?_
  exact k
 obtain ⟨_, T24, L24, X24, hQ24, c24⟩ := kstat X15 hx hZ hown (w81 hw) (w82 hw) (w41 hw) (w83 hw) (rm_putc l Z a0 hw [] b3 k4 (6 : Int32) [(.int (nar .byte ((c0_ >>> ((0 : Int32) &&& 31)).toInt8.toInt32))), (.int (nar .byte ((c0_ >>> ((8 : Int32) &&& 31)).toInt8.toInt32))), (ii 0), (ii 0), (ii 0), (ii 0)] (1 : Int32) c1_ T15.heap n0 o19 f21 g13 ZS1_ ZS2_ ZS3_ (by decide) (by decide) (by decide) (by decide) (Nat.le_of_ble_eq_true rfl) (Nat.le_of_ble_eq_true rfl)) rfl c23 hml pd_pABIIrV [(rr b3), (ii 1), (.int c1_)] [] 0 (hb hby d8_20) rfl rfl rfl rfl rfl rfl
 obtain ⟨rfl, N25q, K26, p27⟩ := hQ24
 have N25 := Fr.app N16 N25q
 have o28 := o19.keep K26 (allS g13 all0)
 have kp29 := kp20.trans K26 (allS (Or.inr z12) all0)
 have f30 : Arv Z T24.heap b3 k4 .byte (6 : Int32) [(.int (nar .byte ((c0_ >>> ((0 : Int32) &&& 31)).toInt8.toInt32))), (.int (nar .byte ((c0_ >>> ((8 : Int32) &&& 31)).toInt8.toInt32))), (.int (nar .byte ((c1_ >>> ((0 : Int32) &&& 31)).toInt8.toInt32))), (.int (nar .byte ((c1_ >>> ((8 : Int32) &&& 31)).toInt8.toInt32))), (ii 0), (ii 0)] (ii 0) := p27
 have c31 : Kt p e below T24 st0 (mkF m 20 #[vr s_, vi 2, vi 3, vr b3, vi 2] [(.int c2_), (ii 2), (rr b3)]) := fun t k => by
  refine c24 t ?_
  show S_ p e below T24 m 23 #[vr s_, vi 1, vi 3, vr b3, vi 1] [] t
  refine XS.iinc X24.here hx rfl (hb hby d8_23) rfl (l' := #[vr s_, vi 2, vi 3, vr b3, vi 1]) rfl ?_
  show S_ p e below T24 m 26 #[vr s_, vi 2, vi 3, vr b3, vi 1] [] t
  refine XS.iinc X24.here hx rfl (hb hby d8_26) rfl (l' := #[vr s_, vi 2, vi 3, vr b3, vi 2]) rfl ?_
  show S_ p e below T24 m 29 #[vr s_, vi 2, vi 3, vr b3, vi 2] [] t
  refine yG X24.here hx rfl 29 8 rfl (hb hby d8_29) ?_
  show S_ p e below T24 m 8 #[vr s_, vi 2, vi 3, vr b3, vi 2] [] t
  refine XS.iload X24.here hx rfl (hb hby d8_8) rfl ?_
  show S_ p e below T24 m 10 #[vr s_, vi 2, vi 3, vr b3, vi 2] [(ii 2)] t
  refine XS.iloadN X24.here hx rfl (hb hby d8_10) rfl ?_
  show S_ p e below T24 m 11 #[vr s_, vi 2, vi 3, vr b3, vi 2] [(ii 3), (ii 2)] t
  refine XS.icmpNo X24.here hx rfl (hb hby d8_11) rfl rfl ?_
  show S_ p e below T24 m 14 #[vr s_, vi 2, vi 3, vr b3, vi 2] [] t
  refine XS.aloadN X24.here hx rfl (hb hby d8_14) rfl rfl ?_
  show S_ p e below T24 m 15 #[vr s_, vi 2, vi 3, vr b3, vi 2] [(rr b3)] t
  refine XS.iload X24.here hx rfl (hb hby d8_15) rfl ?_
  show S_ p e below T24 m 17 #[vr s_, vi 2, vi 3, vr b3, vi 2] [(ii 2), (rr b3)] t
  refine XS.aloadN X24.here hx rfl (hb hby d8_17) rfl rfl ?_
  show S_ p e below T24 m 18 #[vr s_, vi 2, vi 3, vr b3, vi 2] [(rr s_), (ii 2), (rr b3)] t
  refine XS.iloadN X24.here hx rfl (hb hby d8_18) rfl ?_
  show S_ p e below T24 m 19 #[vr s_, vi 2, vi 3, vr b3, vi 2] [(ii 2), (rr s_), (ii 2), (rr b3)] t
  refine ldC X24 hx hZ rfl (((A0_.keep K6 nin0).keep K17 (ninS q22 nin0)).keep K26 (ninS q22 nin0)) (v := (.int c2_)) (by decide) (by decide) rfl rfl rfl (hb hby d8_19) ?_
  exact k
 obtain ⟨_, T32, L32, X32, hQ32, c32⟩ := kstat X24 hx hZ hown (w81 hw) (w82 hw) (w41 hw) (w83 hw) (rm_putc l Z a0 hw [] b3 k4 (6 : Int32) [(.int (nar .byte ((c0_ >>> ((0 : Int32) &&& 31)).toInt8.toInt32))), (.int (nar .byte ((c0_ >>> ((8 : Int32) &&& 31)).toInt8.toInt32))), (.int (nar .byte ((c1_ >>> ((0 : Int32) &&& 31)).toInt8.toInt32))), (.int (nar .byte ((c1_ >>> ((8 : Int32) &&& 31)).toInt8.toInt32))), (ii 0), (ii 0)] (2 : Int32) c2_ T24.heap n0 o28 f30 g13 ZS1_ ZS2_ ZS3_ (by decide) (by decide) (by decide) (by decide) (Nat.le_of_ble_eq_true rfl) (Nat.le_of_ble_eq_true rfl)) rfl c31 hml pd_pABIIrV [(rr b3), (ii 2), (.int c2_)] [] 0 (hb hby d8_20) rfl rfl rfl rfl rfl rfl
 obtain ⟨rfl, N33q, K34, p35⟩ := hQ32
 have N33 := Fr.app N25 N33q
 have o36 := o28.keep K34 (allS g13 all0)
 have kp37 := kp29.trans K34 (allS (Or.inr z12) all0)
 have f38 : Arv Z T32.heap b3 k4 .byte (6 : Int32) [(.int (nar .byte ((c0_ >>> ((0 : Int32) &&& 31)).toInt8.toInt32))), (.int (nar .byte ((c0_ >>> ((8 : Int32) &&& 31)).toInt8.toInt32))), (.int (nar .byte ((c1_ >>> ((0 : Int32) &&& 31)).toInt8.toInt32))), (.int (nar .byte ((c1_ >>> ((8 : Int32) &&& 31)).toInt8.toInt32))), (.int (nar .byte ((c2_ >>> ((0 : Int32) &&& 31)).toInt8.toInt32))), (.int (nar .byte ((c2_ >>> ((8 : Int32) &&& 31)).toInt8.toInt32)))] (ii 0) := p35
 obtain ⟨fs, hr, hrun, hended, hW, hsame⟩ := X32.leave (v := some (rr b3)) (fun h => by rw [Bd.returns] at h; cases h)
 refine ⟨_, _, c32 _ ?_, hrun, hended, _, _, rfl, ?_, ⟨_, rfl⟩, hW, hsame.mono (by decide) (by decide)⟩
 ·show S_ p e below T32 m 23 #[vr s_, vi 2, vi 3, vr b3, vi 2] [] _
  refine XS.iinc X32.here hx rfl (hb hby d8_23) rfl (l' := #[vr s_, vi 3, vi 3, vr b3, vi 2]) rfl ?_
  show S_ p e below T32 m 26 #[vr s_, vi 3, vi 3, vr b3, vi 2] [] _
  refine XS.iinc X32.here hx rfl (hb hby d8_26) rfl (l' := #[vr s_, vi 3, vi 3, vr b3, vi 3]) rfl ?_
  show S_ p e below T32 m 29 #[vr s_, vi 3, vi 3, vr b3, vi 3] [] _
  refine yG X32.here hx rfl 29 8 rfl (hb hby d8_29) ?_
  show S_ p e below T32 m 8 #[vr s_, vi 3, vi 3, vr b3, vi 3] [] _
  refine XS.iload X32.here hx rfl (hb hby d8_8) rfl ?_
  show S_ p e below T32 m 10 #[vr s_, vi 3, vi 3, vr b3, vi 3] [(ii 3)] _
  refine XS.iloadN X32.here hx rfl (hb hby d8_10) rfl ?_
  show S_ p e below T32 m 11 #[vr s_, vi 3, vi 3, vr b3, vi 3] [(ii 3), (ii 3)] _
  refine yC X32.here hx rfl 11 32 rfl (hb hby d8_11) rfl rfl ?_
  show S_ p e below T32 m 32 #[vr s_, vi 3, vi 3, vr b3, vi 3] [] _
  refine XS.aloadN X32.here hx rfl (hb hby d8_32) rfl rfl ?_
  show S_ p e below T32 m 33 #[vr s_, vi 3, vi 3, vr b3, vi 3] [(rr b3)] _
  exact retOut X32 hx Bd.returns rfl (Or.inr (Or.inr (Or.inr (Or.inr ⟨rfl, rfl, rfl⟩)))) (hb hby d8_33) hr
 ·show Q_tob_3 Z s_ ks_ c0_ c1_ c2_ h0 n0 _ T32.heap _
  exact ⟨b3, k4, rfl, N33, kp37, f38, g13, z12⟩
theorem ef_cmp3a_3 (m : MethodId) (s_ : Addr) : entryFrame m #[(rr s_), (ii 0), (ii 3)] 6 = mkF m 0 #[vr s_, vi 0, vi 3, u_, u_, u_] [] := by first | (simp [entryFrame, mkF, argsToLocals, Value.category]; done) | rfl
def Q_cmp3a_3 (Z : State) (s_ : Addr) (ks_ : ClassId) (c0_ : Int32) (c1_ : Int32) (c2_ : Int32) (h0 : Heap) (n0 : Nat) (v : Option Value) (h : Heap) (L : List Loc) : Prop := (∃ (b_ : Addr), ∃ (kb_ : ClassId), v = some (rr b_) ∧ Fr n0 L ∧ Keep h0 h [] ∧ Arv Z h b_ kb_ .byte (3 : Int32) [(.int (nar .byte (c0_.toInt8.toInt32))), (.int (nar .byte (c1_.toInt8.toInt32))), (.int (nar .byte (c2_.toInt8.toInt32)))] (ii 0) ∧ n0 ≤ b_ ∧ h0.size ≤ b_ ∧ ¬ ((255 : Int32) < c0_) ∧ ¬ ((255 : Int32) < c1_) ∧ ¬ ((255 : Int32) < c2_)) ∨ (∃ (b_ : Addr), ∃ (kb_ : ClassId), v = some (rr b_) ∧ Fr n0 L ∧ Keep h0 h [] ∧ Arv Z h b_ kb_ .byte (6 : Int32) [(.int (nar .byte ((c0_ >>> ((0 : Int32) &&& 31)).toInt8.toInt32))), (.int (nar .byte ((c0_ >>> ((8 : Int32) &&& 31)).toInt8.toInt32))), (.int (nar .byte ((c1_ >>> ((0 : Int32) &&& 31)).toInt8.toInt32))), (.int (nar .byte ((c1_ >>> ((8 : Int32) &&& 31)).toInt8.toInt32))), (.int (nar .byte ((c2_ >>> ((0 : Int32) &&& 31)).toInt8.toInt32))), (.int (nar .byte ((c2_ >>> ((8 : Int32) &&& 31)).toInt8.toInt32)))] (ii 0) ∧ n0 ≤ b_ ∧ h0.size ≤ b_)
set_option maxRecDepth 65536 in
set_option maxHeartbeats 40000000 in
theorem rm_cmp3a_3 (l : Launch) (Z : State) (a0 : Array Value) (hw : HW Z a0) (ws : List Jvm.Cond) (s_ : Addr) (ks_ : ClassId) (c0_ : Int32) (c1_ : Int32) (c2_ : Int32) (h0 : Heap) (n0 : Nat) (O0 : Old Z n0 h0) (A0_ : Arv Z h0 s_ ks_ .char (3 : Int32) [(.int c0_), (.int c1_), (.int c2_)] (ii 0)) (ZS1_ : Sta Z Z.heap nm1 "$assertionsDisabled" "Z" (ii 1)) (ZS2_ : Sta Z Z.heap nm1 "HI_BYTE_SHIFT" "I" (ii 0)) (ZS3_ : Sta Z Z.heap nm1 "LO_BYTE_SHIFT" "I" (ii 8)) (hc0_ : nar .char c0_ = c0_) (hc1_ : nar .char c1_ = c1_) (hc2_ : nar .char c2_ = c2_) :
  MFP l Z (⟨nm1, "compress", "([CII)[B"⟩ : MethodName) jdk_52_method_16_code 6 (some (.array .byte)) ({ frames := 3, cells := 2, slots := 9, locals := 40 } : Room) ws #[(rr s_), (ii 0), (ii 3)] h0 (Q_cmp3a_3 Z s_ ks_ c0_ c1_ c2_ h0 n0) := by
 refine MetFree.of_bodySF (plainFor_of_name pn_java_lang_StringUTF16) hisR ?_
 intro p e s m args below meth c s₁ Bd hml0 hP hK
 obtain ⟨rfl, hZ, hh⟩ := hP
 have hx := Bd.exec
 have hby := Bd.bytes
 have hml : c.maxLocals = 6 := hml0
 have hown : s.vm.findClass nm1 = some m.cls := findClass_of_methodNamed Bd.named
 have hnm := (name_of_methodNamed Bd.named Bd.method).1
 have X0 : Stand p l e ({ frames := 3, cells := 2, slots := 9, locals := 40 } : Room) s m #[(rr s_), (ii 0), (ii 3)] below meth c s₁ [] 0 0 := Stand.of_body Bd
 have e0 : s₁.heap = h0 := by rw [← hh, Bd.state]; rfl
 have N0 := Fr.nil n0
 have kp0 : Keep h0 h0 [] := Keep.refl _ _
 have c0 : ∀ t, S_ p e below s₁ m 0 #[vr s_, vi 0, vi 3, u_, u_, u_] [] t → Steps p.tables e below (s₁.setTop (entryFrame m #[(rr s_), (ii 0), (ii 3)] 6)) t := fun t k => castTop (ef_cmp3a_3 m s_) k
 generalize s₁.setTop (entryFrame m #[(rr s_), (ii 0), (ii 3)] 6) = st0 at c0 ⊢
 replace c0 : Kt p e below s₁ st0 (mkF m 0 #[vr s_, vi 0, vi 3, u_, u_, u_] []) := c0
 have c1 : Kt p e below s₁ st0 (mkF m 1 #[vr s_, vi 0, vi 3, u_, u_, u_] [(ii 3)]) := fun t k => by
  refine c0 t ?_
  show S_ p e below s₁ m 0 #[vr s_, vi 0, vi 3, u_, u_, u_] [] t
  refine XS.iloadN X0.here hx rfl (hb hby d9_0) rfl ?_
  exact k
 obtain ⟨b2, T2, h2, k2, z2, g2, X2, e2, E2, o3, A2, c2⟩ := knewP (aty := .byte) X0 hx hZ (w17 hw) e0 c1 rfl (hb hby d9_1) rfl (by decide) 3 (by decide) (by decide) (by decide) (by decide) O0
 have kp5 := kp0.ext E2
 have z6 := Nat.le_trans kp0.1 z2
 have f4 : Arv Z h2 b2 k2 .byte (3 : Int32) [(ii 0), (ii 0), (ii 0)] (ii 0) := A2.pad (pad_rep [] (ii 0) 3)
 have q7 := Nat.ne_of_lt (Nat.lt_of_lt_of_le A0_.lt z2)
 have c8 : Kt p e below T2 st0 (mkF m 9 #[vr s_, vi 0, vi 3, vr b2, u_, u_] [(ii 3), (ii 0), (rr b2), (ii 0), (rr s_)]) := fun t k => by
  refine c2 t ?_
  show S_ p e below T2 m 3 #[vr s_, vi 0, vi 3, u_, u_, u_] [(rr b2)] t
  refine XS.astoreN X2.here hx rfl (hb hby d9_3) rfl rfl (l' := #[vr s_, vi 0, vi 3, vr b2, u_, u_]) rfl ?_
  show S_ p e below T2 m 4 #[vr s_, vi 0, vi 3, vr b2, u_, u_] [] t
  refine XS.aloadN X2.here hx rfl (hb hby d9_4) rfl rfl ?_
  show S_ p e below T2 m 5 #[vr s_, vi 0, vi 3, vr b2, u_, u_] [(rr s_)] t
  refine XS.iloadN X2.here hx rfl (hb hby d9_5) rfl ?_
  show S_ p e below T2 m 6 #[vr s_, vi 0, vi 3, vr b2, u_, u_] [(ii 0), (rr s_)] t
  refine XS.aloadN X2.here hx rfl (hb hby d9_6) rfl rfl ?_
  show S_ p e below T2 m 7 #[vr s_, vi 0, vi 3, vr b2, u_, u_] [(rr b2), (ii 0), (rr s_)] t
  refine XS.iconst X2.here hx rfl (hb hby d9_7) ?_
  show S_ p e below T2 m 8 #[vr s_, vi 0, vi 3, vr b2, u_, u_] [(ii 0), (rr b2), (ii 0), (rr s_)] t
  refine XS.iloadN X2.here hx rfl (hb hby d9_8) rfl ?_
  exact k
 obtain ⟨_, T9, L9, X9, hQ9, c9⟩ := kstat X2 hx hZ hown (w43 hw) (w44 hw) (w41 hw) (w45 hw) (rm_cmp5a_3 l Z a0 hw [] s_ ks_ b2 k2 c0_ c1_ c2_ h2 n0 o3 (A0_.ext E2) f4 g2 q7) e2 c8 hml pd_pACIABIIrI [(rr s_), (ii 0), (rr b2), (ii 0), (ii 3)] [] 0 (hb hby d9_9) rfl rfl rfl rfl rfl rfl
 rcases hQ9 with hQ9 | hQ9 | hQ9 | hQ9
 ·obtain ⟨rfl, N10q, K11, p12, p13, p14, p15⟩ := hQ9
  have N10 := Fr.app N0 N10q
  have o16 := o3.keep K11 (allS g2 all0)
  have kp17 := kp5.trans K11 (allS (Or.inr z6) all0)
  obtain ⟨fs, hr, hrun, hended, hW, hsame⟩ := X9.leave (v := some (rr b2)) (fun h => by rw [Bd.returns] at h; cases h)
  refine ⟨_, _, c9 _ ?_, hrun, hended, _, _, rfl, ?_, ⟨_, rfl⟩, hW, hsame.mono (by decide) (by decide)⟩
  ·show S_ p e below T9 m 12 #[vr s_, vi 0, vi 3, vr b2, u_, u_] [(ii 3)] _
   refine XS.istore X9.here hx rfl (hb hby d9_12) rfl (l' := #[vr s_, vi 0, vi 3, vr b2, vi 3, u_]) rfl ?_
   show S_ p e below T9 m 14 #[vr s_, vi 0, vi 3, vr b2, vi 3, u_] [] _
   refine XS.iload X9.here hx rfl (hb hby d9_14) rfl ?_
   show S_ p e below T9 m 16 #[vr s_, vi 0, vi 3, vr b2, vi 3, u_] [(ii 3)] _
   refine XS.iloadN X9.here hx rfl (hb hby d9_16) rfl ?_
   show S_ p e below T9 m 17 #[vr s_, vi 0, vi 3, vr b2, vi 3, u_] [(ii 3), (ii 3)] _
   refine yC X9.here hx rfl 17 57 rfl (hb hby d9_17) rfl rfl ?_
   show S_ p e below T9 m 57 #[vr s_, vi 0, vi 3, vr b2, vi 3, u_] [] _
   refine XS.aloadN X9.here hx rfl (hb hby d9_57) rfl rfl ?_
   show S_ p e below T9 m 58 #[vr s_, vi 0, vi 3, vr b2, vi 3, u_] [(rr b2)] _
   exact retOut X9 hx Bd.returns rfl (Or.inr (Or.inr (Or.inr (Or.inr ⟨rfl, rfl, rfl⟩)))) (hb hby d9_58) hr
  ·show Q_cmp3a_3 Z s_ ks_ c0_ c1_ c2_ h0 n0 _ T9.heap _
   exact (Or.inl ⟨b2, k2, rfl, N10, kp17, p12, g2, z6, p13, p14, p15⟩)
 ·obtain ⟨rfl, N18q, K19, p20⟩ := hQ9
  have N18 := Fr.app N0 N18q
  have o21 := o3.keep K19 (allS g2 all0)
  have kp22 := kp5.trans K19 (allS (Or.inr z6) all0)
  have c23 : Kt p e below T9 st0 (mkF m 23 #[vr s_, vi 0, vi 3, vr b2, vi 0, u_] [(ii 3), (ii 0), (rr s_)]) := fun t k => by
   refine c9 t ?_
   show S_ p e below T9 m 12 #[vr s_, vi 0, vi 3, vr b2, u_, u_] [(ii 0)] t
   refine XS.istore X9.here hx rfl (hb hby d9_12) rfl (l' := #[vr s_, vi 0, vi 3, vr b2, vi 0, u_]) rfl ?_
   show S_ p e below T9 m 14 #[vr s_, vi 0, vi 3, vr b2, vi 0, u_] [] t
   refine XS.iload X9.here hx rfl (hb hby d9_14) rfl ?_
   show S_ p e below T9 m 16 #[vr s_, vi 0, vi 3, vr b2, vi 0, u_] [(ii 0)] t
   refine XS.iloadN X9.here hx rfl (hb hby d9_16) rfl ?_
   show S_ p e below T9 m 17 #[vr s_, vi 0, vi 3, vr b2, vi 0, u_] [(ii 3), (ii 0)] t
   refine XS.icmpNo X9.here hx rfl (hb hby d9_17) rfl rfl ?_
   show S_ p e below T9 m 20 #[vr s_, vi 0, vi 3, vr b2, vi 0, u_] [] t
   refine XS.aloadN X9.here hx rfl (hb hby d9_20) rfl rfl ?_
   show S_ p e below T9 m 21 #[vr s_, vi 0, vi 3, vr b2, vi 0, u_] [(rr s_)] t
   refine XS.iloadN X9.here hx rfl (hb hby d9_21) rfl ?_
   show S_ p e below T9 m 22 #[vr s_, vi 0, vi 3, vr b2, vi 0, u_] [(ii 0), (rr s_)] t
   refine XS.iloadN X9.here hx rfl (hb hby d9_22) rfl ?_
   exact k
  obtain ⟨_, T24, L24, X24, hQ24, c24⟩ := kstat X9 hx hZ hown (w71 hw) (w72 hw) (w41 hw) (w73 hw) (rm_tob_3 l Z a0 hw [] s_ ks_ c0_ c1_ c2_ T9.heap n0 o21 ((A0_.ext E2).keep K19 (ninS q7 nin0)) ZS1_ ZS2_ ZS3_) rfl c23 hml pd_pACIIrAB [(rr s_), (ii 0), (ii 3)] [] 0 (hb hby d9_23) rfl rfl rfl rfl rfl rfl
  obtain ⟨b25, k26, rfl, N27q, K28, p29, p30, p31⟩ := hQ24
  have N27 := Fr.app N18 N27q
  have o32 := o21.keep K28 all0
  have kp33 := kp22.trans K28 all0
  have z34 := Nat.le_trans kp22.1 p31
  have g35 := Nat.le_trans (Nat.le_trans (Nat.le_of_eq o21.1.symm) o21.2.1) p31
  have c36 : Kt p e below T24 st0 (mkF m 32 #[vr s_, vi 0, vi 3, vr b2, vi 0, vr b25] [(ii 0), (rr b25)]) := fun t k => by
   refine c24 t ?_
   show S_ p e below T24 m 26 #[vr s_, vi 0, vi 3, vr b2, vi 0, u_] [(rr b25)] t
   refine XS.astore X24.here hx rfl (hb hby d9_26) rfl rfl (l' := #[vr s_, vi 0, vi 3, vr b2, vi 0, vr b25]) rfl ?_
   show S_ p e below T24 m 28 #[vr s_, vi 0, vi 3, vr b2, vi 0, vr b25] [] t
   refine XS.aload X24.here hx rfl (hb hby d9_28) rfl rfl ?_
   show S_ p e below T24 m 30 #[vr s_, vi 0, vi 3, vr b2, vi 0, vr b25] [(rr b25)] t
   refine XS.iload X24.here hx rfl (hb hby d9_30) rfl ?_
   exact k
  obtain ⟨_, T37, L37, X37, hQ37, c37⟩ := kstat X24 hx hZ hown (w87 hw) (w88 hw) (w41 hw) (w89 hw) (rm_getc l Z a0 hw [] b25 k26 (6 : Int32) [(.int (nar .byte ((c0_ >>> ((0 : Int32) &&& 31)).toInt8.toInt32))), (.int (nar .byte ((c0_ >>> ((8 : Int32) &&& 31)).toInt8.toInt32))), (.int (nar .byte ((c1_ >>> ((0 : Int32) &&& 31)).toInt8.toInt32))), (.int (nar .byte ((c1_ >>> ((8 : Int32) &&& 31)).toInt8.toInt32))), (.int (nar .byte ((c2_ >>> ((0 : Int32) &&& 31)).toInt8.toInt32))), (.int (nar .byte ((c2_ >>> ((8 : Int32) &&& 31)).toInt8.toInt32)))] (0 : Int32) ((nar .byte ((c0_ >>> ((0 : Int32) &&& 31)).toInt8.toInt32))) ((nar .byte ((c0_ >>> ((8 : Int32) &&& 31)).toInt8.toInt32))) c0_ T24.heap n0 o32 p29 ZS1_ ZS2_ ZS3_ (by decide) (by decide) (by decide) (by decide) rfl rfl (own_get16 hc0_)) rfl c36 hml pd_pABIrC [(rr b25), (ii 0)] [] 0 (hb hby d9_32) rfl rfl rfl rfl rfl rfl
  obtain ⟨rfl, N38q, K39⟩ := hQ37
  have N38 := Fr.app N27 N38q
  obtain ⟨fs, hr, hrun, hended, hW, hsame⟩ := X37.leave (v := some (rr b25)) (fun h => by rw [Bd.returns] at h; cases h)
  refine ⟨_, _, c37 _ ?_, hrun, hended, _, _, rfl, ?_, ⟨_, rfl⟩, hW, hsame.mono (by decide) (by decide)⟩
  ·show S_ p e below T37 m 35 #[vr s_, vi 0, vi 3, vr b2, vi 0, vr b25] [(.int c0_)] _
   refine XS.sipush X37.here hx rfl (hb hby d9_35) ?_
   show S_ p e below T37 m 38 #[vr s_, vi 0, vi 3, vr b2, vi 0, vr b25] [(ii 255), (.int c0_)] _
   refine yC X37.here hx rfl 38 54 rfl (hb hby d9_38) rfl (tlt p20).2.2.1 ?_
   show S_ p e below T37 m 54 #[vr s_, vi 0, vi 3, vr b2, vi 0, vr b25] [] _
   refine XS.aload X37.here hx rfl (hb hby d9_54) rfl rfl ?_
   show S_ p e below T37 m 56 #[vr s_, vi 0, vi 3, vr b2, vi 0, vr b25] [(rr b25)] _
   exact retOut X37 hx Bd.returns rfl (Or.inr (Or.inr (Or.inr (Or.inr ⟨rfl, rfl, rfl⟩)))) (hb hby d9_56) hr
  ·show Q_cmp3a_3 Z s_ ks_ c0_ c1_ c2_ h0 n0 _ T37.heap _
   rw [K39]
   exact (Or.inr (⟨b25, k26, rfl, N38, kp33, p29, g35, z34⟩))
 ·obtain ⟨rfl, N40q, K41, p42⟩ := hQ9
  have N40 := Fr.app N0 N40q
  have o43 := o3.keep K41 (allS g2 all0)
  have kp44 := kp5.trans K41 (allS (Or.inr z6) all0)
  have c45 : Kt p e below T9 st0 (mkF m 23 #[vr s_, vi 0, vi 3, vr b2, vi 1, u_] [(ii 3), (ii 0), (rr s_)]) := fun t k => by
   refine c9 t ?_
   show S_ p e below T9 m 12 #[vr s_, vi 0, vi 3, vr b2, u_, u_] [(ii 1)] t
   refine XS.istore X9.here hx rfl (hb hby d9_12) rfl (l' := #[vr s_, vi 0, vi 3, vr b2, vi 1, u_]) rfl ?_
   show S_ p e below T9 m 14 #[vr s_, vi 0, vi 3, vr b2, vi 1, u_] [] t
   refine XS.iload X9.here hx rfl (hb hby d9_14) rfl ?_
   show S_ p e below T9 m 16 #[vr s_, vi 0, vi 3, vr b2, vi 1, u_] [(ii 1)] t
   refine XS.iloadN X9.here hx rfl (hb hby d9_16) rfl ?_
   show S_ p e below T9 m 17 #[vr s_, vi 0, vi 3, vr b2, vi 1, u_] [(ii 3), (ii 1)] t
   refine XS.icmpNo X9.here hx rfl (hb hby d9_17) rfl rfl ?_
   show S_ p e below T9 m 20 #[vr s_, vi 0, vi 3, vr b2, vi 1, u_] [] t
   refine XS.aloadN X9.here hx rfl (hb hby d9_20) rfl rfl ?_
   show S_ p e below T9 m 21 #[vr s_, vi 0, vi 3, vr b2, vi 1, u_] [(rr s_)] t
   refine XS.iloadN X9.here hx rfl (hb hby d9_21) rfl ?_
   show S_ p e below T9 m 22 #[vr s_, vi 0, vi 3, vr b2, vi 1, u_] [(ii 0), (rr s_)] t
   refine XS.iloadN X9.here hx rfl (hb hby d9_22) rfl ?_
   exact k
  obtain ⟨_, T46, L46, X46, hQ46, c46⟩ := kstat X9 hx hZ hown (w71 hw) (w72 hw) (w41 hw) (w73 hw) (rm_tob_3 l Z a0 hw [] s_ ks_ c0_ c1_ c2_ T9.heap n0 o43 ((A0_.ext E2).keep K41 (ninS q7 nin0)) ZS1_ ZS2_ ZS3_) rfl c45 hml pd_pACIIrAB [(rr s_), (ii 0), (ii 3)] [] 0 (hb hby d9_23) rfl rfl rfl rfl rfl rfl
  obtain ⟨b47, k48, rfl, N49q, K50, p51, p52, p53⟩ := hQ46
  have N49 := Fr.app N40 N49q
  have o54 := o43.keep K50 all0
  have kp55 := kp44.trans K50 all0
  have z56 := Nat.le_trans kp44.1 p53
  have g57 := Nat.le_trans (Nat.le_trans (Nat.le_of_eq o43.1.symm) o43.2.1) p53
  have c58 : Kt p e below T46 st0 (mkF m 32 #[vr s_, vi 0, vi 3, vr b2, vi 1, vr b47] [(ii 1), (rr b47)]) := fun t k => by
   refine c46 t ?_
   show S_ p e below T46 m 26 #[vr s_, vi 0, vi 3, vr b2, vi 1, u_] [(rr b47)] t
   refine XS.astore X46.here hx rfl (hb hby d9_26) rfl rfl (l' := #[vr s_, vi 0, vi 3, vr b2, vi 1, vr b47]) rfl ?_
   show S_ p e below T46 m 28 #[vr s_, vi 0, vi 3, vr b2, vi 1, vr b47] [] t
   refine XS.aload X46.here hx rfl (hb hby d9_28) rfl rfl ?_
   show S_ p e below T46 m 30 #[vr s_, vi 0, vi 3, vr b2, vi 1, vr b47] [(rr b47)] t
   refine XS.iload X46.here hx rfl (hb hby d9_30) rfl ?_
   exact k
  obtain ⟨_, T59, L59, X59, hQ59, c59⟩ := kstat X46 hx hZ hown (w87 hw) (w88 hw) (w41 hw) (w89 hw) (rm_getc l Z a0 hw [] b47 k48 (6 : Int32) [(.int (nar .byte ((c0_ >>> ((0 : Int32) &&& 31)).toInt8.toInt32))), (.int (nar .byte ((c0_ >>> ((8 : Int32) &&& 31)).toInt8.toInt32))), (.int (nar .byte ((c1_ >>> ((0 : Int32) &&& 31)).toInt8.toInt32))), (.int (nar .byte ((c1_ >>> ((8 : Int32) &&& 31)).toInt8.toInt32))), (.int (nar .byte ((c2_ >>> ((0 : Int32) &&& 31)).toInt8.toInt32))), (.int (nar .byte ((c2_ >>> ((8 : Int32) &&& 31)).toInt8.toInt32)))] (1 : Int32) ((nar .byte ((c1_ >>> ((0 : Int32) &&& 31)).toInt8.toInt32))) ((nar .byte ((c1_ >>> ((8 : Int32) &&& 31)).toInt8.toInt32))) c1_ T46.heap n0 o54 p51 ZS1_ ZS2_ ZS3_ (by decide) (by decide) (by decide) (by decide) rfl rfl (own_get16 hc1_)) rfl c58 hml pd_pABIrC [(rr b47), (ii 1)] [] 0 (hb hby d9_32) rfl rfl rfl rfl rfl rfl
  obtain ⟨rfl, N60q, K61⟩ := hQ59
  have N60 := Fr.app N49 N60q
  obtain ⟨fs, hr, hrun, hended, hW, hsame⟩ := X59.leave (v := some (rr b47)) (fun h => by rw [Bd.returns] at h; cases h)
  refine ⟨_, _, c59 _ ?_, hrun, hended, _, _, rfl, ?_, ⟨_, rfl⟩, hW, hsame.mono (by decide) (by decide)⟩
  ·show S_ p e below T59 m 35 #[vr s_, vi 0, vi 3, vr b2, vi 1, vr b47] [(.int c1_)] _
   refine XS.sipush X59.here hx rfl (hb hby d9_35) ?_
   show S_ p e below T59 m 38 #[vr s_, vi 0, vi 3, vr b2, vi 1, vr b47] [(ii 255), (.int c1_)] _
   refine yC X59.here hx rfl 38 54 rfl (hb hby d9_38) rfl (tlt p42).2.2.1 ?_
   show S_ p e below T59 m 54 #[vr s_, vi 0, vi 3, vr b2, vi 1, vr b47] [] _
   refine XS.aload X59.here hx rfl (hb hby d9_54) rfl rfl ?_
   show S_ p e below T59 m 56 #[vr s_, vi 0, vi 3, vr b2, vi 1, vr b47] [(rr b47)] _
   exact retOut X59 hx Bd.returns rfl (Or.inr (Or.inr (Or.inr (Or.inr ⟨rfl, rfl, rfl⟩)))) (hb hby d9_56) hr
  ·show Q_cmp3a_3 Z s_ ks_ c0_ c1_ c2_ h0 n0 _ T59.heap _
   rw [K61]
   exact (Or.inr (⟨b47, k48, rfl, N60, kp55, p51, g57, z56⟩))
 ·obtain ⟨rfl, N62q, K63, p64⟩ := hQ9
  have N62 := Fr.app N0 N62q
  have o65 := o3.keep K63 (allS g2 all0)
  have kp66 := kp5.trans K63 (allS (Or.inr z6) all0)
  have c67 : Kt p e below T9 st0 (mkF m 23 #[vr s_, vi 0, vi 3, vr b2, vi 2, u_] [(ii 3), (ii 0), (rr s_)]) := fun t k => by
   refine c9 t ?_
   show S_ p e below T9 m 12 #[vr s_, vi 0, vi 3, vr b2, u_, u_] [(ii 2)] t
   refine XS.istore X9.here hx rfl (hb hby d9_12) rfl (l' := #[vr s_, vi 0, vi 3, vr b2, vi 2, u_]) rfl ?_
   show S_ p e below T9 m 14 #[vr s_, vi 0, vi 3, vr b2, vi 2, u_] [] t
   refine XS.iload X9.here hx rfl (hb hby d9_14) rfl ?_
   show S_ p e below T9 m 16 #[vr s_, vi 0, vi 3, vr b2, vi 2, u_] [(ii 2)] t
   refine XS.iloadN X9.here hx rfl (hb hby d9_16) rfl ?_
   show S_ p e below T9 m 17 #[vr s_, vi 0, vi 3, vr b2, vi 2, u_] [(ii 3), (ii 2)] t
   refine XS.icmpNo X9.here hx rfl (hb hby d9_17) rfl rfl ?_
   show S_ p e below T9 m 20 #[vr s_, vi 0, vi 3, vr b2, vi 2, u_] [] t
   refine XS.aloadN X9.here hx rfl (hb hby d9_20) rfl rfl ?_
   show S_ p e below T9 m 21 #[vr s_, vi 0, vi 3, vr b2, vi 2, u_] [(rr s_)] t
   refine XS.iloadN X9.here hx rfl (hb hby d9_21) rfl ?_
   show S_ p e below T9 m 22 #[vr s_, vi 0, vi 3, vr b2, vi 2, u_] [(ii 0), (rr s_)] t
   refine XS.iloadN X9.here hx rfl (hb hby d9_22) rfl ?_
   exact k
  obtain ⟨_, T68, L68, X68, hQ68, c68⟩ := kstat X9 hx hZ hown (w71 hw) (w72 hw) (w41 hw) (w73 hw) (rm_tob_3 l Z a0 hw [] s_ ks_ c0_ c1_ c2_ T9.heap n0 o65 ((A0_.ext E2).keep K63 (ninS q7 nin0)) ZS1_ ZS2_ ZS3_) rfl c67 hml pd_pACIIrAB [(rr s_), (ii 0), (ii 3)] [] 0 (hb hby d9_23) rfl rfl rfl rfl rfl rfl
  obtain ⟨b69, k70, rfl, N71q, K72, p73, p74, p75⟩ := hQ68
  have N71 := Fr.app N62 N71q
  have o76 := o65.keep K72 all0
  have kp77 := kp66.trans K72 all0
  have z78 := Nat.le_trans kp66.1 p75
  have g79 := Nat.le_trans (Nat.le_trans (Nat.le_of_eq o65.1.symm) o65.2.1) p75
  have c80 : Kt p e below T68 st0 (mkF m 32 #[vr s_, vi 0, vi 3, vr b2, vi 2, vr b69] [(ii 2), (rr b69)]) := fun t k => by
   refine c68 t ?_
   show S_ p e below T68 m 26 #[vr s_, vi 0, vi 3, vr b2, vi 2, u_] [(rr b69)] t
   refine XS.astore X68.here hx rfl (hb hby d9_26) rfl rfl (l' := #[vr s_, vi 0, vi 3, vr b2, vi 2, vr b69]) rfl ?_
   show S_ p e below T68 m 28 #[vr s_, vi 0, vi 3, vr b2, vi 2, vr b69] [] t
   refine XS.aload X68.here hx rfl (hb hby d9_28) rfl rfl ?_
   show S_ p e below T68 m 30 #[vr s_, vi 0, vi 3, vr b2, vi 2, vr b69] [(rr b69)] t
   refine XS.iload X68.here hx rfl (hb hby d9_30) rfl ?_
   exact k
  obtain ⟨_, T81, L81, X81, hQ81, c81⟩ := kstat X68 hx hZ hown (w87 hw) (w88 hw) (w41 hw) (w89 hw) (rm_getc l Z a0 hw [] b69 k70 (6 : Int32) [(.int (nar .byte ((c0_ >>> ((0 : Int32) &&& 31)).toInt8.toInt32))), (.int (nar .byte ((c0_ >>> ((8 : Int32) &&& 31)).toInt8.toInt32))), (.int (nar .byte ((c1_ >>> ((0 : Int32) &&& 31)).toInt8.toInt32))), (.int (nar .byte ((c1_ >>> ((8 : Int32) &&& 31)).toInt8.toInt32))), (.int (nar .byte ((c2_ >>> ((0 : Int32) &&& 31)).toInt8.toInt32))), (.int (nar .byte ((c2_ >>> ((8 : Int32) &&& 31)).toInt8.toInt32)))] (2 : Int32) ((nar .byte ((c2_ >>> ((0 : Int32) &&& 31)).toInt8.toInt32))) ((nar .byte ((c2_ >>> ((8 : Int32) &&& 31)).toInt8.toInt32))) c2_ T68.heap n0 o76 p73 ZS1_ ZS2_ ZS3_ (by decide) (by decide) (by decide) (by decide) rfl rfl (own_get16 hc2_)) rfl c80 hml pd_pABIrC [(rr b69), (ii 2)] [] 0 (hb hby d9_32) rfl rfl rfl rfl rfl rfl
  obtain ⟨rfl, N82q, K83⟩ := hQ81
  have N82 := Fr.app N71 N82q
  obtain ⟨fs, hr, hrun, hended, hW, hsame⟩ := X81.leave (v := some (rr b69)) (fun h => by rw [Bd.returns] at h; cases h)
  refine ⟨_, _, c81 _ ?_, hrun, hended, _, _, rfl, ?_, ⟨_, rfl⟩, hW, hsame.mono (by decide) (by decide)⟩
  ·show S_ p e below T81 m 35 #[vr s_, vi 0, vi 3, vr b2, vi 2, vr b69] [(.int c2_)] _
   refine XS.sipush X81.here hx rfl (hb hby d9_35) ?_
   show S_ p e below T81 m 38 #[vr s_, vi 0, vi 3, vr b2, vi 2, vr b69] [(ii 255), (.int c2_)] _
   refine yC X81.here hx rfl 38 54 rfl (hb hby d9_38) rfl (tlt p64).2.2.1 ?_
   show S_ p e below T81 m 54 #[vr s_, vi 0, vi 3, vr b2, vi 2, vr b69] [] _
   refine XS.aload X81.here hx rfl (hb hby d9_54) rfl rfl ?_
   show S_ p e below T81 m 56 #[vr s_, vi 0, vi 3, vr b2, vi 2, vr b69] [(rr b69)] _
   exact retOut X81 hx Bd.returns rfl (Or.inr (Or.inr (Or.inr (Or.inr ⟨rfl, rfl, rfl⟩)))) (hb hby d9_56) hr
  ·show Q_cmp3a_3 Z s_ ks_ c0_ c1_ c2_ h0 n0 _ T81.heap _
   rw [K83]
   exact (Or.inr (⟨b69, k70, rfl, N82, kp77, p73, g79, z78⟩))
theorem ef_codl_3 (m : MethodId) (s_ : Addr) : entryFrame m #[(rr s_), (ii 3)] 2 = mkF m 0 #[vr s_, vi 3] [] := by first | (simp [entryFrame, mkF, argsToLocals, Value.category]; done) | rfl
def Q_codl_3 (Z : State) (s_ : Addr) (ks_ : ClassId) (vs_ : List Value) (h0 : Heap) (n0 : Nat) (v : Option Value) (h : Heap) (L : List Loc) : Prop := v = some (ii 0) ∧ Fr n0 L ∧ h = h0
set_option maxRecDepth 65536 in
set_option maxHeartbeats 40000000 in
theorem rm_codl_3 (l : Launch) (Z : State) (a0 : Array Value) (hw : HW Z a0) (ws : List Jvm.Cond) (s_ : Addr) (ks_ : ClassId) (vs_ : List Value) (h0 : Heap) (n0 : Nat) (O0 : Old Z n0 h0) (A0_ : Arv Z h0 s_ ks_ .byte (3 : Int32) vs_ (ii 0)) :
  MFP l Z (⟨nm1, "coderFromArrayLen", "([BI)B"⟩ : MethodName) jdk_52_method_15_code 2 (some .byte) ({ frames := 0, cells := 0, slots := 0, locals := 0 } : Room) ws #[(rr s_), (ii 3)] h0 (Q_codl_3 Z s_ ks_ vs_ h0 n0) := by
 refine MetFree.of_bodySF (plainFor_of_name pn_java_lang_StringUTF16) hisR ?_
 intro p e s m args below meth c s₁ Bd hml0 hP hK
 obtain ⟨rfl, hZ, hh⟩ := hP
 have hx := Bd.exec
 have hby := Bd.bytes
 have hml : c.maxLocals = 2 := hml0
 have hown : s.vm.findClass nm1 = some m.cls := findClass_of_methodNamed Bd.named
 have hnm := (name_of_methodNamed Bd.named Bd.method).1
 have X0 : Stand p l e ({ frames := 0, cells := 0, slots := 0, locals := 0 } : Room) s m #[(rr s_), (ii 3)] below meth c s₁ [] 0 0 := Stand.of_body Bd
 have e0 : s₁.heap = h0 := by rw [← hh, Bd.state]; rfl
 have N0 := Fr.nil n0
 have kp0 : Keep h0 h0 [] := Keep.refl _ _
 have c0 : ∀ t, S_ p e below s₁ m 0 #[vr s_, vi 3] [] t → Steps p.tables e below (s₁.setTop (entryFrame m #[(rr s_), (ii 3)] 2)) t := fun t k => castTop (ef_codl_3 m s_) k
 generalize s₁.setTop (entryFrame m #[(rr s_), (ii 3)] 2) = st0 at c0 ⊢
 replace c0 : Kt p e below s₁ st0 (mkF m 0 #[vr s_, vi 3] []) := c0
 obtain ⟨fs, hr, hrun, hended, hW, hsame⟩ := X0.leave (v := some (ii 0)) (fun h => by rw [Bd.returns] at h; cases h)
 refine ⟨_, _, c0 _ ?_, hrun, hended, _, _, rfl, ?_, ⟨_, rfl⟩, hW, hsame.mono (by decide) (by decide)⟩
 ·show S_ p e below s₁ m 0 #[vr s_, vi 3] [] _
  refine XS.iloadN X0.here hx rfl (hb hby d10_0) rfl ?_
  show S_ p e below s₁ m 1 #[vr s_, vi 3] [(ii 3)] _
  refine XS.aloadN X0.here hx rfl (hb hby d10_1) rfl rfl ?_
  show S_ p e below s₁ m 2 #[vr s_, vi 3] [(rr s_), (ii 3)] _
  refine ldLen X0 hx hZ e0 A0_ rfl rfl (hb hby d10_2) ?_
  show S_ p e below s₁ m 3 #[vr s_, vi 3] [(ii 3), (ii 3)] _
  refine XS.isub X0.here hx rfl (hb hby d10_3) rfl ?_
  show S_ p e below s₁ m 4 #[vr s_, vi 3] [(ii 0)] _
  refine XS.bipush X0.here hx rfl (hb hby d10_4) ?_
  show S_ p e below s₁ m 6 #[vr s_, vi 3] [(ii 31), (ii 0)] _
  refine XS.iushr X0.here hx rfl (hb hby d10_6) rfl ?_
  show S_ p e below s₁ m 7 #[vr s_, vi 3] [(ii 0)] _
  refine XS.i2b X0.here hx rfl (hb hby d10_7) rfl ?_
  show S_ p e below s₁ m 8 #[vr s_, vi 3] [(ii 0)] _
  exact retN X0 hx (t := .byte) Bd.returns (by simp) (hb hby d10_8) hr
 ·show Q_codl_3 Z s_ ks_ vs_ h0 n0 _ s₁.heap _
  rw [e0]
  exact ⟨rfl, N0, rfl⟩
theorem ef_codu_3 (m : MethodId) (s_ : Addr) : entryFrame m #[(rr s_), (ii 3)] 2 = mkF m 0 #[vr s_, vi 3] [] := by first | (simp [entryFrame, mkF, argsToLocals, Value.category]; done) | rfl
def Q_codu_3 (Z : State) (s_ : Addr) (ks_ : ClassId) (vs_ : List Value) (h0 : Heap) (n0 : Nat) (v : Option Value) (h : Heap) (L : List Loc) : Prop := v = some (ii 1) ∧ Fr n0 L ∧ h = h0
set_option maxRecDepth 65536 in
set_option maxHeartbeats 40000000 in
theorem rm_codu_3 (l : Launch) (Z : State) (a0 : Array Value) (hw : HW Z a0) (ws : List Jvm.Cond) (s_ : Addr) (ks_ : ClassId) (vs_ : List Value) (h0 : Heap) (n0 : Nat) (O0 : Old Z n0 h0) (A0_ : Arv Z h0 s_ ks_ .byte (6 : Int32) vs_ (ii 0)) :
  MFP l Z (⟨nm1, "coderFromArrayLen", "([BI)B"⟩ : MethodName) jdk_52_method_15_code 2 (some .byte) ({ frames := 0, cells := 0, slots := 0, locals := 0 } : Room) ws #[(rr s_), (ii 3)] h0 (Q_codu_3 Z s_ ks_ vs_ h0 n0) := by
 refine MetFree.of_bodySF (plainFor_of_name pn_java_lang_StringUTF16) hisR ?_
 intro p e s m args below meth c s₁ Bd hml0 hP hK
 obtain ⟨rfl, hZ, hh⟩ := hP
 have hx := Bd.exec
 have hby := Bd.bytes
 have hml : c.maxLocals = 2 := hml0
 have hown : s.vm.findClass nm1 = some m.cls := findClass_of_methodNamed Bd.named
 have hnm := (name_of_methodNamed Bd.named Bd.method).1
 have X0 : Stand p l e ({ frames := 0, cells := 0, slots := 0, locals := 0 } : Room) s m #[(rr s_), (ii 3)] below meth c s₁ [] 0 0 := Stand.of_body Bd
 have e0 : s₁.heap = h0 := by rw [← hh, Bd.state]; rfl
 have N0 := Fr.nil n0
 have kp0 : Keep h0 h0 [] := Keep.refl _ _
 have c0 : ∀ t, S_ p e below s₁ m 0 #[vr s_, vi 3] [] t → Steps p.tables e below (s₁.setTop (entryFrame m #[(rr s_), (ii 3)] 2)) t := fun t k => castTop (ef_codu_3 m s_) k
 generalize s₁.setTop (entryFrame m #[(rr s_), (ii 3)] 2) = st0 at c0 ⊢
 replace c0 : Kt p e below s₁ st0 (mkF m 0 #[vr s_, vi 3] []) := c0
 obtain ⟨fs, hr, hrun, hended, hW, hsame⟩ := X0.leave (v := some (ii 1)) (fun h => by rw [Bd.returns] at h; cases h)
 refine ⟨_, _, c0 _ ?_, hrun, hended, _, _, rfl, ?_, ⟨_, rfl⟩, hW, hsame.mono (by decide) (by decide)⟩
 ·show S_ p e below s₁ m 0 #[vr s_, vi 3] [] _
  refine XS.iloadN X0.here hx rfl (hb hby d10_0) rfl ?_
  show S_ p e below s₁ m 1 #[vr s_, vi 3] [(ii 3)] _
  refine XS.aloadN X0.here hx rfl (hb hby d10_1) rfl rfl ?_
  show S_ p e below s₁ m 2 #[vr s_, vi 3] [(rr s_), (ii 3)] _
  refine ldLen X0 hx hZ e0 A0_ rfl rfl (hb hby d10_2) ?_
  show S_ p e below s₁ m 3 #[vr s_, vi 3] [(ii 6), (ii 3)] _
  refine XS.isub X0.here hx rfl (hb hby d10_3) rfl ?_
  show S_ p e below s₁ m 4 #[vr s_, vi 3] [(ii (-3))] _
  refine XS.bipush X0.here hx rfl (hb hby d10_4) ?_
  show S_ p e below s₁ m 6 #[vr s_, vi 3] [(ii 31), (ii (-3))] _
  refine XS.iushr X0.here hx rfl (hb hby d10_6) rfl ?_
  show S_ p e below s₁ m 7 #[vr s_, vi 3] [(ii 1)] _
  refine XS.i2b X0.here hx rfl (hb hby d10_7) rfl ?_
  show S_ p e below s₁ m 8 #[vr s_, vi 3] [(ii 1)] _
  exact retN X0 hx (t := .byte) Bd.returns (by simp) (hb hby d10_8) hr
 ·show Q_codu_3 Z s_ ks_ vs_ h0 n0 _ s₁.heap _
  rw [e0]
  exact ⟨rfl, N0, rfl⟩
theorem ef_str4a_3 (m : MethodId) (x_ : Addr) (s_ : Addr) : entryFrame m #[(rr x_), (rr s_), (ii 0), (ii 3), .null] 6 = mkF m 0 #[vr x_, vr s_, vi 0, vi 3, .val .null, u_] [] := by first | (simp [entryFrame, mkF, argsToLocals, Value.category]; done) | rfl
def Q_str4a_3 (Z : State) (x_ : Addr) (s_ : Addr) (ks_ : ClassId) (z_ : Int32) (c0_ : Int32) (c1_ : Int32) (c2_ : Int32) (h0 : Heap) (n0 : Nat) (v : Option Value) (h : Heap) (L : List Loc) : Prop := (v = none ∧ Fr n0 L ∧ Keep h0 h [x_] ∧ Exa Z h x_ nm0 ∧ Fld Z h x_ nm0 "coder" "B" (ii 0) ∧ ∃ (b_ : Addr), ∃ (kb_ : ClassId), Fld Z h x_ nm0 "value" "[B" (rr b_) ∧ Arv Z h b_ kb_ .byte (3 : Int32) [(.int (nar .byte (c0_.toInt8.toInt32))), (.int (nar .byte (c1_.toInt8.toInt32))), (.int (nar .byte (c2_.toInt8.toInt32)))] (ii 0) ∧ n0 ≤ b_ ∧ h0.size ≤ b_ ∧ ¬ ((255 : Int32) < c0_) ∧ ¬ ((255 : Int32) < c1_) ∧ ¬ ((255 : Int32) < c2_)) ∨ (v = none ∧ Fr n0 L ∧ Keep h0 h [x_] ∧ Exa Z h x_ nm0 ∧ Fld Z h x_ nm0 "coder" "B" (ii 1) ∧ ∃ (b_ : Addr), ∃ (kb_ : ClassId), Fld Z h x_ nm0 "value" "[B" (rr b_) ∧ Arv Z h b_ kb_ .byte (6 : Int32) [(.int (nar .byte ((c0_ >>> ((0 : Int32) &&& 31)).toInt8.toInt32))), (.int (nar .byte ((c0_ >>> ((8 : Int32) &&& 31)).toInt8.toInt32))), (.int (nar .byte ((c1_ >>> ((0 : Int32) &&& 31)).toInt8.toInt32))), (.int (nar .byte ((c1_ >>> ((8 : Int32) &&& 31)).toInt8.toInt32))), (.int (nar .byte ((c2_ >>> ((0 : Int32) &&& 31)).toInt8.toInt32))), (.int (nar .byte ((c2_ >>> ((8 : Int32) &&& 31)).toInt8.toInt32)))] (ii 0) ∧ n0 ≤ b_ ∧ h0.size ≤ b_)
set_option maxRecDepth 65536 in
set_option maxHeartbeats 40000000 in
theorem rm_str4a_3 (l : Launch) (Z : State) (a0 : Array Value) (hw : HW Z a0) (ws : List Jvm.Cond) (x_ : Addr) (s_ : Addr) (ks_ : ClassId) (z_ : Int32) (c0_ : Int32) (c1_ : Int32) (c2_ : Int32) (h0 : Heap) (n0 : Nat) (O0 : Old Z n0 h0) (E0_ : Exa Z h0 x_ nm0) (F1_ : Fld Z h0 x_ nm0 "value" "[B" .null) (F2_ : Fld Z h0 x_ nm0 "coder" "B" (ii 0)) (G3_ : n0 ≤ x_) (A4_ : Arv Z h0 s_ ks_ .char (3 : Int32) [(.int c0_), (.int c1_), (.int c2_)] (ii 0)) (ZS5_ : Sta Z Z.heap nm0 "COMPACT_STRINGS" "Z" (.int z_)) (hz_ : ¬ (z_ = (0 : Int32))) (ZS7_ : Sta Z Z.heap nm1 "$assertionsDisabled" "Z" (ii 1)) (ZS8_ : Sta Z Z.heap nm1 "HI_BYTE_SHIFT" "I" (ii 0)) (ZS9_ : Sta Z Z.heap nm1 "LO_BYTE_SHIFT" "I" (ii 8)) (hc0_ : nar .char c0_ = c0_) (hc1_ : nar .char c1_ = c1_) (hc2_ : nar .char c2_ = c2_) :
  MFP l Z (⟨nm0, "<init>", "([CIILjava/lang/Void;)V"⟩ : MethodName) jdk_42_method_149_code 6 none ({ frames := 4, cells := 2, slots := 9, locals := 57 } : Room) ws #[(rr x_), (rr s_), (ii 0), (ii 3), .null] h0 (Q_str4a_3 Z x_ s_ ks_ z_ c0_ c1_ c2_ h0 n0) := by
 refine MetFree.of_bodySF (plainFor_of_name pn_java_lang_String) hisR ?_
 intro p e s m args below meth c s₁ Bd hml0 hP hK
 obtain ⟨rfl, hZ, hh⟩ := hP
 have hx := Bd.exec
 have hby := Bd.bytes
 have hml : c.maxLocals = 6 := hml0
 have hown : s.vm.findClass nm0 = some m.cls := findClass_of_methodNamed Bd.named
 have hnm := (name_of_methodNamed Bd.named Bd.method).1
 have X0 : Stand p l e ({ frames := 4, cells := 2, slots := 9, locals := 57 } : Room) s m #[(rr x_), (rr s_), (ii 0), (ii 3), .null] below meth c s₁ [] 0 0 := Stand.of_body Bd
 have e0 : s₁.heap = h0 := by rw [← hh, Bd.state]; rfl
 have N0 := Fr.nil n0
 have kp0 : Keep h0 h0 [x_] := Keep.refl _ _
 have c0 : ∀ t, S_ p e below s₁ m 0 #[vr x_, vr s_, vi 0, vi 3, .val .null, u_] [] t → Steps p.tables e below (s₁.setTop (entryFrame m #[(rr x_), (rr s_), (ii 0), (ii 3), .null] 6)) t := fun t k => castTop (ef_str4a_3 m x_ s_) k
 generalize s₁.setTop (entryFrame m #[(rr x_), (rr s_), (ii 0), (ii 3), .null] 6) = st0 at c0 ⊢
 replace c0 : Kt p e below s₁ st0 (mkF m 0 #[vr x_, vr s_, vi 0, vi 3, .val .null, u_] []) := c0
 have c1 : Kt p e below s₁ st0 (mkF m 1 #[vr x_, vr s_, vi 0, vi 3, .val .null, u_] [(rr x_)]) := fun t k => by
  refine c0 t ?_
  show S_ p e below s₁ m 0 #[vr x_, vr s_, vi 0, vi 3, .val .null, u_] [] t
  refine XS.aloadN X0.here hx rfl (hb hby d11_0) rfl rfl ?_
  exact k
 obtain ⟨T2, X2, e2, c2⟩ := kinit X0 hx hZ hown (w13 hw) (w14 hw) (w15 hw) e0 c1 rfl hml rfl rfl (hb hby d11_1) 0 (own_w rfl) (by decide) (by decide)
 have c3 : Kt p e below T2 st0 (mkF m 27 #[vr x_, vr s_, vi 0, vi 3, .val .null, u_] []) := fun t k => by
  refine c2 t ?_
  show S_ p e below T2 m 4 #[vr x_, vr s_, vi 0, vi 3, .val .null, u_] [] t
  refine XS.iloadN X2.here hx rfl (hb hby d11_4) rfl ?_
  show S_ p e below T2 m 5 #[vr x_, vr s_, vi 0, vi 3, .val .null, u_] [(ii 3)] t
  refine yI X2.here hx rfl 5 27 rfl (hb hby d11_5) rfl rfl ?_
  exact k
 obtain ⟨T4, X4, e4, c4⟩ := kgetS X2 hx hZ hown (host := "") (Or.inl (w38 hw)) Via.refl e2 (ZS5_.ext O0.2) c3 rfl (hb hby d11_27)
 have c5 : Kt p e below T4 st0 (mkF m 36 #[vr x_, vr s_, vi 0, vi 3, .val .null, u_] [(ii 3), (ii 0), (rr s_)]) := fun t k => by
  refine c4 t ?_
  show S_ p e below T4 m 30 #[vr x_, vr s_, vi 0, vi 3, .val .null, u_] [(.int z_)] t
  refine XS.ifNo X4.here hx rfl (hb hby d11_30) rfl ((if0 _ _).trans (feq hz_).1) ?_
  show S_ p e below T4 m 33 #[vr x_, vr s_, vi 0, vi 3, .val .null, u_] [] t
  refine XS.aloadN X4.here hx rfl (hb hby d11_33) rfl rfl ?_
  show S_ p e below T4 m 34 #[vr x_, vr s_, vi 0, vi 3, .val .null, u_] [(rr s_)] t
  refine XS.iloadN X4.here hx rfl (hb hby d11_34) rfl ?_
  show S_ p e below T4 m 35 #[vr x_, vr s_, vi 0, vi 3, .val .null, u_] [(ii 0), (rr s_)] t
  refine XS.iloadN X4.here hx rfl (hb hby d11_35) rfl ?_
  exact k
 obtain ⟨_, T6, L6, X6, hQ6, c6⟩ := kstat X4 hx hZ hown (w39 hw) (w40 hw) (w41 hw) (w42 hw) (rm_cmp3a_3 l Z a0 hw [] s_ ks_ c0_ c1_ c2_ h0 n0 O0 A4_ ZS7_ ZS8_ ZS9_ hc0_ hc1_ hc2_) e4 c5 hml pd_pACIIrAB [(rr s_), (ii 0), (ii 3)] [] 0 (hb hby d11_36) rfl rfl rfl rfl rfl rfl
 rcases hQ6 with hQ6 | hQ6
 ·obtain ⟨b7, k8, rfl, N9q, K10, p11, p12, p13, p14, p15, p16⟩ := hQ6
  have N9 := Fr.app N0 N9q
  have o17 := O0.keep K10 all0
  have kp18 := kp0.trans K10 all0
  have z19 := Nat.le_trans kp0.1 p13
  have g20 := Nat.le_trans (Nat.le_trans (Nat.le_of_eq O0.1.symm) O0.2.1) p13
  have c21 : Kt p e below T6 st0 (mkF m 45 #[vr x_, vr s_, vi 0, vi 3, .val .null, vr b7] [(ii 3), (rr b7), (rr x_)]) := fun t k => by
   refine c6 t ?_
   show S_ p e below T6 m 39 #[vr x_, vr s_, vi 0, vi 3, .val .null, u_] [(rr b7)] t
   refine XS.astore X6.here hx rfl (hb hby d11_39) rfl rfl (l' := #[vr x_, vr s_, vi 0, vi 3, .val .null, vr b7]) rfl ?_
   show S_ p e below T6 m 41 #[vr x_, vr s_, vi 0, vi 3, .val .null, vr b7] [] t
   refine XS.aloadN X6.here hx rfl (hb hby d11_41) rfl rfl ?_
   show S_ p e below T6 m 42 #[vr x_, vr s_, vi 0, vi 3, .val .null, vr b7] [(rr x_)] t
   refine XS.aload X6.here hx rfl (hb hby d11_42) rfl rfl ?_
   show S_ p e below T6 m 44 #[vr x_, vr s_, vi 0, vi 3, .val .null, vr b7] [(rr b7), (rr x_)] t
   refine XS.iloadN X6.here hx rfl (hb hby d11_44) rfl ?_
   exact k
  obtain ⟨_, T22, L22, X22, hQ22, c22⟩ := kstat X6 hx hZ hown (w46 hw) (w47 hw) (w41 hw) (w48 hw) (rm_codl_3 l Z a0 hw [] b7 k8 [(.int (nar .byte (c0_.toInt8.toInt32))), (.int (nar .byte (c1_.toInt8.toInt32))), (.int (nar .byte (c2_.toInt8.toInt32)))] T6.heap n0 o17 p11) rfl c21 hml pd_pABIrB [(rr b7), (ii 3)] [(rr x_)] 1 (hb hby d11_45) rfl rfl rfl rfl rfl rfl
  obtain ⟨rfl, N23q, K24⟩ := hQ22
  have N23 := Fr.app N9 N23q
  obtain ⟨T25, h25, X25, e25, W25, f26, o28, N27, c25⟩ := kput X22 hx hZ .byte hown (host := "") (Or.inl (w23 hw)) Via.refl K24 (F2_.keep K10 nin0) (E0_.keep K10) (Or.inr ⟨(w19 hw), rfl, hnm⟩) (w4 hw) c22 rfl rfl (hb hby d11_48) (by decide) rfl rfl o17 N23 G3_
  have kp29 := kp18.wr W25 (Or.inl (List.mem_of_getElem? (i := 0) rfl))
  have f30 := (F1_.keep K10 nin0).other W25 (Or.inr (slot_ne (Or.inr (w18 hw)) (Or.inr (w19 hw)) (by decide) (t := (.array .byte)) (t' := .byte) (by decide) (by decide)))
  have c31 : Kt p e below T25 st0 (mkF m 54 #[vr x_, vr s_, vi 0, vi 3, .val .null, vr b7] [(rr b7), (rr x_)]) := fun t k => by
   refine c25 t ?_
   show S_ p e below T25 m 51 #[vr x_, vr s_, vi 0, vi 3, .val .null, vr b7] [] t
   refine XS.aloadN X25.here hx rfl (hb hby d11_51) rfl rfl ?_
   show S_ p e below T25 m 52 #[vr x_, vr s_, vi 0, vi 3, .val .null, vr b7] [(rr x_)] t
   refine XS.aload X25.here hx rfl (hb hby d11_52) rfl rfl ?_
   exact k
  obtain ⟨T32, h32, X32, e32, W32, f33, o35, N34, c32⟩ := kput X25 hx hZ (.array .byte) hown (host := "") (Or.inl (w22 hw)) Via.refl e25 f30 ((E0_.keep K10).wr W25) (Or.inr ⟨(w18 hw), rfl, hnm⟩) (w4 hw) c31 rfl rfl (hb hby d11_54) (by decide) rfl rfl o28 N27 G3_
  have kp36 := kp29.wr W32 (Or.inl (List.mem_of_getElem? (i := 0) rfl))
  have f37 := f26.other W32 (Or.inr (slot_ne (Or.inr (w19 hw)) (Or.inr (w18 hw)) (by decide) (t := .byte) (t' := (.array .byte)) (by decide) (by decide)))
  have q38 := Ne.symm (Nat.ne_of_lt (Nat.lt_of_lt_of_le E0_.lt p13))
  obtain ⟨fs, hr, hrun, hended, hW, hsame⟩ := X32.leave (v := none) (fun _ => rfl)
  refine ⟨_, _, c32 _ ?_, hrun, hended, _, _, rfl, ?_, ⟨_, rfl⟩, hW, hsame.mono (by decide) (by decide)⟩
  ·show S_ p e below T32 m 57 #[vr x_, vr s_, vi 0, vi 3, .val .null, vr b7] [] _
   exact X32.returnOut hx Bd.returns (hb hby d11_57) hr
  ·show Q_str4a_3 Z x_ s_ ks_ z_ c0_ c1_ c2_ h0 n0 _ T32.heap _
   rw [e32]
   exact (Or.inl ⟨rfl, N34, kp36, (((E0_.keep K10).wr W25).wr W32), f37, b7, k8, f33, ((p11.other W25 q38).other W32 q38), g20, z19, p14, p15, p16⟩)
 ·obtain ⟨b39, k40, rfl, N41q, K42, p43, p44, p45⟩ := hQ6
  have N41 := Fr.app N0 N41q
  have o46 := O0.keep K42 all0
  have kp47 := kp0.trans K42 all0
  have z48 := Nat.le_trans kp0.1 p45
  have g49 := Nat.le_trans (Nat.le_trans (Nat.le_of_eq O0.1.symm) O0.2.1) p45
  have c50 : Kt p e below T6 st0 (mkF m 45 #[vr x_, vr s_, vi 0, vi 3, .val .null, vr b39] [(ii 3), (rr b39), (rr x_)]) := fun t k => by
   refine c6 t ?_
   show S_ p e below T6 m 39 #[vr x_, vr s_, vi 0, vi 3, .val .null, u_] [(rr b39)] t
   refine XS.astore X6.here hx rfl (hb hby d11_39) rfl rfl (l' := #[vr x_, vr s_, vi 0, vi 3, .val .null, vr b39]) rfl ?_
   show S_ p e below T6 m 41 #[vr x_, vr s_, vi 0, vi 3, .val .null, vr b39] [] t
   refine XS.aloadN X6.here hx rfl (hb hby d11_41) rfl rfl ?_
   show S_ p e below T6 m 42 #[vr x_, vr s_, vi 0, vi 3, .val .null, vr b39] [(rr x_)] t
   refine XS.aload X6.here hx rfl (hb hby d11_42) rfl rfl ?_
   show S_ p e below T6 m 44 #[vr x_, vr s_, vi 0, vi 3, .val .null, vr b39] [(rr b39), (rr x_)] t
   refine XS.iloadN X6.here hx rfl (hb hby d11_44) rfl ?_
   exact k
  obtain ⟨_, T51, L51, X51, hQ51, c51⟩ := kstat X6 hx hZ hown (w46 hw) (w47 hw) (w41 hw) (w48 hw) (rm_codu_3 l Z a0 hw [] b39 k40 [(.int (nar .byte ((c0_ >>> ((0 : Int32) &&& 31)).toInt8.toInt32))), (.int (nar .byte ((c0_ >>> ((8 : Int32) &&& 31)).toInt8.toInt32))), (.int (nar .byte ((c1_ >>> ((0 : Int32) &&& 31)).toInt8.toInt32))), (.int (nar .byte ((c1_ >>> ((8 : Int32) &&& 31)).toInt8.toInt32))), (.int (nar .byte ((c2_ >>> ((0 : Int32) &&& 31)).toInt8.toInt32))), (.int (nar .byte ((c2_ >>> ((8 : Int32) &&& 31)).toInt8.toInt32)))] T6.heap n0 o46 p43) rfl c50 hml pd_pABIrB [(rr b39), (ii 3)] [(rr x_)] 1 (hb hby d11_45) rfl rfl rfl rfl rfl rfl
  obtain ⟨rfl, N52q, K53⟩ := hQ51
  have N52 := Fr.app N41 N52q
  obtain ⟨T54, h54, X54, e54, W54, f55, o57, N56, c54⟩ := kput X51 hx hZ .byte hown (host := "") (Or.inl (w23 hw)) Via.refl K53 (F2_.keep K42 nin0) (E0_.keep K42) (Or.inr ⟨(w19 hw), rfl, hnm⟩) (w4 hw) c51 rfl rfl (hb hby d11_48) (by decide) rfl rfl o46 N52 G3_
  have kp58 := kp47.wr W54 (Or.inl (List.mem_of_getElem? (i := 0) rfl))
  have f59 := (F1_.keep K42 nin0).other W54 (Or.inr (slot_ne (Or.inr (w18 hw)) (Or.inr (w19 hw)) (by decide) (t := (.array .byte)) (t' := .byte) (by decide) (by decide)))
  have c60 : Kt p e below T54 st0 (mkF m 54 #[vr x_, vr s_, vi 0, vi 3, .val .null, vr b39] [(rr b39), (rr x_)]) := fun t k => by
   refine c54 t ?_
   show S_ p e below T54 m 51 #[vr x_, vr s_, vi 0, vi 3, .val .null, vr b39] [] t
   refine XS.aloadN X54.here hx rfl (hb hby d11_51) rfl rfl ?_
   show S_ p e below T54 m 52 #[vr x_, vr s_, vi 0, vi 3, .val .null, vr b39] [(rr x_)] t
   refine XS.aload X54.here hx rfl (hb hby d11_52) rfl rfl ?_
   exact k
  obtain ⟨T61, h61, X61, e61, W61, f62, o64, N63, c61⟩ := kput X54 hx hZ (.array .byte) hown (host := "") (Or.inl (w22 hw)) Via.refl e54 f59 ((E0_.keep K42).wr W54) (Or.inr ⟨(w18 hw), rfl, hnm⟩) (w4 hw) c60 rfl rfl (hb hby d11_54) (by decide) rfl rfl o57 N56 G3_
  have kp65 := kp58.wr W61 (Or.inl (List.mem_of_getElem? (i := 0) rfl))
  have f66 := f55.other W61 (Or.inr (slot_ne (Or.inr (w19 hw)) (Or.inr (w18 hw)) (by decide) (t := .byte) (t' := (.array .byte)) (by decide) (by decide)))
  have q67 := Ne.symm (Nat.ne_of_lt (Nat.lt_of_lt_of_le E0_.lt p45))
  obtain ⟨fs, hr, hrun, hended, hW, hsame⟩ := X61.leave (v := none) (fun _ => rfl)
  refine ⟨_, _, c61 _ ?_, hrun, hended, _, _, rfl, ?_, ⟨_, rfl⟩, hW, hsame.mono (by decide) (by decide)⟩
  ·show S_ p e below T61 m 57 #[vr x_, vr s_, vi 0, vi 3, .val .null, vr b39] [] _
   exact X61.returnOut hx Bd.returns (hb hby d11_57) hr
  ·show Q_str4a_3 Z x_ s_ ks_ z_ c0_ c1_ c2_ h0 n0 _ T61.heap _
   rw [e61]
   exact (Or.inr (⟨rfl, N63, kp65, (((E0_.keep K42).wr W54).wr W61), f66, b39, k40, f62, ((p43.other W54 q67).other W61 q67), g49, z48⟩))
theorem ef_str1a_3 (m : MethodId) (x_ : Addr) (s_ : Addr) : entryFrame m #[(rr x_), (rr s_)] 2 = mkF m 0 #[vr x_, vr s_] [] := by first | (simp [entryFrame, mkF, argsToLocals, Value.category]; done) | rfl
def Q_str1a_3 (Z : State) (x_ : Addr) (s_ : Addr) (ks_ : ClassId) (z_ : Int32) (c0_ : Int32) (c1_ : Int32) (c2_ : Int32) (h0 : Heap) (n0 : Nat) (v : Option Value) (h : Heap) (L : List Loc) : Prop := (v = none ∧ Fr n0 L ∧ Keep h0 h [x_] ∧ Exa Z h x_ nm0 ∧ Fld Z h x_ nm0 "coder" "B" (ii 0) ∧ ∃ (b_ : Addr), ∃ (kb_ : ClassId), Fld Z h x_ nm0 "value" "[B" (rr b_) ∧ Arv Z h b_ kb_ .byte (3 : Int32) [(.int (nar .byte (c0_.toInt8.toInt32))), (.int (nar .byte (c1_.toInt8.toInt32))), (.int (nar .byte (c2_.toInt8.toInt32)))] (ii 0) ∧ n0 ≤ b_ ∧ h0.size ≤ b_ ∧ ¬ ((255 : Int32) < c0_) ∧ ¬ ((255 : Int32) < c1_) ∧ ¬ ((255 : Int32) < c2_)) ∨ (v = none ∧ Fr n0 L ∧ Keep h0 h [x_] ∧ Exa Z h x_ nm0 ∧ Fld Z h x_ nm0 "coder" "B" (ii 1) ∧ ∃ (b_ : Addr), ∃ (kb_ : ClassId), Fld Z h x_ nm0 "value" "[B" (rr b_) ∧ Arv Z h b_ kb_ .byte (6 : Int32) [(.int (nar .byte ((c0_ >>> ((0 : Int32) &&& 31)).toInt8.toInt32))), (.int (nar .byte ((c0_ >>> ((8 : Int32) &&& 31)).toInt8.toInt32))), (.int (nar .byte ((c1_ >>> ((0 : Int32) &&& 31)).toInt8.toInt32))), (.int (nar .byte ((c1_ >>> ((8 : Int32) &&& 31)).toInt8.toInt32))), (.int (nar .byte ((c2_ >>> ((0 : Int32) &&& 31)).toInt8.toInt32))), (.int (nar .byte ((c2_ >>> ((8 : Int32) &&& 31)).toInt8.toInt32)))] (ii 0) ∧ n0 ≤ b_ ∧ h0.size ≤ b_)
set_option maxRecDepth 65536 in
set_option maxHeartbeats 40000000 in
theorem rm_str1a_3 (l : Launch) (Z : State) (a0 : Array Value) (hw : HW Z a0) (ws : List Jvm.Cond) (x_ : Addr) (s_ : Addr) (ks_ : ClassId) (z_ : Int32) (c0_ : Int32) (c1_ : Int32) (c2_ : Int32) (h0 : Heap) (n0 : Nat) (O0 : Old Z n0 h0) (E0_ : Exa Z h0 x_ nm0) (F1_ : Fld Z h0 x_ nm0 "value" "[B" .null) (F2_ : Fld Z h0 x_ nm0 "coder" "B" (ii 0)) (G3_ : n0 ≤ x_) (A4_ : Arv Z h0 s_ ks_ .char (3 : Int32) [(.int c0_), (.int c1_), (.int c2_)] (ii 0)) (ZS5_ : Sta Z Z.heap nm0 "COMPACT_STRINGS" "Z" (.int z_)) (hz_ : ¬ (z_ = (0 : Int32))) (ZS7_ : Sta Z Z.heap nm1 "$assertionsDisabled" "Z" (ii 1)) (ZS8_ : Sta Z Z.heap nm1 "HI_BYTE_SHIFT" "I" (ii 0)) (ZS9_ : Sta Z Z.heap nm1 "LO_BYTE_SHIFT" "I" (ii 8)) (hc0_ : nar .char c0_ = c0_) (hc1_ : nar .char c1_ = c1_) (hc2_ : nar .char c2_ = c2_) :
  MFP l Z (⟨nm0, "<init>", "([C)V"⟩ : MethodName) jdk_42_method_3_code 2 none ({ frames := 5, cells := 2, slots := 9, locals := 74 } : Room) ws #[(rr x_), (rr s_)] h0 (Q_str1a_3 Z x_ s_ ks_ z_ c0_ c1_ c2_ h0 n0) := by
 refine MetFree.of_bodySF (plainFor_of_name pn_java_lang_String) hisR ?_
 intro p e s m args below meth c s₁ Bd hml0 hP hK
 obtain ⟨rfl, hZ, hh⟩ := hP
 have hx := Bd.exec
 have hby := Bd.bytes
 have hml : c.maxLocals = 2 := hml0
 have hown : s.vm.findClass nm0 = some m.cls := findClass_of_methodNamed Bd.named
 have hnm := (name_of_methodNamed Bd.named Bd.method).1
 have X0 : Stand p l e ({ frames := 5, cells := 2, slots := 9, locals := 74 } : Room) s m #[(rr x_), (rr s_)] below meth c s₁ [] 0 0 := Stand.of_body Bd
 have e0 : s₁.heap = h0 := by rw [← hh, Bd.state]; rfl
 have N0 := Fr.nil n0
 have kp0 : Keep h0 h0 [x_] := Keep.refl _ _
 have c0 : ∀ t, S_ p e below s₁ m 0 #[vr x_, vr s_] [] t → Steps p.tables e below (s₁.setTop (entryFrame m #[(rr x_), (rr s_)] 2)) t := fun t k => castTop (ef_str1a_3 m x_ s_) k
 generalize s₁.setTop (entryFrame m #[(rr x_), (rr s_)] 2) = st0 at c0 ⊢
 replace c0 : Kt p e below s₁ st0 (mkF m 0 #[vr x_, vr s_] []) := c0
 have c1 : Kt p e below s₁ st0 (mkF m 6 #[vr x_, vr s_] [.null, (ii 3), (ii 0), (rr s_), (rr x_)]) := fun t k => by
  refine c0 t ?_
  show S_ p e below s₁ m 0 #[vr x_, vr s_] [] t
  refine XS.aloadN X0.here hx rfl (hb hby d12_0) rfl rfl ?_
  show S_ p e below s₁ m 1 #[vr x_, vr s_] [(rr x_)] t
  refine XS.aloadN X0.here hx rfl (hb hby d12_1) rfl rfl ?_
  show S_ p e below s₁ m 2 #[vr x_, vr s_] [(rr s_), (rr x_)] t
  refine XS.iconst X0.here hx rfl (hb hby d12_2) ?_
  show S_ p e below s₁ m 3 #[vr x_, vr s_] [(ii 0), (rr s_), (rr x_)] t
  refine XS.aloadN X0.here hx rfl (hb hby d12_3) rfl rfl ?_
  show S_ p e below s₁ m 4 #[vr x_, vr s_] [(rr s_), (ii 0), (rr s_), (rr x_)] t
  refine ldLen X0 hx hZ e0 A4_ rfl rfl (hb hby d12_4) ?_
  show S_ p e below s₁ m 5 #[vr x_, vr s_] [(ii 3), (ii 0), (rr s_), (rr x_)] t
  refine XS.aconstNull X0.here hx rfl (hb hby d12_5) ?_
  exact k
 obtain ⟨_, T2, L2, X2, hQ2, c2⟩ := kspec X0 hx hZ hown (w9 hw) (w10 hw) (w5 hw) (w12 hw) (rm_str4a_3 l Z a0 hw [] x_ s_ ks_ z_ c0_ c1_ c2_ h0 n0 O0 E0_ F1_ F2_ G3_ A4_ ZS5_ hz_ ZS7_ ZS8_ ZS9_ hc0_ hc1_ hc2_) e0 c1 hml pd_pACIILjava_lang_Void_rV x_ [(rr s_), (ii 0), (ii 3), .null] [] 0 (hb hby d12_6) rfl rfl rfl rfl rfl rfl
 rcases hQ2 with hQ2 | hQ2
 ·obtain ⟨rfl, N3q, K4, p5, p6, b7, k8, p9, p10, p11, p12, p13, p14, p15⟩ := hQ2
  have N3 := Fr.app N0 N3q
  have o16 := O0.keep K4 (allS G3_ all0)
  have kp17 := kp0.trans K4 (allS (Or.inl (List.mem_of_getElem? (i := 0) rfl)) all0)
  have z18 := Nat.le_trans kp0.1 p12
  have g19 := Nat.le_trans (Nat.le_trans (Nat.le_of_eq O0.1.symm) O0.2.1) p12
  obtain ⟨fs, hr, hrun, hended, hW, hsame⟩ := X2.leave (v := none) (fun _ => rfl)
  refine ⟨_, _, c2 _ ?_, hrun, hended, _, _, rfl, ?_, ⟨_, rfl⟩, hW, hsame.mono (by decide) (by decide)⟩
  ·show S_ p e below T2 m 9 #[vr x_, vr s_] [] _
   exact X2.returnOut hx Bd.returns (hb hby d12_9) hr
  ·show Q_str1a_3 Z x_ s_ ks_ z_ c0_ c1_ c2_ h0 n0 _ T2.heap _
   exact (Or.inl ⟨rfl, N3, kp17, p5, p6, b7, k8, p9, p10, g19, z18, p13, p14, p15⟩)
 ·obtain ⟨rfl, N20q, K21, p22, p23, b24, k25, p26, p27, p28, p29⟩ := hQ2
  have N20 := Fr.app N0 N20q
  have o30 := O0.keep K21 (allS G3_ all0)
  have kp31 := kp0.trans K21 (allS (Or.inl (List.mem_of_getElem? (i := 0) rfl)) all0)
  have z32 := Nat.le_trans kp0.1 p29
  have g33 := Nat.le_trans (Nat.le_trans (Nat.le_of_eq O0.1.symm) O0.2.1) p29
  obtain ⟨fs, hr, hrun, hended, hW, hsame⟩ := X2.leave (v := none) (fun _ => rfl)
  refine ⟨_, _, c2 _ ?_, hrun, hended, _, _, rfl, ?_, ⟨_, rfl⟩, hW, hsame.mono (by decide) (by decide)⟩
  ·show S_ p e below T2 m 9 #[vr x_, vr s_] [] _
   exact X2.returnOut hx Bd.returns (hb hby d12_9) hr
  ·show Q_str1a_3 Z x_ s_ ks_ z_ c0_ c1_ c2_ h0 n0 _ T2.heap _
   exact (Or.inr (⟨rfl, N20, kp31, p22, p23, b24, k25, p26, p27, g33, z32⟩))
theorem ef_u16len_3 (m : MethodId) (s_ : Addr) : entryFrame m #[(rr s_)] 1 = mkF m 0 #[vr s_] [] := by first | (simp [entryFrame, mkF, argsToLocals, Value.category]; done) | rfl
def Q_u16len_3 (Z : State) (s_ : Addr) (ks_ : ClassId) (vs_ : List Value) (h0 : Heap) (n0 : Nat) (v : Option Value) (h : Heap) (L : List Loc) : Prop := v = some (ii 3) ∧ Fr n0 L ∧ h = h0
set_option maxRecDepth 65536 in
set_option maxHeartbeats 40000000 in
theorem rm_u16len_3 (l : Launch) (Z : State) (a0 : Array Value) (hw : HW Z a0) (ws : List Jvm.Cond) (s_ : Addr) (ks_ : ClassId) (vs_ : List Value) (h0 : Heap) (n0 : Nat) (O0 : Old Z n0 h0) (A0_ : Arv Z h0 s_ ks_ .byte (6 : Int32) vs_ (ii 0)) :
  MFP l Z (⟨nm1, "length", "([B)I"⟩ : MethodName) jdk_52_method_6_code 1 (some .int) ({ frames := 0, cells := 0, slots := 0, locals := 0 } : Room) ws #[(rr s_)] h0 (Q_u16len_3 Z s_ ks_ vs_ h0 n0) := by
 refine MetFree.of_bodySF (plainFor_of_name pn_java_lang_StringUTF16) hisR ?_
 intro p e s m args below meth c s₁ Bd hml0 hP hK
 obtain ⟨rfl, hZ, hh⟩ := hP
 have hx := Bd.exec
 have hby := Bd.bytes
 have hml : c.maxLocals = 1 := hml0
 have hown : s.vm.findClass nm1 = some m.cls := findClass_of_methodNamed Bd.named
 have hnm := (name_of_methodNamed Bd.named Bd.method).1
 have X0 : Stand p l e ({ frames := 0, cells := 0, slots := 0, locals := 0 } : Room) s m #[(rr s_)] below meth c s₁ [] 0 0 := Stand.of_body Bd
 have e0 : s₁.heap = h0 := by rw [← hh, Bd.state]; rfl
 have N0 := Fr.nil n0
 have kp0 : Keep h0 h0 [] := Keep.refl _ _
 have c0 : ∀ t, S_ p e below s₁ m 0 #[vr s_] [] t → Steps p.tables e below (s₁.setTop (entryFrame m #[(rr s_)] 1)) t := fun t k => castTop (ef_u16len_3 m s_) k
 generalize s₁.setTop (entryFrame m #[(rr s_)] 1) = st0 at c0 ⊢
 replace c0 : Kt p e below s₁ st0 (mkF m 0 #[vr s_] []) := c0
 obtain ⟨fs, hr, hrun, hended, hW, hsame⟩ := X0.leave (v := some (ii 3)) (fun h => by rw [Bd.returns] at h; cases h)
 refine ⟨_, _, c0 _ ?_, hrun, hended, _, _, rfl, ?_, ⟨_, rfl⟩, hW, hsame.mono (by decide) (by decide)⟩
 ·show S_ p e below s₁ m 0 #[vr s_] [] _
  refine XS.aloadN X0.here hx rfl (hb hby d16_0) rfl rfl ?_
  show S_ p e below s₁ m 1 #[vr s_] [(rr s_)] _
  refine ldLen X0 hx hZ e0 A0_ rfl rfl (hb hby d16_1) ?_
  show S_ p e below s₁ m 2 #[vr s_] [(ii 6)] _
  refine XS.iconst X0.here hx rfl (hb hby d16_2) ?_
  show S_ p e below s₁ m 3 #[vr s_] [(ii 1), (ii 6)] _
  refine XS.ishr X0.here hx rfl (hb hby d16_3) rfl ?_
  show S_ p e below s₁ m 4 #[vr s_] [(ii 3)] _
  exact retOut X0 hx Bd.returns rfl (Or.inl ⟨rfl, Or.inl rfl, _, rfl⟩) (hb hby d16_4) hr
 ·show Q_u16len_3 Z s_ ks_ vs_ h0 n0 _ s₁.heap _
  rw [e0]
  exact ⟨rfl, N0, rfl⟩
theorem ef_u16chk_3 (m : MethodId) (i_ : Int32) (s_ : Addr) : entryFrame m #[(.int i_), (rr s_)] 2 = mkF m 0 #[vi i_, vr s_] [] := by first | (simp [entryFrame, mkF, argsToLocals, Value.category]; done) | rfl
def Q_u16chk_3 (Z : State) (s_ : Addr) (ks_ : ClassId) (vs_ : List Value) (i_ : Int32) (fm_ : Value) (h0 : Heap) (n0 : Nat) (v : Option Value) (h : Heap) (L : List Loc) : Prop := v = none ∧ Fr n0 L ∧ h = h0
set_option maxRecDepth 65536 in
set_option maxHeartbeats 40000000 in
theorem rm_u16chk_3 (l : Launch) (Z : State) (a0 : Array Value) (hw : HW Z a0) (ws : List Jvm.Cond) (s_ : Addr) (ks_ : ClassId) (vs_ : List Value) (i_ : Int32) (fm_ : Value) (h0 : Heap) (n0 : Nat) (O0 : Old Z n0 h0) (A0_ : Arv Z h0 s_ ks_ .byte (6 : Int32) vs_ (ii 0)) (ZS1_ : Sta Z Z.heap nm2 "SIOOBE_FORMATTER" nm4 fm_) (hfm_ : fm_.isRef = true) (h1_ : ¬ (i_ < (0 : Int32))) (h2_ : i_ < (3 : Int32)) :
  MFP l Z (⟨nm1, "checkIndex", "(I[B)V"⟩ : MethodName) jdk_52_method_91_code 2 none ({ frames := 2, cells := 0, slots := 0, locals := 27 } : Room) ws #[(.int i_), (rr s_)] h0 (Q_u16chk_3 Z s_ ks_ vs_ i_ fm_ h0 n0) := by
 refine MetFree.of_bodySF (plainFor_of_name pn_java_lang_StringUTF16) hisR ?_
 intro p e s m args below meth c s₁ Bd hml0 hP hK
 obtain ⟨rfl, hZ, hh⟩ := hP
 have hx := Bd.exec
 have hby := Bd.bytes
 have hml : c.maxLocals = 2 := hml0
 have hown : s.vm.findClass nm1 = some m.cls := findClass_of_methodNamed Bd.named
 have hnm := (name_of_methodNamed Bd.named Bd.method).1
 have X0 : Stand p l e ({ frames := 2, cells := 0, slots := 0, locals := 27 } : Room) s m #[(.int i_), (rr s_)] below meth c s₁ [] 0 0 := Stand.of_body Bd
 have e0 : s₁.heap = h0 := by rw [← hh, Bd.state]; rfl
 have N0 := Fr.nil n0
 have kp0 : Keep h0 h0 [] := Keep.refl _ _
 have c0 : ∀ t, S_ p e below s₁ m 0 #[vi i_, vr s_] [] t → Steps p.tables e below (s₁.setTop (entryFrame m #[(.int i_), (rr s_)] 2)) t := fun t k => castTop (ef_u16chk_3 m i_ s_) k
 generalize s₁.setTop (entryFrame m #[(.int i_), (rr s_)] 2) = st0 at c0 ⊢
 replace c0 : Kt p e below s₁ st0 (mkF m 0 #[vi i_, vr s_] []) := c0
 have c1 : Kt p e below s₁ st0 (mkF m 2 #[vi i_, vr s_] [(rr s_), (.int i_)]) := fun t k => by
  refine c0 t ?_
  show S_ p e below s₁ m 0 #[vi i_, vr s_] [] t
  refine XS.iloadN X0.here hx rfl (hb hby d17_0) rfl ?_
  show S_ p e below s₁ m 1 #[vi i_, vr s_] [(.int i_)] t
  refine XS.aloadN X0.here hx rfl (hb hby d17_1) rfl rfl ?_
  exact k
 obtain ⟨_, T2, L2, X2, hQ2, c2⟩ := kstat X0 hx hZ hown (w96 hw) (w97 hw) (w41 hw) (w98 hw) (rm_u16len_3 l Z a0 hw [] s_ ks_ vs_ h0 n0 O0 A0_) e0 c1 hml pd_pABrI [(rr s_)] [(.int i_)] 1 (hb hby d17_2) rfl rfl rfl rfl rfl rfl
 obtain ⟨rfl, N3q, K4⟩ := hQ2
 have N3 := Fr.app N0 N3q
 obtain ⟨_, T5, L5, X5, hQ5, c5⟩ := kstat X2 hx hZ hown (w99 hw) (w64 hw) (w5 hw) (w65 hw) (rm_schk l Z a0 hw [] i_ (3 : Int32) fm_ h0 n0 O0 ZS1_ hfm_ h1_ h2_) K4 c2 hml pd_pIIrV [(.int i_), (ii 3)] [] 0 (hb hby d17_5) rfl rfl rfl rfl rfl rfl
 obtain ⟨rfl, N6q, K7⟩ := hQ5
 have N6 := Fr.app N3 N6q
 obtain ⟨fs, hr, hrun, hended, hW, hsame⟩ := X5.leave (v := none) (fun _ => rfl)
 refine ⟨_, _, c5 _ ?_, hrun, hended, _, _, rfl, ?_, ⟨_, rfl⟩, hW, hsame.mono (by decide) (by decide)⟩
 ·show S_ p e below T5 m 8 #[vi i_, vr s_] [] _
  exact X5.returnOut hx Bd.returns (hb hby d17_8) hr
 ·show Q_u16chk_3 Z s_ ks_ vs_ i_ fm_ h0 n0 _ T5.heap _
  rw [K7]
  exact ⟨rfl, N6, rfl⟩
theorem ef_u16ch_3 (m : MethodId) (s_ : Addr) (i_ : Int32) : entryFrame m #[(rr s_), (.int i_)] 2 = mkF m 0 #[vr s_, vi i_] [] := by first | (simp [entryFrame, mkF, argsToLocals, Value.category]; done) | rfl
def Q_u16ch_3 (Z : State) (s_ : Addr) (ks_ : ClassId) (vs_ : List Value) (i_ : Int32) (b_ : Int32) (d_ : Int32) (c_ : Int32) (fm_ : Value) (h0 : Heap) (n0 : Nat) (v : Option Value) (h : Heap) (L : List Loc) : Prop := v = some (.int c_) ∧ Fr n0 L ∧ h = h0
set_option maxRecDepth 65536 in
set_option maxHeartbeats 40000000 in
theorem rm_u16ch_3 (l : Launch) (Z : State) (a0 : Array Value) (hw : HW Z a0) (ws : List Jvm.Cond) (s_ : Addr) (ks_ : ClassId) (vs_ : List Value) (i_ : Int32) (b_ : Int32) (d_ : Int32) (c_ : Int32) (fm_ : Value) (h0 : Heap) (n0 : Nat) (O0 : Old Z n0 h0) (A0_ : Arv Z h0 s_ ks_ .byte (6 : Int32) vs_ (ii 0)) (ZS1_ : Sta Z Z.heap nm2 "SIOOBE_FORMATTER" nm4 fm_) (hfm_ : fm_.isRef = true) (ZS3_ : Sta Z Z.heap nm1 "$assertionsDisabled" "Z" (ii 1)) (ZS4_ : Sta Z Z.heap nm1 "HI_BYTE_SHIFT" "I" (ii 0)) (ZS5_ : Sta Z Z.heap nm1 "LO_BYTE_SHIFT" "I" (ii 8)) (ha_ : ¬ (i_ < (0 : Int32))) (hb_ : i_ < (3 : Int32)) (h1_ : ¬ ((i_ <<< ((1 : Int32) &&& 31)) < (0 : Int32))) (h2_ : (i_ <<< ((1 : Int32) &&& 31)) < (6 : Int32)) (h3_ : ¬ (((i_ <<< ((1 : Int32) &&& 31)) + (1 : Int32)) < (0 : Int32))) (h4_ : ((i_ <<< ((1 : Int32) &&& 31)) + (1 : Int32)) < (6 : Int32)) (h5_ : vs_.getD ((i_ <<< ((1 : Int32) &&& 31))).toNatClampNeg (ii 0) = (.int b_)) (h6_ : vs_.getD (((i_ <<< ((1 : Int32) &&& 31)) + (1 : Int32))).toNatClampNeg (ii 0) = (.int d_)) (h7_ : (nar .char ((((b_ &&& (255 : Int32)) <<< ((0 : Int32) &&& 31)) ||| ((d_ &&& (255 : Int32)) <<< ((8 : Int32) &&& 31))).toUInt32.toUInt16.toUInt32.toInt32)) = c_) (h8_ : nar .char c_ = c_) :
  MFP l Z (⟨nm1, "charAt", "([BI)C"⟩ : MethodName) jdk_52_method_83_code 2 (some .char) ({ frames := 3, cells := 0, slots := 0, locals := 40 } : Room) ws #[(rr s_), (.int i_)] h0 (Q_u16ch_3 Z s_ ks_ vs_ i_ b_ d_ c_ fm_ h0 n0) := by
 refine MetFree.of_bodySF (plainFor_of_name pn_java_lang_StringUTF16) hisR ?_
 intro p e s m args below meth c s₁ Bd hml0 hP hK
 obtain ⟨rfl, hZ, hh⟩ := hP
 have hx := Bd.exec
 have hby := Bd.bytes
 have hml : c.maxLocals = 2 := hml0
 have hown : s.vm.findClass nm1 = some m.cls := findClass_of_methodNamed Bd.named
 have hnm := (name_of_methodNamed Bd.named Bd.method).1
 have X0 : Stand p l e ({ frames := 3, cells := 0, slots := 0, locals := 40 } : Room) s m #[(rr s_), (.int i_)] below meth c s₁ [] 0 0 := Stand.of_body Bd
 have e0 : s₁.heap = h0 := by rw [← hh, Bd.state]; rfl
 have N0 := Fr.nil n0
 have kp0 : Keep h0 h0 [] := Keep.refl _ _
 have c0 : ∀ t, S_ p e below s₁ m 0 #[vr s_, vi i_] [] t → Steps p.tables e below (s₁.setTop (entryFrame m #[(rr s_), (.int i_)] 2)) t := fun t k => castTop (ef_u16ch_3 m s_ i_) k
 generalize s₁.setTop (entryFrame m #[(rr s_), (.int i_)] 2) = st0 at c0 ⊢
 replace c0 : Kt p e below s₁ st0 (mkF m 0 #[vr s_, vi i_] []) := c0
 have c1 : Kt p e below s₁ st0 (mkF m 2 #[vr s_, vi i_] [(rr s_), (.int i_)]) := fun t k => by
  refine c0 t ?_
  show S_ p e below s₁ m 0 #[vr s_, vi i_] [] t
  refine XS.iloadN X0.here hx rfl (hb hby d18_0) rfl ?_
  show S_ p e below s₁ m 1 #[vr s_, vi i_] [(.int i_)] t
  refine XS.aloadN X0.here hx rfl (hb hby d18_1) rfl rfl ?_
  exact k
 obtain ⟨_, T2, L2, X2, hQ2, c2⟩ := kstat X0 hx hZ hown (w93 hw) (w94 hw) (w41 hw) (w95 hw) (rm_u16chk_3 l Z a0 hw [] s_ ks_ vs_ i_ fm_ h0 n0 O0 A0_ ZS1_ hfm_ ha_ hb_) e0 c1 hml pd_pIABrV [(.int i_), (rr s_)] [] 0 (hb hby d18_2) rfl rfl rfl rfl rfl rfl
 obtain ⟨rfl, N3q, K4⟩ := hQ2
 have N3 := Fr.app N0 N3q
 have c5 : Kt p e below T2 st0 (mkF m 7 #[vr s_, vi i_] [(.int i_), (rr s_)]) := fun t k => by
  refine c2 t ?_
  show S_ p e below T2 m 5 #[vr s_, vi i_] [] t
  refine XS.aloadN X2.here hx rfl (hb hby d18_5) rfl rfl ?_
  show S_ p e below T2 m 6 #[vr s_, vi i_] [(rr s_)] t
  refine XS.iloadN X2.here hx rfl (hb hby d18_6) rfl ?_
  exact k
 obtain ⟨_, T6, L6, X6, hQ6, c6⟩ := kstat X2 hx hZ hown (w87 hw) (w88 hw) (w41 hw) (w89 hw) (rm_getc l Z a0 hw [] s_ ks_ (6 : Int32) vs_ i_ b_ d_ c_ h0 n0 O0 A0_ ZS3_ ZS4_ ZS5_ h1_ h2_ h3_ h4_ h5_ h6_ h7_) K4 c5 hml pd_pABIrC [(rr s_), (.int i_)] [] 0 (hb hby d18_7) rfl rfl rfl rfl rfl rfl
 obtain ⟨rfl, N7q, K8⟩ := hQ6
 have N7 := Fr.app N3 N7q
 obtain ⟨fs, hr, hrun, hended, hW, hsame⟩ := X6.leave (v := some (.int (nar .char c_))) (fun h => by rw [Bd.returns] at h; cases h)
 refine ⟨_, _, c6 _ ?_, hrun, hended, _, _, rfl, ?_, ⟨_, rfl⟩, hW, hsame.mono (by decide) (by decide)⟩
 ·show S_ p e below T6 m 10 #[vr s_, vi i_] [(.int c_)] _
  exact retN X6 hx (t := .char) Bd.returns (by simp) (hb hby d18_10) hr
 ·show Q_u16ch_3 Z s_ ks_ vs_ i_ b_ d_ c_ fm_ h0 n0 _ T6.heap _
  rw [K8]
  exact ⟨(by rw [h8_]), N7, rfl⟩
theorem ef_chU_3 (m : MethodId) (x_ : Addr) (i_ : Int32) : entryFrame m #[(rr x_), (.int i_)] 2 = mkF m 0 #[vr x_, vi i_] [] := by first | (simp [entryFrame, mkF, argsToLocals, Value.category]; done) | rfl
def Q_chU_3 (Z : State) (x_ : Addr) (s_ : Addr) (ks_ : ClassId) (vs_ : List Value) (i_ : Int32) (b_ : Int32) (d_ : Int32) (c_ : Int32) (fm_ : Value) (z_ : Int32) (h0 : Heap) (n0 : Nat) (v : Option Value) (h : Heap) (L : List Loc) : Prop := v = some (.int c_) ∧ Fr n0 L ∧ h = h0
set_option maxRecDepth 65536 in
set_option maxHeartbeats 40000000 in
theorem rm_chU_3 (l : Launch) (Z : State) (a0 : Array Value) (hw : HW Z a0) (ws : List Jvm.Cond) (x_ : Addr) (s_ : Addr) (ks_ : ClassId) (vs_ : List Value) (i_ : Int32) (b_ : Int32) (d_ : Int32) (c_ : Int32) (fm_ : Value) (z_ : Int32) (h0 : Heap) (n0 : Nat) (O0 : Old Z n0 h0) (E0_ : Exa Z h0 x_ nm0) (F1_ : Fld Z h0 x_ nm0 "coder" "B" (ii 1)) (F2_ : Fld Z h0 x_ nm0 "value" "[B" (rr s_)) (A3_ : Arv Z h0 s_ ks_ .byte (6 : Int32) vs_ (ii 0)) (ZS4_ : Sta Z Z.heap nm2 "SIOOBE_FORMATTER" nm4 fm_) (hfm_ : fm_.isRef = true) (ZS6_ : Sta Z Z.heap nm0 "COMPACT_STRINGS" "Z" (.int z_)) (hz_ : ¬ (z_ = (0 : Int32))) (ZS8_ : Sta Z Z.heap nm1 "$assertionsDisabled" "Z" (ii 1)) (ZS9_ : Sta Z Z.heap nm1 "HI_BYTE_SHIFT" "I" (ii 0)) (ZS10_ : Sta Z Z.heap nm1 "LO_BYTE_SHIFT" "I" (ii 8)) (ha_ : ¬ (i_ < (0 : Int32))) (hb_ : i_ < (3 : Int32)) (h1_ : ¬ ((i_ <<< ((1 : Int32) &&& 31)) < (0 : Int32))) (h2_ : (i_ <<< ((1 : Int32) &&& 31)) < (6 : Int32)) (h3_ : ¬ (((i_ <<< ((1 : Int32) &&& 31)) + (1 : Int32)) < (0 : Int32))) (h4_ : ((i_ <<< ((1 : Int32) &&& 31)) + (1 : Int32)) < (6 : Int32)) (h5_ : vs_.getD ((i_ <<< ((1 : Int32) &&& 31))).toNatClampNeg (ii 0) = (.int b_)) (h6_ : vs_.getD (((i_ <<< ((1 : Int32) &&& 31)) + (1 : Int32))).toNatClampNeg (ii 0) = (.int d_)) (h7_ : (nar .char ((((b_ &&& (255 : Int32)) <<< ((0 : Int32) &&& 31)) ||| ((d_ &&& (255 : Int32)) <<< ((8 : Int32) &&& 31))).toUInt32.toUInt16.toUInt32.toInt32)) = c_) (h8_ : nar .char c_ = c_) :
  MFP l Z (⟨nm0, "charAt", "(I)C"⟩ : MethodName) jdk_42_method_56_code 2 (some .char) ({ frames := 4, cells := 0, slots := 0, locals := 53 } : Room) ws #[(rr x_), (.int i_)] h0 (Q_chU_3 Z x_ s_ ks_ vs_ i_ b_ d_ c_ fm_ z_ h0 n0) := by
 refine MetFree.of_bodySF (plainFor_of_name pn_java_lang_String) hisR ?_
 intro p e s m args below meth c s₁ Bd hml0 hP hK
 obtain ⟨rfl, hZ, hh⟩ := hP
 have hx := Bd.exec
 have hby := Bd.bytes
 have hml : c.maxLocals = 2 := hml0
 have hown : s.vm.findClass nm0 = some m.cls := findClass_of_methodNamed Bd.named
 have hnm := (name_of_methodNamed Bd.named Bd.method).1
 have X0 : Stand p l e ({ frames := 4, cells := 0, slots := 0, locals := 53 } : Room) s m #[(rr x_), (.int i_)] below meth c s₁ [] 0 0 := Stand.of_body Bd
 have e0 : s₁.heap = h0 := by rw [← hh, Bd.state]; rfl
 have N0 := Fr.nil n0
 have kp0 : Keep h0 h0 [] := Keep.refl _ _
 have c0 : ∀ t, S_ p e below s₁ m 0 #[vr x_, vi i_] [] t → Steps p.tables e below (s₁.setTop (entryFrame m #[(rr x_), (.int i_)] 2)) t := fun t k => castTop (ef_chU_3 m x_ i_) k
 generalize s₁.setTop (entryFrame m #[(rr x_), (.int i_)] 2) = st0 at c0 ⊢
 replace c0 : Kt p e below s₁ st0 (mkF m 0 #[vr x_, vi i_] []) := c0
 have c1 : Kt p e below s₁ st0 (mkF m 1 #[vr x_, vi i_] [(rr x_)]) := fun t k => by
  refine c0 t ?_
  show S_ p e below s₁ m 0 #[vr x_, vi i_] [] t
  refine XS.aloadN X0.here hx rfl (hb hby d15_0) rfl rfl ?_
  exact k
 obtain ⟨_, T2, L2, X2, hQ2, c2⟩ := kvirt X0 hx hZ hown (w54 hw) (w55 hw) (w57 hw) (w56 hw) (w58 hw) (w5 hw) (rm_islU l Z a0 hw [] x_ z_ h0 n0 O0 F1_ ZS6_ hz_) e0 E0_ c1 hml pd_prZ [] [] 0 (hb hby d15_1) rfl rfl rfl rfl rfl rfl
 obtain ⟨rfl, N3q, K4⟩ := hQ2
 have N3 := Fr.app N0 N3q
 have c5 : Kt p e below T2 st0 (mkF m 17 #[vr x_, vi i_] [(rr x_)]) := fun t k => by
  refine c2 t ?_
  show S_ p e below T2 m 4 #[vr x_, vi i_] [(ii 0)] t
  refine yI X2.here hx rfl 4 16 rfl (hb hby d15_4) rfl rfl ?_
  show S_ p e below T2 m 16 #[vr x_, vi i_] [] t
  refine XS.aloadN X2.here hx rfl (hb hby d15_16) rfl rfl ?_
  exact k
 obtain ⟨T6, X6, e6, c6⟩ := kget X2 hx hZ hown (host := "") (Or.inl (w22 hw)) Via.refl K4 F2_ c5 rfl rfl (hb hby d15_17)
 have c7 : Kt p e below T6 st0 (mkF m 21 #[vr x_, vi i_] [(.int i_), (rr s_)]) := fun t k => by
  refine c6 t ?_
  show S_ p e below T6 m 20 #[vr x_, vi i_] [(rr s_)] t
  refine XS.iloadN X6.here hx rfl (hb hby d15_20) rfl ?_
  exact k
 obtain ⟨_, T8, L8, X8, hQ8, c8⟩ := kstat X6 hx hZ hown (w90 hw) (w91 hw) (w41 hw) (w92 hw) (rm_u16ch_3 l Z a0 hw [] s_ ks_ vs_ i_ b_ d_ c_ fm_ h0 n0 O0 A3_ ZS4_ hfm_ ZS8_ ZS9_ ZS10_ ha_ hb_ h1_ h2_ h3_ h4_ h5_ h6_ h7_ h8_) e6 c7 hml pd_pABIrC [(rr s_), (.int i_)] [] 0 (hb hby d15_21) rfl rfl rfl rfl rfl rfl
 obtain ⟨rfl, N9q, K10⟩ := hQ8
 have N9 := Fr.app N3 N9q
 obtain ⟨fs, hr, hrun, hended, hW, hsame⟩ := X8.leave (v := some (.int (nar .char c_))) (fun h => by rw [Bd.returns] at h; cases h)
 refine ⟨_, _, c8 _ ?_, hrun, hended, _, _, rfl, ?_, ⟨_, rfl⟩, hW, hsame.mono (by decide) (by decide)⟩
 ·show S_ p e below T8 m 24 #[vr x_, vi i_] [(.int c_)] _
  exact retN X8 hx (t := .char) Bd.returns (by simp) (hb hby d15_24) hr
 ·show Q_chU_3 Z x_ s_ ks_ vs_ i_ b_ d_ c_ fm_ z_ h0 n0 _ T8.heap _
  rw [K10]
  exact ⟨(by rw [h8_]), N9, rfl⟩
theorem ef_lenL_3 (m : MethodId) (x_ : Addr) : entryFrame m #[(rr x_)] 1 = mkF m 0 #[vr x_] [] := by first | (simp [entryFrame, mkF, argsToLocals, Value.category]; done) | rfl
def Q_lenL_3 (Z : State) (x_ : Addr) (s_ : Addr) (ks_ : ClassId) (vs_ : List Value) (z_ : Int32) (h0 : Heap) (n0 : Nat) (v : Option Value) (h : Heap) (L : List Loc) : Prop := v = some (ii 3) ∧ Fr n0 L ∧ h = h0
set_option maxRecDepth 65536 in
set_option maxHeartbeats 40000000 in
theorem rm_lenL_3 (l : Launch) (Z : State) (a0 : Array Value) (hw : HW Z a0) (ws : List Jvm.Cond) (x_ : Addr) (s_ : Addr) (ks_ : ClassId) (vs_ : List Value) (z_ : Int32) (h0 : Heap) (n0 : Nat) (O0 : Old Z n0 h0) (E0_ : Exa Z h0 x_ nm0) (F1_ : Fld Z h0 x_ nm0 "coder" "B" (ii 0)) (F2_ : Fld Z h0 x_ nm0 "value" "[B" (rr s_)) (A3_ : Arv Z h0 s_ ks_ .byte (3 : Int32) vs_ (ii 0)) (ZS4_ : Sta Z Z.heap nm0 "COMPACT_STRINGS" "Z" (.int z_)) (hz_ : ¬ (z_ = (0 : Int32))) :
  MFP l Z (⟨nm0, "length", "()I"⟩ : MethodName) jdk_42_method_54_code 1 (some .int) ({ frames := 1, cells := 0, slots := 0, locals := 13 } : Room) ws #[(rr x_)] h0 (Q_lenL_3 Z x_ s_ ks_ vs_ z_ h0 n0) := by
 refine MetFree.of_bodySF (plainFor_of_name pn_java_lang_String) hisR ?_
 intro p e s m args below meth c s₁ Bd hml0 hP hK
 obtain ⟨rfl, hZ, hh⟩ := hP
 have hx := Bd.exec
 have hby := Bd.bytes
 have hml : c.maxLocals = 1 := hml0
 have hown : s.vm.findClass nm0 = some m.cls := findClass_of_methodNamed Bd.named
 have hnm := (name_of_methodNamed Bd.named Bd.method).1
 have X0 : Stand p l e ({ frames := 1, cells := 0, slots := 0, locals := 13 } : Room) s m #[(rr x_)] below meth c s₁ [] 0 0 := Stand.of_body Bd
 have e0 : s₁.heap = h0 := by rw [← hh, Bd.state]; rfl
 have N0 := Fr.nil n0
 have kp0 : Keep h0 h0 [] := Keep.refl _ _
 have c0 : ∀ t, S_ p e below s₁ m 0 #[vr x_] [] t → Steps p.tables e below (s₁.setTop (entryFrame m #[(rr x_)] 1)) t := fun t k => castTop (ef_lenL_3 m x_) k
 generalize s₁.setTop (entryFrame m #[(rr x_)] 1) = st0 at c0 ⊢
 replace c0 : Kt p e below s₁ st0 (mkF m 0 #[vr x_] []) := c0
 have c1 : Kt p e below s₁ st0 (mkF m 1 #[vr x_] [(rr x_)]) := fun t k => by
  refine c0 t ?_
  show S_ p e below s₁ m 0 #[vr x_] [] t
  refine XS.aloadN X0.here hx rfl (hb hby d19_0) rfl rfl ?_
  exact k
 obtain ⟨T2, X2, e2, c2⟩ := kget X0 hx hZ hown (host := "") (Or.inl (w22 hw)) Via.refl e0 F2_ c1 rfl rfl (hb hby d19_1)
 have c3 : Kt p e below T2 st0 (mkF m 6 #[vr x_] [(rr x_), (ii 3)]) := fun t k => by
  refine c2 t ?_
  show S_ p e below T2 m 4 #[vr x_] [(rr s_)] t
  refine ldLen X2 hx hZ e2 A3_ rfl rfl (hb hby d19_4) ?_
  show S_ p e below T2 m 5 #[vr x_] [(ii 3)] t
  refine XS.aloadN X2.here hx rfl (hb hby d19_5) rfl rfl ?_
  exact k
 obtain ⟨_, T4, L4, X4, hQ4, c4⟩ := kvirt X2 hx hZ hown (w33 hw) (w34 hw) (w36 hw) (w35 hw) (w37 hw) (w5 hw) (rm_codL l Z a0 hw [] x_ z_ h0 n0 O0 F1_ ZS4_ hz_) e2 E0_ c3 hml pd_prB [] [(ii 3)] 1 (hb hby d19_6) rfl rfl rfl rfl rfl rfl
 obtain ⟨rfl, N5q, K6⟩ := hQ4
 have N5 := Fr.app N0 N5q
 obtain ⟨fs, hr, hrun, hended, hW, hsame⟩ := X4.leave (v := some (ii 3)) (fun h => by rw [Bd.returns] at h; cases h)
 refine ⟨_, _, c4 _ ?_, hrun, hended, _, _, rfl, ?_, ⟨_, rfl⟩, hW, hsame.mono (by decide) (by decide)⟩
 ·show S_ p e below T4 m 9 #[vr x_] [(ii 0), (ii 3)] _
  refine XS.ishr X4.here hx rfl (hb hby d19_9) rfl ?_
  show S_ p e below T4 m 10 #[vr x_] [(ii 3)] _
  exact retOut X4 hx Bd.returns rfl (Or.inl ⟨rfl, Or.inl rfl, _, rfl⟩) (hb hby d19_10) hr
 ·show Q_lenL_3 Z x_ s_ ks_ vs_ z_ h0 n0 _ T4.heap _
  rw [K6]
  exact ⟨rfl, N5, rfl⟩
theorem ef_lenU_3 (m : MethodId) (x_ : Addr) : entryFrame m #[(rr x_)] 1 = mkF m 0 #[vr x_] [] := by first | (simp [entryFrame, mkF, argsToLocals, Value.category]; done) | rfl
def Q_lenU_3 (Z : State) (x_ : Addr) (s_ : Addr) (ks_ : ClassId) (vs_ : List Value) (z_ : Int32) (h0 : Heap) (n0 : Nat) (v : Option Value) (h : Heap) (L : List Loc) : Prop := v = some (ii 3) ∧ Fr n0 L ∧ h = h0
set_option maxRecDepth 65536 in
set_option maxHeartbeats 40000000 in
theorem rm_lenU_3 (l : Launch) (Z : State) (a0 : Array Value) (hw : HW Z a0) (ws : List Jvm.Cond) (x_ : Addr) (s_ : Addr) (ks_ : ClassId) (vs_ : List Value) (z_ : Int32) (h0 : Heap) (n0 : Nat) (O0 : Old Z n0 h0) (E0_ : Exa Z h0 x_ nm0) (F1_ : Fld Z h0 x_ nm0 "coder" "B" (ii 1)) (F2_ : Fld Z h0 x_ nm0 "value" "[B" (rr s_)) (A3_ : Arv Z h0 s_ ks_ .byte (6 : Int32) vs_ (ii 0)) (ZS4_ : Sta Z Z.heap nm0 "COMPACT_STRINGS" "Z" (.int z_)) (hz_ : ¬ (z_ = (0 : Int32))) :
  MFP l Z (⟨nm0, "length", "()I"⟩ : MethodName) jdk_42_method_54_code 1 (some .int) ({ frames := 1, cells := 0, slots := 0, locals := 13 } : Room) ws #[(rr x_)] h0 (Q_lenU_3 Z x_ s_ ks_ vs_ z_ h0 n0) := by
 refine MetFree.of_bodySF (plainFor_of_name pn_java_lang_String) hisR ?_
 intro p e s m args below meth c s₁ Bd hml0 hP hK
 obtain ⟨rfl, hZ, hh⟩ := hP
 have hx := Bd.exec
 have hby := Bd.bytes
 have hml : c.maxLocals = 1 := hml0
 have hown : s.vm.findClass nm0 = some m.cls := findClass_of_methodNamed Bd.named
 have hnm := (name_of_methodNamed Bd.named Bd.method).1
 have X0 : Stand p l e ({ frames := 1, cells := 0, slots := 0, locals := 13 } : Room) s m #[(rr x_)] below meth c s₁ [] 0 0 := Stand.of_body Bd
 have e0 : s₁.heap = h0 := by rw [← hh, Bd.state]; rfl
 have N0 := Fr.nil n0
 have kp0 : Keep h0 h0 [] := Keep.refl _ _
 have c0 : ∀ t, S_ p e below s₁ m 0 #[vr x_] [] t → Steps p.tables e below (s₁.setTop (entryFrame m #[(rr x_)] 1)) t := fun t k => castTop (ef_lenU_3 m x_) k
 generalize s₁.setTop (entryFrame m #[(rr x_)] 1) = st0 at c0 ⊢
 replace c0 : Kt p e below s₁ st0 (mkF m 0 #[vr x_] []) := c0
 have c1 : Kt p e below s₁ st0 (mkF m 1 #[vr x_] [(rr x_)]) := fun t k => by
  refine c0 t ?_
  show S_ p e below s₁ m 0 #[vr x_] [] t
  refine XS.aloadN X0.here hx rfl (hb hby d19_0) rfl rfl ?_
  exact k
 obtain ⟨T2, X2, e2, c2⟩ := kget X0 hx hZ hown (host := "") (Or.inl (w22 hw)) Via.refl e0 F2_ c1 rfl rfl (hb hby d19_1)
 have c3 : Kt p e below T2 st0 (mkF m 6 #[vr x_] [(rr x_), (ii 6)]) := fun t k => by
  refine c2 t ?_
  show S_ p e below T2 m 4 #[vr x_] [(rr s_)] t
  refine ldLen X2 hx hZ e2 A3_ rfl rfl (hb hby d19_4) ?_
  show S_ p e below T2 m 5 #[vr x_] [(ii 6)] t
  refine XS.aloadN X2.here hx rfl (hb hby d19_5) rfl rfl ?_
  exact k
 obtain ⟨_, T4, L4, X4, hQ4, c4⟩ := kvirt X2 hx hZ hown (w33 hw) (w34 hw) (w36 hw) (w35 hw) (w37 hw) (w5 hw) (rm_codU l Z a0 hw [] x_ z_ h0 n0 O0 F1_ ZS4_ hz_) e2 E0_ c3 hml pd_prB [] [(ii 6)] 1 (hb hby d19_6) rfl rfl rfl rfl rfl rfl
 obtain ⟨rfl, N5q, K6⟩ := hQ4
 have N5 := Fr.app N0 N5q
 obtain ⟨fs, hr, hrun, hended, hW, hsame⟩ := X4.leave (v := some (ii 3)) (fun h => by rw [Bd.returns] at h; cases h)
 refine ⟨_, _, c4 _ ?_, hrun, hended, _, _, rfl, ?_, ⟨_, rfl⟩, hW, hsame.mono (by decide) (by decide)⟩
 ·show S_ p e below T4 m 9 #[vr x_] [(ii 1), (ii 6)] _
  refine XS.ishr X4.here hx rfl (hb hby d19_9) rfl ?_
  show S_ p e below T4 m 10 #[vr x_] [(ii 3)] _
  exact retOut X4 hx Bd.returns rfl (Or.inl ⟨rfl, Or.inl rfl, _, rfl⟩) (hb hby d19_10) hr
 ·show Q_lenU_3 Z x_ s_ ks_ vs_ z_ h0 n0 _ T4.heap _
  rw [K6]
  exact ⟨rfl, N5, rfl⟩
theorem ef_cmp5a_4 (m : MethodId) (s_ : Addr) (d_ : Addr) : entryFrame m #[(rr s_), (ii 0), (rr d_), (ii 0), (ii 4)] 7 = mkF m 0 #[vr s_, vi 0, vr d_, vi 0, vi 4, u_, u_] [] := by first | (simp [entryFrame, mkF, argsToLocals, Value.category]; done) | rfl
def Q_cmp5a_4 (Z : State) (s_ : Addr) (ks_ : ClassId) (d_ : Addr) (kd_ : ClassId) (c0_ : Int32) (c1_ : Int32) (c2_ : Int32) (c3_ : Int32) (h0 : Heap) (n0 : Nat) (v : Option Value) (h : Heap) (L : List Loc) : Prop := (v = some (ii 4) ∧ Fr n0 L ∧ Keep h0 h [d_] ∧ Arv Z h d_ kd_ .byte (4 : Int32) [(.int (nar .byte (c0_.toInt8.toInt32))), (.int (nar .byte (c1_.toInt8.toInt32))), (.int (nar .byte (c2_.toInt8.toInt32))), (.int (nar .byte (c3_.toInt8.toInt32)))] (ii 0) ∧ ¬ ((255 : Int32) < c0_) ∧ ¬ ((255 : Int32) < c1_) ∧ ¬ ((255 : Int32) < c2_) ∧ ¬ ((255 : Int32) < c3_)) ∨ (v = some (ii 0) ∧ Fr n0 L ∧ Keep h0 h [d_] ∧ (255 : Int32) < c0_) ∨ (v = some (ii 1) ∧ Fr n0 L ∧ Keep h0 h [d_] ∧ (255 : Int32) < c1_) ∨ (v = some (ii 2) ∧ Fr n0 L ∧ Keep h0 h [d_] ∧ (255 : Int32) < c2_) ∨ (v = some (ii 3) ∧ Fr n0 L ∧ Keep h0 h [d_] ∧ (255 : Int32) < c3_)
set_option maxRecDepth 65536 in
set_option maxHeartbeats 40000000 in
theorem rm_cmp5a_4 (l : Launch) (Z : State) (a0 : Array Value) (hw : HW Z a0) (ws : List Jvm.Cond) (s_ : Addr) (ks_ : ClassId) (d_ : Addr) (kd_ : ClassId) (c0_ : Int32) (c1_ : Int32) (c2_ : Int32) (c3_ : Int32) (h0 : Heap) (n0 : Nat) (O0 : Old Z n0 h0) (A0_ : Arv Z h0 s_ ks_ .char (4 : Int32) [(.int c0_), (.int c1_), (.int c2_), (.int c3_)] (ii 0)) (A1_ : Arv Z h0 d_ kd_ .byte (4 : Int32) [(ii 0), (ii 0), (ii 0), (ii 0)] (ii 0)) (G2_ : n0 ≤ d_) (NE3_ : s_ ≠ d_) :
  MFP l Z (⟨nm1, "compress", "([CI[BII)I"⟩ : MethodName) jdk_52_method_21_code 7 (some .int) ({ frames := 0, cells := 0, slots := 0, locals := 0 } : Room) ws #[(rr s_), (ii 0), (rr d_), (ii 0), (ii 4)] h0 (Q_cmp5a_4 Z s_ ks_ d_ kd_ c0_ c1_ c2_ c3_ h0 n0) := by
 refine MetFree.of_bodySF (plainFor_of_name pn_java_lang_StringUTF16) hisR ?_
 intro p e s m args below meth c s₁ Bd hml0 hP hK
 obtain ⟨rfl, hZ, hh⟩ := hP
 have hx := Bd.exec
 have hby := Bd.bytes
 have hml : c.maxLocals = 7 := hml0
 have hown : s.vm.findClass nm1 = some m.cls := findClass_of_methodNamed Bd.named
 have hnm := (name_of_methodNamed Bd.named Bd.method).1
 have X0 : Stand p l e ({ frames := 0, cells := 0, slots := 0, locals := 0 } : Room) s m #[(rr s_), (ii 0), (rr d_), (ii 0), (ii 4)] below meth c s₁ [] 0 0 := Stand.of_body Bd
 have e0 : s₁.heap = h0 := by rw [← hh, Bd.state]; rfl
 have N0 := Fr.nil n0
 have kp0 : Keep h0 h0 [d_] := Keep.refl _ _
 have c0 : ∀ t, S_ p e below s₁ m 0 #[vr s_, vi 0, vr d_, vi 0, vi 4, u_, u_] [] t → Steps p.tables e below (s₁.setTop (entryFrame m #[(rr s_), (ii 0), (rr d_), (ii 0), (ii 4)] 7)) t := fun t k => castTop (ef_cmp5a_4 m s_ d_) k
 generalize s₁.setTop (entryFrame m #[(rr s_), (ii 0), (rr d_), (ii 0), (ii 4)] 7) = st0 at c0 ⊢
 replace c0 : Kt p e below s₁ st0 (mkF m 0 #[vr s_, vi 0, vr d_, vi 0, vi 4, u_, u_] []) := c0
 have c1 : Kt p e below s₁ st0 (mkF m 20 #[vr s_, vi 0, vr d_, vi 0, vi 4, vi 0, vi c0_] [(ii 255), (.int c0_)]) := fun t k => by
  refine c0 t ?_
  show S_ p e below s₁ m 0 #[vr s_, vi 0, vr d_, vi 0, vi 4, u_, u_] [] t
  refine XS.iconst X0.here hx rfl (hb hby d5_0) ?_
  show S_ p e below s₁ m 1 #[vr s_, vi 0, vr d_, vi 0, vi 4, u_, u_] [(ii 0)] t
  refine XS.istore X0.here hx rfl (hb hby d5_1) rfl (l' := #[vr s_, vi 0, vr d_, vi 0, vi 4, vi 0, u_]) rfl ?_
  show S_ p e below s₁ m 3 #[vr s_, vi 0, vr d_, vi 0, vi 4, vi 0, u_] [] t
  refine XS.iload X0.here hx rfl (hb hby d5_3) rfl ?_
  show S_ p e below s₁ m 5 #[vr s_, vi 0, vr d_, vi 0, vi 4, vi 0, u_] [(ii 0)] t
  refine XS.iload X0.here hx rfl (hb hby d5_5) rfl ?_
  show S_ p e below s₁ m 7 #[vr s_, vi 0, vr d_, vi 0, vi 4, vi 0, u_] [(ii 4), (ii 0)] t
  refine XS.icmpNo X0.here hx rfl (hb hby d5_7) rfl rfl ?_
  show S_ p e below s₁ m 10 #[vr s_, vi 0, vr d_, vi 0, vi 4, vi 0, u_] [] t
  refine XS.aloadN X0.here hx rfl (hb hby d5_10) rfl rfl ?_
  show S_ p e below s₁ m 11 #[vr s_, vi 0, vr d_, vi 0, vi 4, vi 0, u_] [(rr s_)] t
  refine XS.iloadN X0.here hx rfl (hb hby d5_11) rfl ?_
  show S_ p e below s₁ m 12 #[vr s_, vi 0, vr d_, vi 0, vi 4, vi 0, u_] [(ii 0), (rr s_)] t
  refine ldC X0 hx hZ e0 A0_ (v := (.int c0_)) (by decide) (by decide) rfl rfl rfl (hb hby d5_12) ?_
  show S_ p e below s₁ m 13 #[vr s_, vi 0, vr d_, vi 0, vi 4, vi 0, u_] [(.int c0_)] t
  refine XS.istore X0.here hx rfl (hb hby d5_13) rfl (l' := #[vr s_, vi 0, vr d_, vi 0, vi 4, vi 0, vi c0_]) rfl ?_
  show S_ p e below s₁ m 15 #[vr s_, vi 0, vr d_, vi 0, vi 4, vi 0, vi c0_] [] t
  refine XS.iload X0.here hx rfl (hb hby d5_15) rfl ?_
  show S_ p e below s₁ m 17 #[vr s_, vi 0, vr d_, vi 0, vi 4, vi 0, vi c0_] [(.int c0_)] t
  refine XS.sipush X0.here hx rfl (hb hby d5_17) ?_
  exact k
 by_cases hc2 : (255 : Int32) < c0_
 ·obtain ⟨fs, hr, hrun, hended, hW, hsame⟩ := X0.leave (v := some (ii 0)) (fun h => by rw [Bd.returns] at h; cases h)
  refine ⟨_, _, c1 _ ?_, hrun, hended, _, _, rfl, ?_, ⟨_, rfl⟩, hW, hsame.mono (by decide) (by decide)⟩
  ·show S_ p e below s₁ m 20 #[vr s_, vi 0, vr d_, vi 0, vi 4, vi 0, vi c0_] [(ii 255), (.int c0_)] _
   refine XS.icmpNo X0.here hx rfl (hb hby d5_20) rfl (tlt hc2).2.2.2 ?_
   show S_ p e below s₁ m 23 #[vr s_, vi 0, vr d_, vi 0, vi 4, vi 0, vi c0_] [] _
   refine XS.iload X0.here hx rfl (hb hby d5_23) rfl ?_
   show S_ p e below s₁ m 25 #[vr s_, vi 0, vr d_, vi 0, vi 4, vi 0, vi c0_] [(ii 0)] _
   exact retOut X0 hx Bd.returns rfl (Or.inl ⟨rfl, Or.inl rfl, _, rfl⟩) (hb hby d5_25) hr
  ·show Q_cmp5a_4 Z s_ ks_ d_ kd_ c0_ c1_ c2_ c3_ h0 n0 _ s₁.heap _
   rw [e0]
   exact (Or.inr (Or.inl ⟨rfl, N0, kp0, hc2⟩))
 ·have c3 : Kt p e below s₁ st0 (mkF m 31 #[vr s_, vi 0, vr d_, vi 0, vi 4, vi 0, vi c0_] [(.int (c0_.toInt8.toInt32)), (ii 0), (rr d_)]) := fun t k => by
   refine c1 t ?_
   show S_ p e below s₁ m 20 #[vr s_, vi 0, vr d_, vi 0, vi 4, vi 0, vi c0_] [(ii 255), (.int c0_)] t
   refine yC X0.here hx rfl 20 26 rfl (hb hby d5_20) rfl (flt hc2).2.2.2 ?_
   show S_ p e below s₁ m 26 #[vr s_, vi 0, vr d_, vi 0, vi 4, vi 0, vi c0_] [] t
   refine XS.aloadN X0.here hx rfl (hb hby d5_26) rfl rfl ?_
   show S_ p e below s₁ m 27 #[vr s_, vi 0, vr d_, vi 0, vi 4, vi 0, vi c0_] [(rr d_)] t
   refine XS.iloadN X0.here hx rfl (hb hby d5_27) rfl ?_
   show S_ p e below s₁ m 28 #[vr s_, vi 0, vr d_, vi 0, vi 4, vi 0, vi c0_] [(ii 0), (rr d_)] t
   refine XS.iload X0.here hx rfl (hb hby d5_28) rfl ?_
   show S_ p e below s₁ m 30 #[vr s_, vi 0, vr d_, vi 0, vi 4, vi 0, vi c0_] [(.int c0_), (ii 0), (rr d_)] t
   refine XS.i2b X0.here hx rfl (hb hby d5_30) rfl ?_
   exact k
  obtain ⟨T4, h4, X4, e4, W4, f7, o5, N6, c4⟩ := kstB X0 hx hZ e0 A1_ (j := (0 : Int32)) (by decide) (by decide) 0 rfl (Nat.le_of_ble_eq_true rfl) c3 rfl rfl (hb hby d5_31) O0 N0 G2_
  have f8 : Arv Z h4 d_ kd_ .byte (4 : Int32) [(.int (nar .byte (c0_.toInt8.toInt32))), (ii 0), (ii 0), (ii 0)] (ii 0) := f7
  have kp9 := kp0.wr W4 (Or.inl (List.mem_of_getElem? (i := 0) rfl))
  have c10 : Kt p e below T4 st0 (mkF m 20 #[vr s_, vi 1, vr d_, vi 1, vi 4, vi 1, vi c1_] [(ii 255), (.int c1_)]) := fun t k => by
   refine c4 t ?_
   show S_ p e below T4 m 32 #[vr s_, vi 0, vr d_, vi 0, vi 4, vi 0, vi c0_] [] t
   refine XS.iinc X4.here hx rfl (hb hby d5_32) rfl (l' := #[vr s_, vi 1, vr d_, vi 0, vi 4, vi 0, vi c0_]) rfl ?_
   show S_ p e below T4 m 35 #[vr s_, vi 1, vr d_, vi 0, vi 4, vi 0, vi c0_] [] t
   refine XS.iinc X4.here hx rfl (hb hby d5_35) rfl (l' := #[vr s_, vi 1, vr d_, vi 1, vi 4, vi 0, vi c0_]) rfl ?_
   show S_ p e below T4 m 38 #[vr s_, vi 1, vr d_, vi 1, vi 4, vi 0, vi c0_] [] t
   refine XS.iinc X4.here hx rfl (hb hby d5_38) rfl (l' := #[vr s_, vi 1, vr d_, vi 1, vi 4, vi 1, vi c0_]) rfl ?_
   show S_ p e below T4 m 41 #[vr s_, vi 1, vr d_, vi 1, vi 4, vi 1, vi c0_] [] t
   refine yG X4.here hx rfl 41 3 rfl (hb hby d5_41) ?_
   show S_ p e below T4 m 3 #[vr s_, vi 1, vr d_, vi 1, vi 4, vi 1, vi c0_] [] t
   refine XS.iload X4.here hx rfl (hb hby d5_3) rfl ?_
   show S_ p e below T4 m 5 #[vr s_, vi 1, vr d_, vi 1, vi 4, vi 1, vi c0_] [(ii 1)] t
   refine XS.iload X4.here hx rfl (hb hby d5_5) rfl ?_
   show S_ p e below T4 m 7 #[vr s_, vi 1, vr d_, vi 1, vi 4, vi 1, vi c0_] [(ii 4), (ii 1)] t
   refine XS.icmpNo X4.here hx rfl (hb hby d5_7) rfl rfl ?_
   show S_ p e below T4 m 10 #[vr s_, vi 1, vr d_, vi 1, vi 4, vi 1, vi c0_] [] t
   refine XS.aloadN X4.here hx rfl (hb hby d5_10) rfl rfl ?_
   show S_ p e below T4 m 11 #[vr s_, vi 1, vr d_, vi 1, vi 4, vi 1, vi c0_] [(rr s_)] t
   refine XS.iloadN X4.here hx rfl (hb hby d5_11) rfl ?_
   show S_ p e below T4 m 12 #[vr s_, vi 1, vr d_, vi 1, vi 4, vi 1, vi c0_] [(ii 1), (rr s_)] t
   refine ldC X4 hx hZ e4 (A0_.other W4 NE3_) (v := (.int c1_)) (by decide) (by decide) rfl rfl rfl (hb hby d5_12) ?_
   show S_ p e below T4 m 13 #[vr s_, vi 1, vr d_, vi 1, vi 4, vi 1, vi c0_] [(.int c1_)] t
   refine XS.istore X4.here hx rfl (hb hby d5_13) rfl (l' := #[vr s_, vi 1, vr d_, vi 1, vi 4, vi 1, vi c1_]) rfl ?_
   show S_ p e below T4 m 15 #[vr s_, vi 1, vr d_, vi 1, vi 4, vi 1, vi c1_] [] t
   refine XS.iload X4.here hx rfl (hb hby d5_15) rfl ?_
   show S_ p e below T4 m 17 #[vr s_, vi 1, vr d_, vi 1, vi 4, vi 1, vi c1_] [(.int c1_)] t
   refine XS.sipush X4.here hx rfl (hb hby d5_17) ?_
   exact k
  by_cases hc11 : (255 : Int32) < c1_
  ·obtain ⟨fs, hr, hrun, hended, hW, hsame⟩ := X4.leave (v := some (ii 1)) (fun h => by rw [Bd.returns] at h; cases h)
   refine ⟨_, _, c10 _ ?_, hrun, hended, _, _, rfl, ?_, ⟨_, rfl⟩, hW, hsame.mono (by decide) (by decide)⟩
   ·show S_ p e below T4 m 20 #[vr s_, vi 1, vr d_, vi 1, vi 4, vi 1, vi c1_] [(ii 255), (.int c1_)] _
    refine XS.icmpNo X4.here hx rfl (hb hby d5_20) rfl (tlt hc11).2.2.2 ?_
    show S_ p e below T4 m 23 #[vr s_, vi 1, vr d_, vi 1, vi 4, vi 1, vi c1_] [] _
    refine XS.iload X4.here hx rfl (hb hby d5_23) rfl ?_
    show S_ p e below T4 m 25 #[vr s_, vi 1, vr d_, vi 1, vi 4, vi 1, vi c1_] [(ii 1)] _
    exact retOut X4 hx Bd.returns rfl (Or.inl ⟨rfl, Or.inl rfl, _, rfl⟩) (hb hby d5_25) hr
   ·show Q_cmp5a_4 Z s_ ks_ d_ kd_ c0_ c1_ c2_ c3_ h0 n0 _ T4.heap _
    rw [e4]
    exact (Or.inr (Or.inr (Or.inl ⟨rfl, N6, kp9, hc11⟩)))
  ·have c12 : Kt p e below T4 st0 (mkF m 31 #[vr s_, vi 1, vr d_, vi 1, vi 4, vi 1, vi c1_] [(.int (c1_.toInt8.toInt32)), (ii 1), (rr d_)]) := fun t k => by
    refine c10 t ?_
    show S_ p e below T4 m 20 #[vr s_, vi 1, vr d_, vi 1, vi 4, vi 1, vi c1_] [(ii 255), (.int c1_)] t
    refine yC X4.here hx rfl 20 26 rfl (hb hby d5_20) rfl (flt hc11).2.2.2 ?_
    show S_ p e below T4 m 26 #[vr s_, vi 1, vr d_, vi 1, vi 4, vi 1, vi c1_] [] t
    refine XS.aloadN X4.here hx rfl (hb hby d5_26) rfl rfl ?_
    show S_ p e below T4 m 27 #[vr s_, vi 1, vr d_, vi 1, vi 4, vi 1, vi c1_] [(rr d_)] t
    refine XS.iloadN X4.here hx rfl (hb hby d5_27) rfl ?_
    show S_ p e below T4 m 28 #[vr s_, vi 1, vr d_, vi 1, vi 4, vi 1, vi c1_] [(ii 1), (rr d_)] t
    refine XS.iload X4.here hx rfl (hb hby d5_28) rfl ?_
    show S_ p e below T4 m 30 #[vr s_, vi 1, vr d_, vi 1, vi 4, vi 1, vi c1_] [(.int c1_), (ii 1), (rr d_)] t
    refine XS.i2b X4.here hx rfl (hb hby d5_30) rfl ?_
    exact k
   obtain ⟨T13, h13, X13, e13, W13, f16, o14, N15, c13⟩ := kstB X4 hx hZ e4 f8 (j := (1 : Int32)) (by decide) (by decide) 1 rfl (Nat.le_of_ble_eq_true rfl) c12 rfl rfl (hb hby d5_31) o5 N6 G2_
   have f17 : Arv Z h13 d_ kd_ .byte (4 : Int32) [(.int (nar .byte (c0_.toInt8.toInt32))), (.int (nar .byte (c1_.toInt8.toInt32))), (ii 0), (ii 0)] (ii 0) := f16
   have kp18 := kp9.wr W13 (Or.inl (List.mem_of_getElem? (i := 0) rfl))
   have c19 : Kt p e below T13 st0 (mkF m 20 #[vr s_, vi 2, vr d_, vi 2, vi 4, vi 2, vi c2_] [(ii 255), (.int c2_)]) := fun t k => by
    refine c13 t ?_
    show S_ p e below T13 m 32 #[vr s_, vi 1, vr d_, vi 1, vi 4, vi 1, vi c1_] [] t
    refine XS.iinc X13.here hx rfl (hb hby d5_32) rfl (l' := #[vr s_, vi 2, vr d_, vi 1, vi 4, vi 1, vi c1_]) rfl ?_
    show S_ p e below T13 m 35 #[vr s_, vi 2, vr d_, vi 1, vi 4, vi 1, vi c1_] [] t
    refine XS.iinc X13.here hx rfl (hb hby d5_35) rfl (l' := #[vr s_, vi 2, vr d_, vi 2, vi 4, vi 1, vi c1_]) rfl ?_
    show S_ p e below T13 m 38 #[vr s_, vi 2, vr d_, vi 2, vi 4, vi 1, vi c1_] [] t
    refine XS.iinc X13.here hx rfl (hb hby d5_38) rfl (l' := #[vr s_, vi 2, vr d_, vi 2, vi 4, vi 2, vi c1_]) rfl ?_
    show S_ p e below T13 m 41 #[vr s_, vi 2, vr d_, vi 2, vi 4, vi 2, vi c1_] [] t
    refine yG X13.here hx rfl 41 3 rfl (hb hby d5_41) ?_
    show S_ p e below T13 m 3 #[vr s_, vi 2, vr d_, vi 2, vi 4, vi 2, vi c1_] [] t
    refine XS.iload X13.here hx rfl (hb hby d5_3) rfl ?_
    show S_ p e below T13 m 5 #[vr s_, vi 2, vr d_, vi 2, vi 4, vi 2, vi c1_] [(ii 2)] t
    refine XS.iload X13.here hx rfl (hb hby d5_5) rfl ?_
    show S_ p e below T13 m 7 #[vr s_, vi 2, vr d_, vi 2, vi 4, vi 2, vi c1_] [(ii 4), (ii 2)] t
    refine XS.icmpNo X13.here hx rfl (hb hby d5_7) rfl rfl ?_
    show S_ p e below T13 m 10 #[vr s_, vi 2, vr d_, vi 2, vi 4, vi 2, vi c1_] [] t
    refine XS.aloadN X13.here hx rfl (hb hby d5_10) rfl rfl ?_
    show S_ p e below T13 m 11 #[vr s_, vi 2, vr d_, vi 2, vi 4, vi 2, vi c1_] [(rr s_)] t
    refine XS.iloadN X13.here hx rfl (hb hby d5_11) rfl ?_
    show S_ p e below T13 m 12 #[vr s_, vi 2, vr d_, vi 2, vi 4, vi 2, vi c1_] [(ii 2), (rr s_)] t
    refine ldC X13 hx hZ e13 ((A0_.other W4 NE3_).other W13 NE3_) (v := (.int c2_)) (by decide) (by decide) rfl rfl rfl (hb hby d5_12) ?_
    show S_ p e below T13 m 13 #[vr s_, vi 2, vr d_, vi 2, vi 4, vi 2, vi c1_] [(.int c2_)] t
    refine XS.istore X13.here hx rfl (hb hby d5_13) rfl (l' := #[vr s_, vi 2, vr d_, vi 2, vi 4, vi 2, vi c2_]) rfl ?_
    show S_ p e below T13 m 15 #[vr s_, vi 2, vr d_, vi 2, vi 4, vi 2, vi c2_] [] t
    refine XS.iload X13.here hx rfl (hb hby d5_15) rfl ?_
    show S_ p e below T13 m 17 #[vr s_, vi 2, vr d_, vi 2, vi 4, vi 2, vi c2_] [(.int c2_)] t
    refine XS.sipush X13.here hx rfl (hb hby d5_17) ?_
    exact k
   by_cases hc20 : (255 : Int32) < c2_
   ·obtain ⟨fs, hr, hrun, hended, hW, hsame⟩ := X13.leave (v := some (ii 2)) (fun h => by rw [Bd.returns] at h; cases h)
    refine ⟨_, _, c19 _ ?_, hrun, hended, _, _, rfl, ?_, ⟨_, rfl⟩, hW, hsame.mono (by decide) (by decide)⟩
    ·show S_ p e below T13 m 20 #[vr s_, vi 2, vr d_, vi 2, vi 4, vi 2, vi c2_] [(ii 255), (.int c2_)] _
     refine XS.icmpNo X13.here hx rfl (hb hby d5_20) rfl (tlt hc20).2.2.2 ?_
     show S_ p e below T13 m 23 #[vr s_, vi 2, vr d_, vi 2, vi 4, vi 2, vi c2_] [] _
     refine XS.iload X13.here hx rfl (hb hby d5_23) rfl ?_
     show S_ p e below T13 m 25 #[vr s_, vi 2, vr d_, vi 2, vi 4, vi 2, vi c2_] [(ii 2)] _
     exact retOut X13 hx Bd.returns rfl (Or.inl ⟨rfl, Or.inl rfl, _, rfl⟩) (hb hby d5_25) hr
    ·show Q_cmp5a_4 Z s_ ks_ d_ kd_ c0_ c1_ c2_ c3_ h0 n0 _ T13.heap _
     rw [e13]
     exact (Or.inr (Or.inr (Or.inr (Or.inl ⟨rfl, N15, kp18, hc20⟩))))
   ·have c21 : Kt p e below T13 st0 (mkF m 31 #[vr s_, vi 2, vr d_, vi 2, vi 4, vi 2, vi c2_] [(.int (c2_.toInt8.toInt32)), (ii 2), (rr d_)]) := fun t k => by
     refine c19 t ?_
     show S_ p e below T13 m 20 #[vr s_, vi 2, vr d_, vi 2, vi 4, vi 2, vi c2_] [(ii 255), (.int c2_)] t
     refine yC X13.here hx rfl 20 26 rfl (hb hby d5_20) rfl (flt hc20).2.2.2 ?_
     show S_ p e below T13 m 26 #[vr s_, vi 2, vr d_, vi 2, vi 4, vi 2, vi c2_] [] t
     refine XS.aloadN X13.here hx rfl (hb hby d5_26) rfl rfl ?_
     show S_ p e below T13 m 27 #[vr s_, vi 2, vr d_, vi 2, vi 4, vi 2, vi c2_] [(rr d_)] t
     refine XS.iloadN X13.here hx rfl (hb hby d5_27) rfl ?_
     show S_ p e below T13 m 28 #[vr s_, vi 2, vr d_, vi 2, vi 4, vi 2, vi c2_] [(ii 2), (rr d_)] t
     refine XS.iload X13.here hx rfl (hb hby d5_28) rfl ?_
     show S_ p e below T13 m 30 #[vr s_, vi 2, vr d_, vi 2, vi 4, vi 2, vi c2_] [(.int c2_), (ii 2), (rr d_)] t
     refine XS.i2b X13.here hx rfl (hb hby d5_30) rfl ?_
     exact k
    obtain ⟨T22, h22, X22, e22, W22, f25, o23, N24, c22⟩ := kstB X13 hx hZ e13 f17 (j := (2 : Int32)) (by decide) (by decide) 2 rfl (Nat.le_of_ble_eq_true rfl) c21 rfl rfl (hb hby d5_31) o14 N15 G2_
    have f26 : Arv Z h22 d_ kd_ .byte (4 : Int32) [(.int (nar .byte (c0_.toInt8.toInt32))), (.int (nar .byte (c1_.toInt8.toInt32))), (.int (nar .byte (c2_.toInt8.toInt32))), (ii 0)] (ii 0) := f25
    have kp27 := kp18.wr W22 (Or.inl (List.mem_of_getElem? (i := 0) rfl))
    have c28 : Kt p e below T22 st0 (mkF m 20 #[vr s_, vi 3, vr d_, vi 3, vi 4, vi 3, vi c3_] [(ii 255), (.int c3_)]) := fun t k => by
     refine c22 t ?_
     show S_ p e below T22 m 32 #[vr s_, vi 2, vr d_, vi 2, vi 4, vi 2, vi c2_] [] t
     refine XS.iinc X22.here hx rfl (hb hby d5_32) rfl (l' := #[vr s_, vi 3, vr d_, vi 2, vi 4, vi 2, vi c2_]) rfl ?_
     show S_ p e below T22 m 35 #[vr s_, vi 3, vr d_, vi 2, vi 4, vi 2, vi c2_] [] t
     refine XS.iinc X22.here hx rfl (hb hby d5_35) rfl (l' := #[vr s_, vi 3, vr d_, vi 3, vi 4, vi 2, vi c2_]) rfl ?_
     show S_ p e below T22 m 38 #[vr s_, vi 3, vr d_, vi 3, vi 4, vi 2, vi c2_] [] t
     refine XS.iinc X22.here hx rfl (hb hby d5_38) rfl (l' := #[vr s_, vi 3, vr d_, vi 3, vi 4, vi 3, vi c2_]) rfl ?_
     show S_ p e below T22 m 41 #[vr s_, vi 3, vr d_, vi 3, vi 4, vi 3, vi c2_] [] t
     refine yG X22.here hx rfl 41 3 rfl (hb hby d5_41) ?_
     show S_ p e below T22 m 3 #[vr s_, vi 3, vr d_, vi 3, vi 4, vi 3, vi c2_] [] t
     refine XS.iload X22.here hx rfl (hb hby d5_3) rfl ?_
     show S_ p e below T22 m 5 #[vr s_, vi 3, vr d_, vi 3, vi 4, vi 3, vi c2_] [(ii 3)] t
     refine XS.iload X22.here hx rfl (hb hby d5_5) rfl ?_
     show S_ p e below T22 m 7 #[vr s_, vi 3, vr d_, vi 3, vi 4, vi 3, vi c2_] [(ii 4), (ii 3)] t
     refine XS.icmpNo X22.here hx rfl (hb hby d5_7) rfl rfl ?_
     show S_ p e below T22 m 10 #[vr s_, vi 3, vr d_, vi 3, vi 4, vi 3, vi c2_] [] t
     refine XS.aloadN X22.here hx rfl (hb hby d5_10) rfl rfl ?_
     show S_ p e below T22 m 11 #[vr s_, vi 3, vr d_, vi 3, vi 4, vi 3, vi c2_] [(rr s_)] t
     refine XS.iloadN X22.here hx rfl (hb hby d5_11) rfl ?_
     show S_ p e below T22 m 12 #[vr s_, vi 3, vr d_, vi 3, vi 4, vi 3, vi c2_] [(ii 3), (rr s_)] t
     refine ldC X22 hx hZ e22 (((A0_.other W4 NE3_).other W13 NE3_).other W22 NE3_) (v := (.int c3_)) (by decide) (by decide) rfl rfl rfl (hb hby d5_12) ?_
     show S_ p e below T22 m 13 #[vr s_, vi 3, vr d_, vi 3, vi 4, vi 3, vi c2_] [(.int c3_)] t
     refine XS.istore X22.here hx rfl (hb hby d5_13) rfl (l' := #[vr s_, vi 3, vr d_, vi 3, vi 4, vi 3, vi c3_]) rfl ?_
     show S_ p e below T22 m 15 #[vr s_, vi 3, vr d_, vi 3, vi 4, vi 3, vi c3_] [] t
     refine XS.iload X22.here hx rfl (hb hby d5_15) rfl ?_
     show S_ p e below T22 m 17 #[vr s_, vi 3, vr d_, vi 3, vi 4, vi 3, vi c3_] [(.int c3_)] t
     refine XS.sipush X22.here hx rfl (hb hby d5_17) ?_
     exact k
    by_cases hc29 : (255 : Int32) < c3_
    ·obtain ⟨fs, hr, hrun, hended, hW, hsame⟩ := X22.leave (v := some (ii 3)) (fun h => by rw [Bd.returns] at h; cases h)
     refine ⟨_, _, c28 _ ?_, hrun, hended, _, _, rfl, ?_, ⟨_, rfl⟩, hW, hsame.mono (by decide) (by decide)⟩
     ·show S_ p e below T22 m 20 #[vr s_, vi 3, vr d_, vi 3, vi 4, vi 3, vi c3_] [(ii 255), (.int c3_)] _
      refine XS.icmpNo X22.here hx rfl (hb hby d5_20) rfl (tlt hc29).2.2.2 ?_
      show S_ p e below T22 m 23 #[vr s_, vi 3, vr d_, vi 3, vi 4, vi 3, vi c3_] [] _
      refine XS.iload X22.here hx rfl (hb hby d5_23) rfl ?_
      show S_ p e below T22 m 25 #[vr s_, vi 3, vr d_, vi 3, vi 4, vi 3, vi c3_] [(ii 3)] _
      exact retOut X22 hx Bd.returns rfl (Or.inl ⟨rfl, Or.inl rfl, _, rfl⟩) (hb hby d5_25) hr
     ·show Q_cmp5a_4 Z s_ ks_ d_ kd_ c0_ c1_ c2_ c3_ h0 n0 _ T22.heap _
      rw [e22]
      exact (Or.inr (Or.inr (Or.inr (Or.inr (⟨rfl, N24, kp27, hc29⟩)))))
    ·have c30 : Kt p e below T22 st0 (mkF m 31 #[vr s_, vi 3, vr d_, vi 3, vi 4, vi 3, vi c3_] [(.int (c3_.toInt8.toInt32)), (ii 3), (rr d_)]) := fun t k => by
      refine c28 t ?_
      show S_ p e below T22 m 20 #[vr s_, vi 3, vr d_, vi 3, vi 4, vi 3, vi c3_] [(ii 255), (.int c3_)] t
      refine yC X22.here hx rfl 20 26 rfl (hb hby d5_20) rfl (flt hc29).2.2.2 ?_
      show S_ p e below T22 m 26 #[vr s_, vi 3, vr d_, vi 3, vi 4, vi 3, vi c3_] [] t
      refine XS.aloadN X22.here hx rfl (hb hby d5_26) rfl rfl ?_
      show S_ p e below T22 m 27 #[vr s_, vi 3, vr d_, vi 3, vi 4, vi 3, vi c3_] [(rr d_)] t
      refine XS.iloadN X22.here hx rfl (hb hby d5_27) rfl ?_
      show S_ p e below T22 m 28 #[vr s_, vi 3, vr d_, vi 3, vi 4, vi 3, vi c3_] [(ii 3), (rr d_)] t
      refine XS.iload X22.here hx rfl (hb hby d5_28) rfl ?_
      show S_ p e below T22 m 30 #[vr s_, vi 3, vr d_, vi 3, vi 4, vi 3, vi c3_] [(.int c3_), (ii 3), (rr d_)] t
      refine XS.i2b X22.here hx rfl (hb hby d5_30) rfl ?_
      exact k
     obtain ⟨T31, h31, X31, e31, W31, f34, o32, N33, c31⟩ := kstB X22 hx hZ e22 f26 (j := (3 : Int32)) (by decide) (by decide) 3 rfl (Nat.le_of_ble_eq_true rfl) c30 rfl rfl (hb hby d5_31) o23 N24 G2_
     have f35 : Arv Z h31 d_ kd_ .byte (4 : Int32) [(.int (nar .byte (c0_.toInt8.toInt32))), (.int (nar .byte (c1_.toInt8.toInt32))), (.int (nar .byte (c2_.toInt8.toInt32))), (.int (nar .byte (c3_.toInt8.toInt32)))] (ii 0) := f34
     have kp36 := kp27.wr W31 (Or.inl (List.mem_of_getElem? (i := 0) rfl))
     obtain ⟨fs, hr, hrun, hended, hW, hsame⟩ := X31.leave (v := some (ii 4)) (fun h => by rw [Bd.returns] at h; cases h)
     refine ⟨_, _, c31 _ ?_, hrun, hended, _, _, rfl, ?_, ⟨_, rfl⟩, hW, hsame.mono (by decide) (by decide)⟩
     ·show S_ p e below T31 m 32 #[vr s_, vi 3, vr d_, vi 3, vi 4, vi 3, vi c3_] [] _
      refine XS.iinc X31.here hx rfl (hb hby d5_32) rfl (l' := #[vr s_, vi 4, vr d_, vi 3, vi 4, vi 3, vi c3_]) rfl ?_
      show S_ p e below T31 m 35 #[vr s_, vi 4, vr d_, vi 3, vi 4, vi 3, vi c3_] [] _
      refine XS.iinc X31.here hx rfl (hb hby d5_35) rfl (l' := #[vr s_, vi 4, vr d_, vi 4, vi 4, vi 3, vi c3_]) rfl ?_
      show S_ p e below T31 m 38 #[vr s_, vi 4, vr d_, vi 4, vi 4, vi 3, vi c3_] [] _
      refine XS.iinc X31.here hx rfl (hb hby d5_38) rfl (l' := #[vr s_, vi 4, vr d_, vi 4, vi 4, vi 4, vi c3_]) rfl ?_
      show S_ p e below T31 m 41 #[vr s_, vi 4, vr d_, vi 4, vi 4, vi 4, vi c3_] [] _
      refine yG X31.here hx rfl 41 3 rfl (hb hby d5_41) ?_
      show S_ p e below T31 m 3 #[vr s_, vi 4, vr d_, vi 4, vi 4, vi 4, vi c3_] [] _
      refine XS.iload X31.here hx rfl (hb hby d5_3) rfl ?_
      show S_ p e below T31 m 5 #[vr s_, vi 4, vr d_, vi 4, vi 4, vi 4, vi c3_] [(ii 4)] _
      refine XS.iload X31.here hx rfl (hb hby d5_5) rfl ?_
      show S_ p e below T31 m 7 #[vr s_, vi 4, vr d_, vi 4, vi 4, vi 4, vi c3_] [(ii 4), (ii 4)] _
      refine yC X31.here hx rfl 7 44 rfl (hb hby d5_7) rfl rfl ?_
      show S_ p e below T31 m 44 #[vr s_, vi 4, vr d_, vi 4, vi 4, vi 4, vi c3_] [] _
      refine XS.iload X31.here hx rfl (hb hby d5_44) rfl ?_
      show S_ p e below T31 m 46 #[vr s_, vi 4, vr d_, vi 4, vi 4, vi 4, vi c3_] [(ii 4)] _
      exact retOut X31 hx Bd.returns rfl (Or.inl ⟨rfl, Or.inl rfl, _, rfl⟩) (hb hby d5_46) hr
     ·show Q_cmp5a_4 Z s_ ks_ d_ kd_ c0_ c1_ c2_ c3_ h0 n0 _ T31.heap _
      rw [e31]
      exact (Or.inl ⟨rfl, N33, kp36, f35, hc2, hc11, hc20, hc29⟩)
theorem ef_nbl_4 (m : MethodId) : entryFrame m #[(ii 4)] 1 = mkF m 0 #[vi 4] [] := by first | (simp [entryFrame, mkF, argsToLocals, Value.category]; done) | rfl
def Q_nbl_4 (Z : State) (h0 : Heap) (n0 : Nat) (v : Option Value) (h : Heap) (L : List Loc) : Prop := v = some (ii 8) ∧ Fr n0 L ∧ h = h0
set_option maxRecDepth 65536 in
set_option maxHeartbeats 40000000 in
theorem rm_nbl_4 (l : Launch) (Z : State) (a0 : Array Value) (hw : HW Z a0) (ws : List Jvm.Cond) (h0 : Heap) (n0 : Nat) (O0 : Old Z n0 h0) :
  MFP l Z (⟨nm1, "newBytesLength", "(I)I"⟩ : MethodName) jdk_52_method_3_code 1 (some .int) ({ frames := 0, cells := 0, slots := 0, locals := 0 } : Room) ws #[(ii 4)] h0 (Q_nbl_4 Z h0 n0) := by
 refine MetFree.of_bodySF (plainFor_of_name pn_java_lang_StringUTF16) hisR ?_
 intro p e s m args below meth c s₁ Bd hml0 hP hK
 obtain ⟨rfl, hZ, hh⟩ := hP
 have hx := Bd.exec
 have hby := Bd.bytes
 have hml : c.maxLocals = 1 := hml0
 have hown : s.vm.findClass nm1 = some m.cls := findClass_of_methodNamed Bd.named
 have hnm := (name_of_methodNamed Bd.named Bd.method).1
 have X0 : Stand p l e ({ frames := 0, cells := 0, slots := 0, locals := 0 } : Room) s m #[(ii 4)] below meth c s₁ [] 0 0 := Stand.of_body Bd
 have e0 : s₁.heap = h0 := by rw [← hh, Bd.state]; rfl
 have N0 := Fr.nil n0
 have kp0 : Keep h0 h0 [] := Keep.refl _ _
 have c0 : ∀ t, S_ p e below s₁ m 0 #[vi 4] [] t → Steps p.tables e below (s₁.setTop (entryFrame m #[(ii 4)] 1)) t := fun t k => castTop (ef_nbl_4 m) k
 generalize s₁.setTop (entryFrame m #[(ii 4)] 1) = st0 at c0 ⊢
 replace c0 : Kt p e below s₁ st0 (mkF m 0 #[vi 4] []) := c0
 obtain ⟨fs, hr, hrun, hended, hW, hsame⟩ := X0.leave (v := some (ii 8)) (fun h => by rw [Bd.returns] at h; cases h)
 refine ⟨_, _, c0 _ ?_, hrun, hended, _, _, rfl, ?_, ⟨_, rfl⟩, hW, hsame.mono (by decide) (by decide)⟩
 ·show S_ p e below s₁ m 0 #[vi 4] [] _
  refine XS.iloadN X0.here hx rfl (hb hby d6_0) rfl ?_
  show S_ p e below s₁ m 1 #[vi 4] [(ii 4)] _
  refine yI X0.here hx rfl 1 12 rfl (hb hby d6_1) rfl rfl ?_
  show S_ p e below s₁ m 12 #[vi 4] [] _
  refine XS.iloadN X0.here hx rfl (hb hby d6_12) rfl ?_
  show S_ p e below s₁ m 13 #[vi 4] [(ii 4)] _
  refine X0.ldcInt hx hown (mvT hZ (w80 hw)) (g := (mkF m 13 #[vi 4] [(ii 4)])) rfl (hb hby d6_13) _ ?_
  show S_ p e below s₁ m 15 #[vi 4] [(ii 1073741823), (ii 4)] _
  refine yC X0.here hx rfl 15 55 rfl (hb hby d6_15) rfl rfl ?_
  show S_ p e below s₁ m 55 #[vi 4] [] _
  refine XS.iloadN X0.here hx rfl (hb hby d6_55) rfl ?_
  show S_ p e below s₁ m 56 #[vi 4] [(ii 4)] _
  refine XS.iconst X0.here hx rfl (hb hby d6_56) ?_
  show S_ p e below s₁ m 57 #[vi 4] [(ii 1), (ii 4)] _
  refine XS.ishl X0.here hx rfl (hb hby d6_57) rfl ?_
  show S_ p e below s₁ m 58 #[vi 4] [(ii 8)] _
  exact retOut X0 hx Bd.returns rfl (Or.inl ⟨rfl, Or.inl rfl, _, rfl⟩) (hb hby d6_58) hr
 ·show Q_nbl_4 Z h0 n0 _ s₁.heap _
  rw [e0]
  exact ⟨rfl, N0, rfl⟩
theorem ef_nbf_4 (m : MethodId) : entryFrame m #[(ii 4)] 1 = mkF m 0 #[vi 4] [] := by first | (simp [entryFrame, mkF, argsToLocals, Value.category]; done) | rfl
def Q_nbf_4 (Z : State) (h0 : Heap) (n0 : Nat) (v : Option Value) (h : Heap) (L : List Loc) : Prop := ∃ (b_ : Addr), ∃ (kb_ : ClassId), v = some (rr b_) ∧ Fr n0 L ∧ Keep h0 h [] ∧ Arv Z h b_ kb_ .byte (8 : Int32) [(ii 0), (ii 0), (ii 0), (ii 0), (ii 0), (ii 0), (ii 0), (ii 0)] (ii 0) ∧ n0 ≤ b_ ∧ h0.size ≤ b_
set_option maxRecDepth 65536 in
set_option maxHeartbeats 40000000 in
theorem rm_nbf_4 (l : Launch) (Z : State) (a0 : Array Value) (hw : HW Z a0) (ws : List Jvm.Cond) (h0 : Heap) (n0 : Nat) (O0 : Old Z n0 h0) :
  MFP l Z (⟨nm1, "newBytesFor", "(I)[B"⟩ : MethodName) jdk_52_method_2_code 1 (some (.array .byte)) ({ frames := 1, cells := 1, slots := 8, locals := 12 } : Room) ws #[(ii 4)] h0 (Q_nbf_4 Z h0 n0) := by
 refine MetFree.of_bodySF (plainFor_of_name pn_java_lang_StringUTF16) hisR ?_
 intro p e s m args below meth c s₁ Bd hml0 hP hK
 obtain ⟨rfl, hZ, hh⟩ := hP
 have hx := Bd.exec
 have hby := Bd.bytes
 have hml : c.maxLocals = 1 := hml0
 have hown : s.vm.findClass nm1 = some m.cls := findClass_of_methodNamed Bd.named
 have hnm := (name_of_methodNamed Bd.named Bd.method).1
 have X0 : Stand p l e ({ frames := 1, cells := 1, slots := 8, locals := 12 } : Room) s m #[(ii 4)] below meth c s₁ [] 0 0 := Stand.of_body Bd
 have e0 : s₁.heap = h0 := by rw [← hh, Bd.state]; rfl
 have N0 := Fr.nil n0
 have kp0 : Keep h0 h0 [] := Keep.refl _ _
 have c0 : ∀ t, S_ p e below s₁ m 0 #[vi 4] [] t → Steps p.tables e below (s₁.setTop (entryFrame m #[(ii 4)] 1)) t := fun t k => castTop (ef_nbf_4 m) k
 generalize s₁.setTop (entryFrame m #[(ii 4)] 1) = st0 at c0 ⊢
 replace c0 : Kt p e below s₁ st0 (mkF m 0 #[vi 4] []) := c0
 have c1 : Kt p e below s₁ st0 (mkF m 1 #[vi 4] [(ii 4)]) := fun t k => by
  refine c0 t ?_
  show S_ p e below s₁ m 0 #[vi 4] [] t
  refine XS.iloadN X0.here hx rfl (hb hby d7_0) rfl ?_
  exact k
 obtain ⟨_, T2, L2, X2, hQ2, c2⟩ := kstat X0 hx hZ hown (w77 hw) (w78 hw) (w41 hw) (w79 hw) (rm_nbl_4 l Z a0 hw []  h0 n0 O0 ) e0 c1 hml pd_pIrI [(ii 4)] [] 0 (hb hby d7_1) rfl rfl rfl rfl rfl rfl
 obtain ⟨rfl, N3q, K4⟩ := hQ2
 have N3 := Fr.app N0 N3q
 obtain ⟨b5, T5, h5, k5, z5, g5, X5, e5, E5, o6, A5, c5⟩ := knewP (aty := .byte) X2 hx hZ (w17 hw) K4 c2 rfl (hb hby d7_4) rfl (by decide) 8 (by decide) (by decide) (by decide) (by decide) O0
 have kp8 := kp0.ext E5
 have z9 := Nat.le_trans kp0.1 z5
 have f7 : Arv Z h5 b5 k5 .byte (8 : Int32) [(ii 0), (ii 0), (ii 0), (ii 0), (ii 0), (ii 0), (ii 0), (ii 0)] (ii 0) := A5.pad (pad_rep [] (ii 0) 8)
 obtain ⟨fs, hr, hrun, hended, hW, hsame⟩ := X5.leave (v := some (rr b5)) (fun h => by rw [Bd.returns] at h; cases h)
 refine ⟨_, _, c5 _ ?_, hrun, hended, _, _, rfl, ?_, ⟨_, rfl⟩, hW, hsame.mono (by decide) (by decide)⟩
 ·show S_ p e below T5 m 6 #[vi 4] [(rr b5)] _
  exact retOut X5 hx Bd.returns rfl (Or.inr (Or.inr (Or.inr (Or.inr ⟨rfl, rfl, rfl⟩)))) (hb hby d7_6) hr
 ·show Q_nbf_4 Z h0 n0 _ T5.heap _
  rw [e5]
  exact ⟨b5, k5, rfl, N3, kp8, f7, g5, z9⟩
theorem ef_tob_4 (m : MethodId) (s_ : Addr) : entryFrame m #[(rr s_), (ii 0), (ii 4)] 5 = mkF m 0 #[vr s_, vi 0, vi 4, u_, u_] [] := by first | (simp [entryFrame, mkF, argsToLocals, Value.category]; done) | rfl
def Q_tob_4 (Z : State) (s_ : Addr) (ks_ : ClassId) (c0_ : Int32) (c1_ : Int32) (c2_ : Int32) (c3_ : Int32) (h0 : Heap) (n0 : Nat) (v : Option Value) (h : Heap) (L : List Loc) : Prop := ∃ (b_ : Addr), ∃ (kb_ : ClassId), v = some (rr b_) ∧ Fr n0 L ∧ Keep h0 h [] ∧ Arv Z h b_ kb_ .byte (8 : Int32) [(.int (nar .byte ((c0_ >>> ((0 : Int32) &&& 31)).toInt8.toInt32))), (.int (nar .byte ((c0_ >>> ((8 : Int32) &&& 31)).toInt8.toInt32))), (.int (nar .byte ((c1_ >>> ((0 : Int32) &&& 31)).toInt8.toInt32))), (.int (nar .byte ((c1_ >>> ((8 : Int32) &&& 31)).toInt8.toInt32))), (.int (nar .byte ((c2_ >>> ((0 : Int32) &&& 31)).toInt8.toInt32))), (.int (nar .byte ((c2_ >>> ((8 : Int32) &&& 31)).toInt8.toInt32))), (.int (nar .byte ((c3_ >>> ((0 : Int32) &&& 31)).toInt8.toInt32))), (.int (nar .byte ((c3_ >>> ((8 : Int32) &&& 31)).toInt8.toInt32)))] (ii 0) ∧ n0 ≤ b_ ∧ h0.size ≤ b_
set_option maxRecDepth 65536 in
set_option maxHeartbeats 40000000 in
theorem rm_tob_4 (l : Launch) (Z : State) (a0 : Array Value) (hw : HW Z a0) (ws : List Jvm.Cond) (s_ : Addr) (ks_ : ClassId) (c0_ : Int32) (c1_ : Int32) (c2_ : Int32) (c3_ : Int32) (h0 : Heap) (n0 : Nat) (O0 : Old Z n0 h0) (A0_ : Arv Z h0 s_ ks_ .char (4 : Int32) [(.int c0_), (.int c1_), (.int c2_), (.int c3_)] (ii 0)) (ZS1_ : Sta Z Z.heap nm1 "$assertionsDisabled" "Z" (ii 1)) (ZS2_ : Sta Z Z.heap nm1 "HI_BYTE_SHIFT" "I" (ii 0)) (ZS3_ : Sta Z Z.heap nm1 "LO_BYTE_SHIFT" "I" (ii 8)) :
  MFP l Z (⟨nm1, "toBytes", "([CII)[B"⟩ : MethodName) jdk_52_method_14_code 5 (some (.array .byte)) ({ frames := 2, cells := 1, slots := 8, locals := 24 } : Room) ws #[(rr s_), (ii 0), (ii 4)] h0 (Q_tob_4 Z s_ ks_ c0_ c1_ c2_ c3_ h0 n0) := by
 refine MetFree.of_bodySF (plainFor_of_name pn_java_lang_StringUTF16) hisR ?_
 intro p e s m args below meth c s₁ Bd hml0 hP hK
 obtain ⟨rfl, hZ, hh⟩ := hP
 have hx := Bd.exec
 have hby := Bd.bytes
 have hml : c.maxLocals = 5 := hml0
 have hown : s.vm.findClass nm1 = some m.cls := findClass_of_methodNamed Bd.named
 have hnm := (name_of_methodNamed Bd.named Bd.method).1
 have X0 : Stand p l e ({ frames := 2, cells := 1, slots := 8, locals := 24 } : Room) s m #[(rr s_), (ii 0), (ii 4)] below meth c s₁ [] 0 0 := Stand.of_body Bd
 have e0 : s₁.heap = h0 := by rw [← hh, Bd.state]; rfl
 have N0 := Fr.nil n0
 have kp0 : Keep h0 h0 [] := Keep.refl _ _
 have c0 : ∀ t, S_ p e below s₁ m 0 #[vr s_, vi 0, vi 4, u_, u_] [] t → Steps p.tables e below (s₁.setTop (entryFrame m #[(rr s_), (ii 0), (ii 4)] 5)) t := fun t k => castTop (ef_tob_4 m s_) k
 generalize s₁.setTop (entryFrame m #[(rr s_), (ii 0), (ii 4)] 5) = st0 at c0 ⊢
 replace c0 : Kt p e below s₁ st0 (mkF m 0 #[vr s_, vi 0, vi 4, u_, u_] []) := c0
 have c1 : Kt p e below s₁ st0 (mkF m 1 #[vr s_, vi 0, vi 4, u_, u_] [(ii 4)]) := fun t k => by
  refine c0 t ?_
  show S_ p e below s₁ m 0 #[vr s_, vi 0, vi 4, u_, u_] [] t
  refine XS.iloadN X0.here hx rfl (hb hby d8_0) rfl ?_
  exact k
 obtain ⟨_, T2, L2, X2, hQ2, c2⟩ := kstat X0 hx hZ hown (w74 hw) (w75 hw) (w41 hw) (w76 hw) (rm_nbf_4 l Z a0 hw []  h0 n0 O0 ) e0 c1 hml pd_pIrAB [(ii 4)] [] 0 (hb hby d8_1) rfl rfl rfl rfl rfl rfl
 obtain ⟨b3, k4, rfl, N5q, K6, p7, p8, p9⟩ := hQ2
 have N5 := Fr.app N0 N5q
 have o10 := O0.keep K6 all0
 have kp11 := kp0.trans K6 all0
 have z12 := Nat.le_trans kp0.1 p9
 have g13 := Nat.le_trans (Nat.le_trans (Nat.le_of_eq O0.1.symm) O0.2.1) p9
 have c14 : Kt p e below T2 st0 (mkF m 20 #[vr s_, vi 0, vi 4, vr b3, vi 0] [(.int c0_), (ii 0), (rr b3)]) := fun t k => by
  refine c2 t ?_
  show S_ p e below T2 m 4 #[vr s_, vi 0, vi 4, u_, u_] [(rr b3)] t
  refine XS.astoreN X2.here hx rfl (hb hby d8_4) rfl rfl (l' := #[vr s_, vi 0, vi 4, vr b3, u_]) rfl ?_
  show S_ p e below T2 m 5 #[vr s_, vi 0, vi 4, vr b3, u_] [] t
  refine XS.iconst X2.here hx rfl (hb hby d8_5) ?_
  show S_ p e below T2 m 6 #[vr s_, vi 0, vi 4, vr b3, u_] [(ii 0)] t
  refine XS.istore X2.here hx rfl (hb hby d8_6) rfl (l' := #[vr s_, vi 0, vi 4, vr b3, vi 0]) rfl ?_
  show S_ p e below T2 m 8 #[vr s_, vi 0, vi 4, vr b3, vi 0] [] t
  refine XS.iload X2.here hx rfl (hb hby d8_8) rfl ?_
  show S_ p e below T2 m 10 #[vr s_, vi 0, vi 4, vr b3, vi 0] [(ii 0)] t
  refine XS.iloadN X2.here hx rfl (hb hby d8_10) rfl ?_
  show S_ p e below T2 m 11 #[vr s_, vi 0, vi 4, vr b3, vi 0] [(ii 4), (ii 0)] t
  refine XS.icmpNo X2.here hx rfl (hb hby d8_11) rfl rfl ?_
  show S_ p e below T2 m 14 #[vr s_, vi 0, vi 4, vr b3, vi 0] [] t
  refine XS.aloadN X2.here hx rfl (hb hby d8_14) rfl rfl ?_
  show S_ p e below T2 m 15 #[vr s_, vi 0, vi 4, vr b3, vi 0] [(rr b3)] t
  refine XS.iload X2.here hx rfl (hb hby d8_15) rfl ?_
  show S_ p e below T2 m 17 #[vr s_, vi 0, vi 4, vr b3, vi 0] [(ii 0), (rr b3)] t
  refine XS.aloadN X2.here hx rfl (hb hby d8_17) rfl rfl ?_
  show S_ p e below T2 m 18 #[vr s_, vi 0, vi 4, vr b3, vi 0] [(rr s_), (ii 0), (rr b3)] t
  refine XS.iloadN X2.here hx rfl (hb hby d8_18) rfl ?_
  show S_ p e below T2 m 19 #[vr s_, vi 0, vi 4, vr b3, vi 0] [(ii 0), (rr s_), (ii 0), (rr b3)] t
  refine ldC X2 hx hZ rfl (A0_.keep K6 nin0) (v := (.int c0_)) (by decide) (by decide) rfl rfl rfl (hb hby d8_19) ?_
  exact k
 obtain ⟨_, T15, L15, X15, hQ15, c15⟩ := kstat X2 hx hZ hown (w81 hw) (w82 hw) (w41 hw) (w83 hw) (rm_putc l Z a0 hw [] b3 k4 (8 : Int32) [(ii 0), (ii 0), (ii 0), (ii 0), (ii 0), (ii 0), (ii 0), (ii 0)] (0 : Int32) c0_ T2.heap n0 o10 p7 g13 ZS1_ ZS2_ ZS3_ (by decide) (by decide) (by decide) (by decide) (Nat.le_of_ble_eq_true rfl) (Nat.le_of_ble_eq_true rfl)) rfl c14 hml pd_pABIIrV [(rr b3), (ii 0), (.int c0_)] [] 0 (hb hby d8_20) rfl rfl rfl rfl rfl rfl
 obtain ⟨rfl, N16q, K17, p18⟩ := hQ15
 have N16 := Fr.app N5 N16q
 have o19 := o10.keep K17 (allS g13 all0)
 have kp20 := kp11.trans K17 (allS (Or.inr z12) all0)
 have f21 : Arv Z T15.heap b3 k4 .byte (8 : Int32) [(.int (nar .byte ((c0_ >>> ((0 : Int32) &&& 31)).toInt8.toInt32))), (.int (nar .byte ((c0_ >>> ((8 : Int32) &&& 31)).toInt8.toInt32))), (ii 0), (ii 0), (ii 0), (ii 0), (ii 0), (ii 0)] (ii 0) := p18
 have q22 := Nat.ne_of_lt (Nat.lt_of_lt_of_le A0_.lt p9)
 have c23 : Kt p e below T15 st0 (mkF m 20 #[vr s_, vi 1, vi 4, vr b3, vi 1] [(.int c1_), (ii 1), (rr b3)]) := fun t k => by
  refine c15 t ?_
  show S_ p e below T15 m 23 #[vr s_, vi 0, vi 4, vr b3, vi 0] [] t
  refine XS.iinc X15.here hx rfl (hb hby d8_23) rfl (l' := #[vr s_, vi 1, vi 4, vr b3, vi 0]) rfl ?_
  show S_ p e below T15 m 26 #[vr s_, vi 1, vi 4, vr b3, vi 0] [] t
  refine XS.iinc X15.here hx rfl (hb hby d8_26) rfl (l' := #[vr s_, vi 1, vi 4, vr b3, vi 1]) rfl ?_
  show S_ p e below T15 m 29 #[vr s_, vi 1, vi 4, vr b3, vi 1] [] t
  refine yG X15.here hx rfl 29 8 rfl (hb hby d8_29) ?_
  show S_ p e below T15 m 8 #[vr s_, vi 1, vi 4, vr b3, vi 1] [] t
  refine XS.iload X15.here hx rfl (hb hby d8_8) rfl ?_
  show S_ p e below T15 m 10 #[vr s_, vi 1, vi 4, vr b3, vi 1] [(ii 1)] t
  refine XS.iloadN X15.here hx rfl (hb hby d8_10) rfl ?_
  show S_ p e below T15 m 11 #[vr s_, vi 1, vi 4, vr b3, vi 1] [(ii 4), (ii 1)] t
  refine XS.icmpNo X15.here hx rfl (hb hby d8_11) rfl rfl ?_
  show S_ p e below T15 m 14 #[vr s_, vi 1, vi 4, vr b3, vi 1] [] t
  refine XS.aloadN X15.here hx rfl (hb hby d8_14) rfl rfl ?_
  show S_ p e below T15 m 15 #[vr s_, vi 1, vi 4, vr b3, vi 1] [(rr b3)] t
  refine XS.iload X15.here hx rfl (hb hby d8_15) rfl ?_
  show S_ p e below T15 m 17 #[vr s_, vi 1, vi 4, vr b3, vi 1] [(ii 1), (rr b3)] t
  refine XS.aloadN X15.here hx rfl (hb hby d8_17) rfl rfl ?_
  show S_ p e below T15 m 18 #[vr s_, vi 1, vi 4, vr b3, vi 1] [(rr s_), (ii 1), (rr b3)] t
  refine XS.iloadN X15.here hx rfl (hb hby d8_18) rfl ?_
  show S_ p e below T15 m 19 #[vr s_, vi 1, vi 4, vr b3, vi 1] [(ii 1), (rr s_), (ii 1), (rr b3)] t
  refine ldC X15 hx hZ rfl ((A0_.keep K6 nin0).keep K17 (ninS q22 nin0)) (v := (.int c1_)) (by decide) (by decide) rfl rfl rfl (hb hby d8_19) ?_
  exact k
 obtain ⟨_, T24, L24, X24, hQ24, c24⟩ := kstat X15 hx hZ hown (w81 hw) (w82 hw) (w41 hw) (w83 hw) (rm_putc l Z a0 hw [] b3 k4 (8 : Int32) [(.int (nar .byte ((c0_ >>> ((0 : Int32) &&& 31)).toInt8.toInt32))), (.int (nar .byte ((c0_ >>> ((8 : Int32) &&& 31)).toInt8.toInt32))), (ii 0), (ii 0), (ii 0), (ii 0), (ii 0), (ii 0)] (1 : Int32) c1_ T15.heap n0 o19 f21 g13 ZS1_ ZS2_ ZS3_ (by decide) (by decide) (by decide) (by decide) (Nat.le_of_ble_eq_true rfl) (Nat.le_of_ble_eq_true rfl)) rfl c23 hml pd_pABIIrV [(rr b3), (ii 1), (.int c1_)] [] 0 (hb hby d8_20) rfl rfl rfl rfl rfl rfl
 obtain ⟨rfl, N25q, K26, p27⟩ := hQ24
 have N25 := Fr.app N16 N25q
 have o28 := o19.keep K26 (allS g13 all0)
 have kp29 := kp20.trans K26 (allS (Or.inr z12) all0)
 have f30 : Arv Z T24.heap b3 k4 .byte (8 : Int32) [(.int (nar .byte ((c0_ >>> ((0 : Int32) &&& 31)).toInt8.toInt32))), (.int (nar .byte ((c0_ >>> ((8 : Int32) &&& 31)).toInt8.toInt32))), (.int (nar .byte ((c1_ >>> ((0 : Int32) &&& 31)).toInt8.toInt32))), (.int (nar .byte ((c1_ >>> ((8 : Int32) &&& 31)).toInt8.toInt32))), (ii 0), (ii 0), (ii 0), (ii 0)] (ii 0) := p27
 have c31 : Kt p e below T24 st0 (mkF m 20 #[vr s_, vi 2, vi 4, vr b3, vi 2] [(.int c2_), (ii 2), (rr b3)]) := fun t k => by
  refine c24 t ?_
  show S_ p e below T24 m 23 #[vr s_, vi 1, vi 4, vr b3, vi 1] [] t
  refine XS.iinc X24.here hx rfl (hb hby d8_23) rfl (l' := #[vr s_, vi 2, vi 4, vr b3, vi 1]) rfl ?_
  show S_ p e below T24 m 26 #[vr s_, vi 2, vi 4, vr b3, vi 1] [] t
  refine XS.iinc X24.here hx rfl (hb hby d8_26) rfl (l' := #[vr s_, vi 2, vi 4, vr b3, vi 2]) rfl ?_
  show S_ p e below T24 m 29 #[vr s_, vi 2, vi 4, vr b3, vi 2] [] t
  refine yG X24.here hx rfl 29 8 rfl (hb hby d8_29) ?_
  show S_ p e below T24 m 8 #[vr s_, vi 2, vi 4, vr b3, vi 2] [] t
  refine XS.iload X24.here hx rfl (hb hby d8_8) rfl ?_
  show S_ p e below T24 m 10 #[vr s_, vi 2, vi 4, vr b3, vi 2] [(ii 2)] t
  refine XS.iloadN X24.here hx rfl (hb hby d8_10) rfl ?_
  show S_ p e below T24 m 11 #[vr s_, vi 2, vi 4, vr b3, vi 2] [(ii 4), (ii 2)] t
  refine XS.icmpNo X24.here hx rfl (hb hby d8_11) rfl rfl ?_
  show S_ p e below T24 m 14 #[vr s_, vi 2, vi 4, vr b3, vi 2] [] t
  refine XS.aloadN X24.here hx rfl (hb hby d8_14) rfl rfl ?_
  show S_ p e below T24 m 15 #[vr s_, vi 2, vi 4, vr b3, vi 2] [(rr b3)] t
  refine XS.iload X24.here hx rfl (hb hby d8_15) rfl ?_
  show S_ p e below T24 m 17 #[vr s_, vi 2, vi 4, vr b3, vi 2] [(ii 2), (rr b3)] t
  refine XS.aloadN X24.here hx rfl (hb hby d8_17) rfl rfl ?_
  show S_ p e below T24 m 18 #[vr s_, vi 2, vi 4, vr b3, vi 2] [(rr s_), (ii 2), (rr b3)] t
  refine XS.iloadN X24.here hx rfl (hb hby d8_18) rfl ?_
  show S_ p e below T24 m 19 #[vr s_, vi 2, vi 4, vr b3, vi 2] [(ii 2), (rr s_), (ii 2), (rr b3)] t
  refine ldC X24 hx hZ rfl (((A0_.keep K6 nin0).keep K17 (ninS q22 nin0)).keep K26 (ninS q22 nin0)) (v := (.int c2_)) (by decide) (by decide) rfl rfl rfl (hb hby d8_19) ?_
  exact k
 obtain ⟨_, T32, L32, X32, hQ32, c32⟩ := kstat X24 hx hZ hown (w81 hw) (w82 hw) (w41 hw) (w83 hw) (rm_putc l Z a0 hw [] b3 k4 (8 : Int32) [(.int (nar .byte ((c0_ >>> ((0 : Int32) &&& 31)).toInt8.toInt32))), (.int (nar .byte ((c0_ >>> ((8 : Int32) &&& 31)).toInt8.toInt32))), (.int (nar .byte ((c1_ >>> ((0 : Int32) &&& 31)).toInt8.toInt32))), (.int (nar .byte ((c1_ >>> ((8 : Int32) &&& 31)).toInt8.toInt32))), (ii 0), (ii 0), (ii 0), (ii 0)] (2 : Int32) c2_ T24.heap n0 o28 f30 g13 ZS1_ ZS2_ ZS3_ (by decide) (by decide) (by decide) (by decide) (Nat.le_of_ble_eq_true rfl) (Nat.le_of_ble_eq_true rfl)) rfl c31 hml pd_pABIIrV [(rr b3), (ii 2), (.int c2_)] [] 0 (hb hby d8_20) rfl rfl rfl rfl rfl rfl
 obtain ⟨rfl, N33q, K34, p35⟩ := hQ32
 have N33 := Fr.app N25 N33q
 have o36 := o28.keep K34 (allS g13 all0)
 have kp37 := kp29.trans K34 (allS (Or.inr z12) all0)
 have f38 : Arv Z T32.heap b3 k4 .byte (8 : Int32) [(.int (nar .byte ((c0_ >>> ((0 : Int32) &&& 31)).toInt8.toInt32))), (.int (nar .byte ((c0_ >>> ((8 : Int32) &&& 31)).toInt8.toInt32))), (.int (nar .byte ((c1_ >>> ((0 : Int32) &&& 31)).toInt8.toInt32))), (.int (nar .byte ((c1_ >>> ((8 : Int32) &&& 31)).toInt8.toInt32))), (.int (nar .byte ((c2_ >>> ((0 : Int32) &&& 31)).toInt8.toInt32))), (.int (nar .byte ((c2_ >>> ((8 : Int32) &&& 31)).toInt8.toInt32))), (ii 0), (ii 0)] (ii 0) := p35
 have c39 : Kt p e below T32 st0 (mkF m 20 #[vr s_, vi 3, vi 4, vr b3, vi 3] [(.int c3_), (ii 3), (rr b3)]) := fun t k => by
  refine c32 t ?_
  show S_ p e below T32 m 23 #[vr s_, vi 2, vi 4, vr b3, vi 2] [] t
  refine XS.iinc X32.here hx rfl (hb hby d8_23) rfl (l' := #[vr s_, vi 3, vi 4, vr b3, vi 2]) rfl ?_
  show S_ p e below T32 m 26 #[vr s_, vi 3, vi 4, vr b3, vi 2] [] t
  refine XS.iinc X32.here hx rfl (hb hby d8_26) rfl (l' := #[vr s_, vi 3, vi 4, vr b3, vi 3]) rfl ?_
  show S_ p e below T32 m 29 #[vr s_, vi 3, vi 4, vr b3, vi 3] [] t
  refine yG X32.here hx rfl 29 8 rfl (hb hby d8_29) ?_
  show S_ p e below T32 m 8 #[vr s_, vi 3, vi 4, vr b3, vi 3] [] t
  refine XS.iload X32.here hx rfl (hb hby d8_8) rfl ?_
  show S_ p e below T32 m 10 #[vr s_, vi 3, vi 4, vr b3, vi 3] [(ii 3)] t
  refine XS.iloadN X32.here hx rfl (hb hby d8_10) rfl ?_
  show S_ p e below T32 m 11 #[vr s_, vi 3, vi 4, vr b3, vi 3] [(ii 4), (ii 3)] t
  refine XS.icmpNo X32.here hx rfl (hb hby d8_11) rfl rfl ?_
  show S_ p e below T32 m 14 #[vr s_, vi 3, vi 4, vr b3, vi 3] [] t
  refine XS.aloadN X32.here hx rfl (hb hby d8_14) rfl rfl ?_
  show S_ p e below T32 m 15 #[vr s_, vi 3, vi 4, vr b3, vi 3] [(rr b3)] t
  refine XS.iload X32.here hx rfl (hb hby d8_15) rfl ?_
  show S_ p e below T32 m 17 #[vr s_, vi 3, vi 4, vr b3, vi 3] [(ii 3), (rr b3)] t
  refine XS.aloadN X32.here hx rfl (hb hby d8_17) rfl rfl ?_
  show S_ p e below T32 m 18 #[vr s_, vi 3, vi 4, vr b3, vi 3] [(rr s_), (ii 3), (rr b3)] t
  refine XS.iloadN X32.here hx rfl (hb hby d8_18) rfl ?_
  show S_ p e below T32 m 19 #[vr s_, vi 3, vi 4, vr b3, vi 3] [(ii 3), (rr s_), (ii 3), (rr b3)] t
  refine ldC X32 hx hZ rfl ((((A0_.keep K6 nin0).keep K17 (ninS q22 nin0)).keep K26 (ninS q22 nin0)).keep K34 (ninS q22 nin0)) (v := (.int c3_)) (by decide) (by decide) rfl rfl rfl (hb hby d8_19) ?_
  exact k
 obtain ⟨_, T40, L40, X40, hQ40, c40⟩ := kstat X32 hx hZ hown (w81 hw) (w82 hw) (w41 hw) (w83 hw) (rm_putc l Z a0 hw [] b3 k4 (8 : Int32) [(.int (nar .byte ((c0_ >>> ((0 : Int32) &&& 31)).toInt8.toInt32))), (.int (nar .byte ((c0_ >>> ((8 : Int32) &&& 31)).toInt8.toInt32))), (.int (nar .byte ((c1_ >>> ((0 : Int32) &&& 31)).toInt8.toInt32))), (.int (nar .byte ((c1_ >>> ((8 : Int32) &&& 31)).toInt8.toInt32))), (.int (nar .byte ((c2_ >>> ((0 : Int32) &&& 31)).toInt8.toInt32))), (.int (nar .byte ((c2_ >>> ((8 : Int32) &&& 31)).toInt8.toInt32))), (ii 0), (ii 0)] (3 : Int32) c3_ T32.heap n0 o36 f38 g13 ZS1_ ZS2_ ZS3_ (by decide) (by decide) (by decide) (by decide) (Nat.le_of_ble_eq_true rfl) (Nat.le_of_ble_eq_true rfl)) rfl c39 hml pd_pABIIrV [(rr b3), (ii 3), (.int c3_)] [] 0 (hb hby d8_20) rfl rfl rfl rfl rfl rfl
 obtain ⟨rfl, N41q, K42, p43⟩ := hQ40
 have N41 := Fr.app N33 N41q
 have o44 := o36.keep K42 (allS g13 all0)
 have kp45 := kp37.trans K42 (allS (Or.inr z12) all0)
 have f46 : Arv Z T40.heap b3 k4 .byte (8 : Int32) [(.int (nar .byte ((c0_ >>> ((0 : Int32) &&& 31)).toInt8.toInt32))), (.int (nar .byte ((c0_ >>> ((8 : Int32) &&& 31)).toInt8.toInt32))), (.int (nar .byte ((c1_ >>> ((0 : Int32) &&& 31)).toInt8.toInt32))), (.int (nar .byte ((c1_ >>> ((8 : Int32) &&& 31)).toInt8.toInt32))), (.int (nar .byte ((c2_ >>> ((0 : Int32) &&& 31)).toInt8.toInt32))), (.int (nar .byte ((c2_ >>> ((8 : Int32) &&& 31)).toInt8.toInt32))), (.int (nar .byte ((c3_ >>> ((0 : Int32) &&& 31)).toInt8.toInt32))), (.int (nar .byte ((c3_ >>> ((8 : Int32) &&& 31)).toInt8.toInt32)))] (ii 0) := p43
 obtain ⟨fs, hr, hrun, hended, hW, hsame⟩ := X40.leave (v := some (rr b3)) (fun h => by rw [Bd.returns] at h; cases h)
 refine ⟨_, _, c40 _ ?_, hrun, hended, _, _, rfl, ?_, ⟨_, rfl⟩, hW, hsame.mono (by decide) (by decide)⟩
 ·show S_ p e below T40 m 23 #[vr s_, vi 3, vi 4, vr b3, vi 3] [] _
  refine XS.iinc X40.here hx rfl (hb hby d8_23) rfl (l' := #[vr s_, vi 4, vi 4, vr b3, vi 3]) rfl ?_
  show S_ p e below T40 m 26 #[vr s_, vi 4, vi 4, vr b3, vi 3] [] _
  refine XS.iinc X40.here hx rfl (hb hby d8_26) rfl (l' := #[vr s_, vi 4, vi 4, vr b3, vi 4]) rfl ?_
  show S_ p e below T40 m 29 #[vr s_, vi 4, vi 4, vr b3, vi 4] [] _
  refine yG X40.here hx rfl 29 8 rfl (hb hby d8_29) ?_
  show S_ p e below T40 m 8 #[vr s_, vi 4, vi 4, vr b3, vi 4] [] _
  refine XS.iload X40.here hx rfl (hb hby d8_8) rfl ?_
  show S_ p e below T40 m 10 #[vr s_, vi 4, vi 4, vr b3, vi 4] [(ii 4)] _
  refine XS.iloadN X40.here hx rfl (hb hby d8_10) rfl ?_
  show S_ p e below T40 m 11 #[vr s_, vi 4, vi 4, vr b3, vi 4] [(ii 4), (ii 4)] _
  refine yC X40.here hx rfl 11 32 rfl (hb hby d8_11) rfl rfl ?_
  show S_ p e below T40 m 32 #[vr s_, vi 4, vi 4, vr b3, vi 4] [] _
  refine XS.aloadN X40.here hx rfl (hb hby d8_32) rfl rfl ?_
  show S_ p e below T40 m 33 #[vr s_, vi 4, vi 4, vr b3, vi 4] [(rr b3)] _
  exact retOut X40 hx Bd.returns rfl (Or.inr (Or.inr (Or.inr (Or.inr ⟨rfl, rfl, rfl⟩)))) (hb hby d8_33) hr
 ·show Q_tob_4 Z s_ ks_ c0_ c1_ c2_ c3_ h0 n0 _ T40.heap _
  exact ⟨b3, k4, rfl, N41, kp45, f46, g13, z12⟩
theorem ef_cmp3a_4 (m : MethodId) (s_ : Addr) : entryFrame m #[(rr s_), (ii 0), (ii 4)] 6 = mkF m 0 #[vr s_, vi 0, vi 4, u_, u_, u_] [] := by first | (simp [entryFrame, mkF, argsToLocals, Value.category]; done) | rfl
def Q_cmp3a_4 (Z : State) (s_ : Addr) (ks_ : ClassId) (c0_ : Int32) (c1_ : Int32) (c2_ : Int32) (c3_ : Int32) (h0 : Heap) (n0 : Nat) (v : Option Value) (h : Heap) (L : List Loc) : Prop := (∃ (b_ : Addr), ∃ (kb_ : ClassId), v = some (rr b_) ∧ Fr n0 L ∧ Keep h0 h [] ∧ Arv Z h b_ kb_ .byte (4 : Int32) [(.int (nar .byte (c0_.toInt8.toInt32))), (.int (nar .byte (c1_.toInt8.toInt32))), (.int (nar .byte (c2_.toInt8.toInt32))), (.int (nar .byte (c3_.toInt8.toInt32)))] (ii 0) ∧ n0 ≤ b_ ∧ h0.size ≤ b_ ∧ ¬ ((255 : Int32) < c0_) ∧ ¬ ((255 : Int32) < c1_) ∧ ¬ ((255 : Int32) < c2_) ∧ ¬ ((255 : Int32) < c3_)) ∨ (∃ (b_ : Addr), ∃ (kb_ : ClassId), v = some (rr b_) ∧ Fr n0 L ∧ Keep h0 h [] ∧ Arv Z h b_ kb_ .byte (8 : Int32) [(.int (nar .byte ((c0_ >>> ((0 : Int32) &&& 31)).toInt8.toInt32))), (.int (nar .byte ((c0_ >>> ((8 : Int32) &&& 31)).toInt8.toInt32))), (.int (nar .byte ((c1_ >>> ((0 : Int32) &&& 31)).toInt8.toInt32))), (.int (nar .byte ((c1_ >>> ((8 : Int32) &&& 31)).toInt8.toInt32))), (.int (nar .byte ((c2_ >>> ((0 : Int32) &&& 31)).toInt8.toInt32))), (.int (nar .byte ((c2_ >>> ((8 : Int32) &&& 31)).toInt8.toInt32))), (.int (nar .byte ((c3_ >>> ((0 : Int32) &&& 31)).toInt8.toInt32))), (.int (nar .byte ((c3_ >>> ((8 : Int32) &&& 31)).toInt8.toInt32)))] (ii 0) ∧ n0 ≤ b_ ∧ h0.size ≤ b_)
set_option maxRecDepth 65536 in
set_option maxHeartbeats 40000000 in
theorem rm_cmp3a_4 (l : Launch) (Z : State) (a0 : Array Value) (hw : HW Z a0) (ws : List Jvm.Cond) (s_ : Addr) (ks_ : ClassId) (c0_ : Int32) (c1_ : Int32) (c2_ : Int32) (c3_ : Int32) (h0 : Heap) (n0 : Nat) (O0 : Old Z n0 h0) (A0_ : Arv Z h0 s_ ks_ .char (4 : Int32) [(.int c0_), (.int c1_), (.int c2_), (.int c3_)] (ii 0)) (ZS1_ : Sta Z Z.heap nm1 "$assertionsDisabled" "Z" (ii 1)) (ZS2_ : Sta Z Z.heap nm1 "HI_BYTE_SHIFT" "I" (ii 0)) (ZS3_ : Sta Z Z.heap nm1 "LO_BYTE_SHIFT" "I" (ii 8)) (hc0_ : nar .char c0_ = c0_) (hc1_ : nar .char c1_ = c1_) (hc2_ : nar .char c2_ = c2_) (hc3_ : nar .char c3_ = c3_) :
  MFP l Z (⟨nm1, "compress", "([CII)[B"⟩ : MethodName) jdk_52_method_16_code 6 (some (.array .byte)) ({ frames := 3, cells := 2, slots := 12, locals := 40 } : Room) ws #[(rr s_), (ii 0), (ii 4)] h0 (Q_cmp3a_4 Z s_ ks_ c0_ c1_ c2_ c3_ h0 n0) := by
 refine MetFree.of_bodySF (plainFor_of_name pn_java_lang_StringUTF16) hisR ?_
 intro p e s m args below meth c s₁ Bd hml0 hP hK
 obtain ⟨rfl, hZ, hh⟩ := hP
 have hx := Bd.exec
 have hby := Bd.bytes
 have hml : c.maxLocals = 6 := hml0
 have hown : s.vm.findClass nm1 = some m.cls := findClass_of_methodNamed Bd.named
 have hnm := (name_of_methodNamed Bd.named Bd.method).1
 have X0 : Stand p l e ({ frames := 3, cells := 2, slots := 12, locals := 40 } : Room) s m #[(rr s_), (ii 0), (ii 4)] below meth c s₁ [] 0 0 := Stand.of_body Bd
 have e0 : s₁.heap = h0 := by rw [← hh, Bd.state]; rfl
 have N0 := Fr.nil n0
 have kp0 : Keep h0 h0 [] := Keep.refl _ _
 have c0 : ∀ t, S_ p e below s₁ m 0 #[vr s_, vi 0, vi 4, u_, u_, u_] [] t → Steps p.tables e below (s₁.setTop (entryFrame m #[(rr s_), (ii 0), (ii 4)] 6)) t := fun t k => castTop (ef_cmp3a_4 m s_) k
 generalize s₁.setTop (entryFrame m #[(rr s_), (ii 0), (ii 4)] 6) = st0 at c0 ⊢
 replace c0 : Kt p e below s₁ st0 (mkF m 0 #[vr s_, vi 0, vi 4, u_, u_, u_] []) := c0
 have c1 : Kt p e below s₁ st0 (mkF m 1 #[vr s_, vi 0, vi 4, u_, u_, u_] [(ii 4)]) := fun t k => by
  refine c0 t ?_
  show S_ p e below s₁ m 0 #[vr s_, vi 0, vi 4, u_, u_, u_] [] t
  refine XS.iloadN X0.here hx rfl (hb hby d9_0) rfl ?_
  exact k
 obtain ⟨b2, T2, h2, k2, z2, g2, X2, e2, E2, o3, A2, c2⟩ := knewP (aty := .byte) X0 hx hZ (w17 hw) e0 c1 rfl (hb hby d9_1) rfl (by decide) 4 (by decide) (by decide) (by decide) (by decide) O0
 have kp5 := kp0.ext E2
 have z6 := Nat.le_trans kp0.1 z2
 have f4 : Arv Z h2 b2 k2 .byte (4 : Int32) [(ii 0), (ii 0), (ii 0), (ii 0)] (ii 0) := A2.pad (pad_rep [] (ii 0) 4)
 have q7 := Nat.ne_of_lt (Nat.lt_of_lt_of_le A0_.lt z2)
 have c8 : Kt p e below T2 st0 (mkF m 9 #[vr s_, vi 0, vi 4, vr b2, u_, u_] [(ii 4), (ii 0), (rr b2), (ii 0), (rr s_)]) := fun t k => by
  refine c2 t ?_
  show S_ p e below T2 m 3 #[vr s_, vi 0, vi 4, u_, u_, u_] [(rr b2)] t
  refine XS.astoreN X2.here hx rfl (hb hby d9_3) rfl rfl (l' := #[vr s_, vi 0, vi 4, vr b2, u_, u_]) rfl ?_
  show S_ p e below T2 m 4 #[vr s_, vi 0, vi 4, vr b2, u_, u_] [] t
  refine XS.aloadN X2.here hx rfl (hb hby d9_4) rfl rfl ?_
  show S_ p e below T2 m 5 #[vr s_, vi 0, vi 4, vr b2, u_, u_] [(rr s_)] t
  refine XS.iloadN X2.here hx rfl (hb hby d9_5) rfl ?_
  show S_ p e below T2 m 6 #[vr s_, vi 0, vi 4, vr b2, u_, u_] [(ii 0), (rr s_)] t
  refine XS.aloadN X2.here hx rfl (hb hby d9_6) rfl rfl ?_
  show S_ p e below T2 m 7 #[vr s_, vi 0, vi 4, vr b2, u_, u_] [(rr b2), (ii 0), (rr s_)] t
  refine XS.iconst X2.here hx rfl (hb hby d9_7) ?_
  show S_ p e below T2 m 8 #[vr s_, vi 0, vi 4, vr b2, u_, u_] [(ii 0), (rr b2), (ii 0), (rr s_)] t
  refine XS.iloadN X2.here hx rfl (hb hby d9_8) rfl ?_
  exact k
 obtain ⟨_, T9, L9, X9, hQ9, c9⟩ := kstat X2 hx hZ hown (w43 hw) (w44 hw) (w41 hw) (w45 hw) (rm_cmp5a_4 l Z a0 hw [] s_ ks_ b2 k2 c0_ c1_ c2_ c3_ h2 n0 o3 (A0_.ext E2) f4 g2 q7) e2 c8 hml pd_pACIABIIrI [(rr s_), (ii 0), (rr b2), (ii 0), (ii 4)] [] 0 (hb hby d9_9) rfl rfl rfl rfl rfl rfl
 rcases hQ9 with hQ9 | hQ9 | hQ9 | hQ9 | hQ9
 ·obtain ⟨rfl, N10q, K11, p12, p13, p14, p15, p16⟩ := hQ9
  have N10 := Fr.app N0 N10q
  have o17 := o3.keep K11 (allS g2 all0)
  have kp18 := kp5.trans K11 (allS (Or.inr z6) all0)
  obtain ⟨fs, hr, hrun, hended, hW, hsame⟩ := X9.leave (v := some (rr b2)) (fun h => by rw [Bd.returns] at h; cases h)
  refine ⟨_, _, c9 _ ?_, hrun, hended, _, _, rfl, ?_, ⟨_, rfl⟩, hW, hsame.mono (by decide) (by decide)⟩
  ·show S_ p e below T9 m 12 #[vr s_, vi 0, vi 4, vr b2, u_, u_] [(ii 4)] _
   refine XS.istore X9.here hx rfl (hb hby d9_12) rfl (l' := #[vr s_, vi 0, vi 4, vr b2, vi 4, u_]) rfl ?_
   show S_ p e below T9 m 14 #[vr s_, vi 0, vi 4, vr b2, vi 4, u_] [] _
   refine XS.iload X9.here hx rfl (hb hby d9_14) rfl ?_
   show S_ p e below T9 m 16 #[vr s_, vi 0, vi 4, vr b2, vi 4, u_] [(ii 4)] _
   refine XS.iloadN X9.here hx rfl (hb hby d9_16) rfl ?_
   show S_ p e below T9 m 17 #[vr s_, vi 0, vi 4, vr b2, vi 4, u_] [(ii 4), (ii 4)] _
   refine yC X9.here hx rfl 17 57 rfl (hb hby d9_17) rfl rfl ?_
   show S_ p e below T9 m 57 #[vr s_, vi 0, vi 4, vr b2, vi 4, u_] [] _
   refine XS.aloadN X9.here hx rfl (hb hby d9_57) rfl rfl ?_
   show S_ p e below T9 m 58 #[vr s_, vi 0, vi 4, vr b2, vi 4, u_] [(rr b2)] _
   exact retOut X9 hx Bd.returns rfl (Or.inr (Or.inr (Or.inr (Or.inr ⟨rfl, rfl, rfl⟩)))) (hb hby d9_58) hr
  ·show Q_cmp3a_4 Z s_ ks_ c0_ c1_ c2_ c3_ h0 n0 _ T9.heap _
   exact (Or.inl ⟨b2, k2, rfl, N10, kp18, p12, g2, z6, p13, p14, p15, p16⟩)
 ·obtain ⟨rfl, N19q, K20, p21⟩ := hQ9
  have N19 := Fr.app N0 N19q
  have o22 := o3.keep K20 (allS g2 all0)
  have kp23 := kp5.trans K20 (allS (Or.inr z6) all0)
  have c24 : Kt p e below T9 st0 (mkF m 23 #[vr s_, vi 0, vi 4, vr b2, vi 0, u_] [(ii 4), (ii 0), (rr s_)]) := fun t k => by
   refine c9 t ?_
   show S_ p e below T9 m 12 #[vr s_, vi 0, vi 4, vr b2, u_, u_] [(ii 0)] t
   refine XS.istore X9.here hx rfl (hb hby d9_12) rfl (l' := #[vr s_, vi 0, vi 4, vr b2, vi 0, u_]) rfl ?_
   show S_ p e below T9 m 14 #[vr s_, vi 0, vi 4, vr b2, vi 0, u_] [] t
   refine XS.iload X9.here hx rfl (hb hby d9_14) rfl ?_
   show S_ p e below T9 m 16 #[vr s_, vi 0, vi 4, vr b2, vi 0, u_] [(ii 0)] t
   refine XS.iloadN X9.here hx rfl (hb hby d9_16) rfl ?_
   show S_ p e below T9 m 17 #[vr s_, vi 0, vi 4, vr b2, vi 0, u_] [(ii 4), (ii 0)] t
   refine XS.icmpNo X9.here hx rfl (hb hby d9_17) rfl rfl ?_
   show S_ p e below T9 m 20 #[vr s_, vi 0, vi 4, vr b2, vi 0, u_] [] t
   refine XS.aloadN X9.here hx rfl (hb hby d9_20) rfl rfl ?_
   show S_ p e below T9 m 21 #[vr s_, vi 0, vi 4, vr b2, vi 0, u_] [(rr s_)] t
   refine XS.iloadN X9.here hx rfl (hb hby d9_21) rfl ?_
   show S_ p e below T9 m 22 #[vr s_, vi 0, vi 4, vr b2, vi 0, u_] [(ii 0), (rr s_)] t
   refine XS.iloadN X9.here hx rfl (hb hby d9_22) rfl ?_
   exact k
  obtain ⟨_, T25, L25, X25, hQ25, c25⟩ := kstat X9 hx hZ hown (w71 hw) (w72 hw) (w41 hw) (w73 hw) (rm_tob_4 l Z a0 hw [] s_ ks_ c0_ c1_ c2_ c3_ T9.heap n0 o22 ((A0_.ext E2).keep K20 (ninS q7 nin0)) ZS1_ ZS2_ ZS3_) rfl c24 hml pd_pACIIrAB [(rr s_), (ii 0), (ii 4)] [] 0 (hb hby d9_23) rfl rfl rfl rfl rfl rfl
  obtain ⟨b26, k27, rfl, N28q, K29, p30, p31, p32⟩ := hQ25
  have N28 := Fr.app N19 N28q
  have o33 := o22.keep K29 all0
  have kp34 := kp23.trans K29 all0
  have z35 := Nat.le_trans kp23.1 p32
  have g36 := Nat.le_trans (Nat.le_trans (Nat.le_of_eq o22.1.symm) o22.2.1) p32
  have c37 : Kt p e below T25 st0 (mkF m 32 #[vr s_, vi 0, vi 4, vr b2, vi 0, vr b26] [(ii 0), (rr b26)]) := fun t k => by
   refine c25 t ?_
   show S_ p e below T25 m 26 #[vr s_, vi 0, vi 4, vr b2, vi 0, u_] [(rr b26)] t
   refine XS.astore X25.here hx rfl (hb hby d9_26) rfl rfl (l' := #[vr s_, vi 0, vi 4, vr b2, vi 0, vr b26]) rfl ?_
   show S_ p e below T25 m 28 #[vr s_, vi 0, vi 4, vr b2, vi 0, vr b26] [] t
   refine XS.aload X25.here hx rfl (hb hby d9_28) rfl rfl ?_
   show S_ p e below T25 m 30 #[vr s_, vi 0, vi 4, vr b2, vi 0, vr b26] [(rr b26)] t
   refine XS.iload X25.here hx rfl (hb hby d9_30) rfl ?_
   exact k
  obtain ⟨_, T38, L38, X38, hQ38, c38⟩ := kstat X25 hx hZ hown (w87 hw) (w88 hw) (w41 hw) (w89 hw) (rm_getc l Z a0 hw [] b26 k27 (8 : Int32) [(.int (nar .byte ((c0_ >>> ((0 : Int32) &&& 31)).toInt8.toInt32))), (.int (nar .byte ((c0_ >>> ((8 : Int32) &&& 31)).toInt8.toInt32))), (.int (nar .byte ((c1_ >>> ((0 : Int32) &&& 31)).toInt8.toInt32))), (.int (nar .byte ((c1_ >>> ((8 : Int32) &&& 31)).toInt8.toInt32))), (.int (nar .byte ((c2_ >>> ((0 : Int32) &&& 31)).toInt8.toInt32))), (.int (nar .byte ((c2_ >>> ((8 : Int32) &&& 31)).toInt8.toInt32))), (.int (nar .byte ((c3_ >>> ((0 : Int32) &&& 31)).toInt8.toInt32))), (.int (nar .byte ((c3_ >>> ((8 : Int32) &&& 31)).toInt8.toInt32)))] (0 : Int32) ((nar .byte ((c0_ >>> ((0 : Int32) &&& 31)).toInt8.toInt32))) ((nar .byte ((c0_ >>> ((8 : Int32) &&& 31)).toInt8.toInt32))) c0_ T25.heap n0 o33 p30 ZS1_ ZS2_ ZS3_ (by decide) (by decide) (by decide) (by decide) rfl rfl (own_get16 hc0_)) rfl c37 hml pd_pABIrC [(rr b26), (ii 0)] [] 0 (hb hby d9_32) rfl rfl rfl rfl rfl rfl
  obtain ⟨rfl, N39q, K40⟩ := hQ38
  have N39 := Fr.app N28 N39q
  obtain ⟨fs, hr, hrun, hended, hW, hsame⟩ := X38.leave (v := some (rr b26)) (fun h => by rw [Bd.returns] at h; cases h)
  refine ⟨_, _, c38 _ ?_, hrun, hended, _, _, rfl, ?_, ⟨_, rfl⟩, hW, hsame.mono (by decide) (by decide)⟩
  ·show S_ p e below T38 m 35 #[vr s_, vi 0, vi 4, vr b2, vi 0, vr b26] [(.int c0_)] _
   refine XS.sipush X38.here hx rfl (hb hby d9_35) ?_
   show S_ p e below T38 m 38 #[vr s_, vi 0, vi 4, vr b2, vi 0, vr b26] [(ii 255), (.int c0_)] _
   refine yC X38.here hx rfl 38 54 rfl (hb hby d9_38) rfl (tlt p21).2.2.1 ?_
   show S_ p e below T38 m 54 #[vr s_, vi 0, vi 4, vr b2, vi 0, vr b26] [] _
   refine XS.aload X38.here hx rfl (hb hby d9_54) rfl rfl ?_
   show S_ p e below T38 m 56 #[vr s_, vi 0, vi 4, vr b2, vi 0, vr b26] [(rr b26)] _
   exact retOut X38 hx Bd.returns rfl (Or.inr (Or.inr (Or.inr (Or.inr ⟨rfl, rfl, rfl⟩)))) (hb hby d9_56) hr
  ·show Q_cmp3a_4 Z s_ ks_ c0_ c1_ c2_ c3_ h0 n0 _ T38.heap _
   rw [K40]
   exact (Or.inr (⟨b26, k27, rfl, N39, kp34, p30, g36, z35⟩))
 ·obtain ⟨rfl, N41q, K42, p43⟩ := hQ9
  have N41 := Fr.app N0 N41q
  have o44 := o3.keep K42 (allS g2 all0)
  have kp45 := kp5.trans K42 (allS (Or.inr z6) all0)
  have c46 : Kt p e below T9 st0 (mkF m 23 #[vr s_, vi 0, vi 4, vr b2, vi 1, u_] [(ii 4), (ii 0), (rr s_)]) := fun t k => by
   refine c9 t ?_
   show S_ p e below T9 m 12 #[vr s_, vi 0, vi 4, vr b2, u_, u_] [(ii 1)] t
   refine XS.istore X9.here hx rfl (hb hby d9_12) rfl (l' := #[vr s_, vi 0, vi 4, vr b2, vi 1, u_]) rfl ?_
   show S_ p e below T9 m 14 #[vr s_, vi 0, vi 4, vr b2, vi 1, u_] [] t
   refine XS.iload X9.here hx rfl (hb hby d9_14) rfl ?_
   show S_ p e below T9 m 16 #[vr s_, vi 0, vi 4, vr b2, vi 1, u_] [(ii 1)] t
   refine XS.iloadN X9.here hx rfl (hb hby d9_16) rfl ?_
   show S_ p e below T9 m 17 #[vr s_, vi 0, vi 4, vr b2, vi 1, u_] [(ii 4), (ii 1)] t
   refine XS.icmpNo X9.here hx rfl (hb hby d9_17) rfl rfl ?_
   show S_ p e below T9 m 20 #[vr s_, vi 0, vi 4, vr b2, vi 1, u_] [] t
   refine XS.aloadN X9.here hx rfl (hb hby d9_20) rfl rfl ?_
   show S_ p e below T9 m 21 #[vr s_, vi 0, vi 4, vr b2, vi 1, u_] [(rr s_)] t
   refine XS.iloadN X9.here hx rfl (hb hby d9_21) rfl ?_
   show S_ p e below T9 m 22 #[vr s_, vi 0, vi 4, vr b2, vi 1, u_] [(ii 0), (rr s_)] t
   refine XS.iloadN X9.here hx rfl (hb hby d9_22) rfl ?_
   exact k
  obtain ⟨_, T47, L47, X47, hQ47, c47⟩ := kstat X9 hx hZ hown (w71 hw) (w72 hw) (w41 hw) (w73 hw) (rm_tob_4 l Z a0 hw [] s_ ks_ c0_ c1_ c2_ c3_ T9.heap n0 o44 ((A0_.ext E2).keep K42 (ninS q7 nin0)) ZS1_ ZS2_ ZS3_) rfl c46 hml pd_pACIIrAB [(rr s_), (ii 0), (ii 4)] [] 0 (hb hby d9_23) rfl rfl rfl rfl rfl rfl
  obtain ⟨b48, k49, rfl, N50q, K51, p52, p53, p54⟩ := hQ47
  have N50 := Fr.app N41 N50q
  have o55 := o44.keep K51 all0
  have kp56 := kp45.trans K51 all0
  have z57 := Nat.le_trans kp45.1 p54
  have g58 := Nat.le_trans (Nat.le_trans (Nat.le_of_eq o44.1.symm) o44.2.1) p54
  have c59 : Kt p e below T47 st0 (mkF m 32 #[vr s_, vi 0, vi 4, vr b2, vi 1, vr b48] [(ii 1), (rr b48)]) := fun t k => by
   refine c47 t ?_
   show S_ p e below T47 m 26 #[vr s_, vi 0, vi 4, vr b2, vi 1, u_] [(rr b48)] t
   refine XS.astore X47.here hx rfl (hb hby d9_26) rfl rfl (l' := #[vr s_, vi 0, vi 4, vr b2, vi 1, vr b48]) rfl ?_
   show S_ p e below T47 m 28 #[vr s_, vi 0, vi 4, vr b2, vi 1, vr b48] [] t
   refine XS.aload X47.here hx rfl (hb hby d9_28) rfl rfl ?_
   show S_ p e below T47 m 30 #[vr s_, vi 0, vi 4, vr b2, vi 1, vr b48] [(rr b48)] t
   refine XS.iload X47.here hx rfl (hb hby d9_30) rfl ?_
   exact k
  obtain ⟨_, T60, L60, X60, hQ60, c60⟩ := kstat X47 hx hZ hown (w87 hw) (w88 hw) (w41 hw) (w89 hw) (rm_getc l Z a0 hw [] b48 k49 (8 : Int32) [(.int (nar .byte ((c0_ >>> ((0 : Int32) &&& 31)).toInt8.toInt32))), (.int (nar .byte ((c0_ >>> ((8 : Int32) &&& 31)).toInt8.toInt32))), (.int (nar .byte ((c1_ >>> ((0 : Int32) &&& 31)).toInt8.toInt32))), (.int (nar .byte ((c1_ >>> ((8 : Int32) &&& 31)).toInt8.toInt32))), (.int (nar .byte ((c2_ >>> ((0 : Int32) &&& 31)).toInt8.toInt32))), (.int (nar .byte ((c2_ >>> ((8 : Int32) &&& 31)).toInt8.toInt32))), (.int (nar .byte ((c3_ >>> ((0 : Int32) &&& 31)).toInt8.toInt32))), (.int (nar .byte ((c3_ >>> ((8 : Int32) &&& 31)).toInt8.toInt32)))] (1 : Int32) ((nar .byte ((c1_ >>> ((0 : Int32) &&& 31)).toInt8.toInt32))) ((nar .byte ((c1_ >>> ((8 : Int32) &&& 31)).toInt8.toInt32))) c1_ T47.heap n0 o55 p52 ZS1_ ZS2_ ZS3_ (by decide) (by decide) (by decide) (by decide) rfl rfl (own_get16 hc1_)) rfl c59 hml pd_pABIrC [(rr b48), (ii 1)] [] 0 (hb hby d9_32) rfl rfl rfl rfl rfl rfl
  obtain ⟨rfl, N61q, K62⟩ := hQ60
  have N61 := Fr.app N50 N61q
  obtain ⟨fs, hr, hrun, hended, hW, hsame⟩ := X60.leave (v := some (rr b48)) (fun h => by rw [Bd.returns] at h; cases h)
  refine ⟨_, _, c60 _ ?_, hrun, hended, _, _, rfl, ?_, ⟨_, rfl⟩, hW, hsame.mono (by decide) (by decide)⟩
  ·show S_ p e below T60 m 35 #[vr s_, vi 0, vi 4, vr b2, vi 1, vr b48] [(.int c1_)] _
   refine XS.sipush X60.here hx rfl (hb hby d9_35) ?_
   show S_ p e below T60 m 38 #[vr s_, vi 0, vi 4, vr b2, vi 1, vr b48] [(ii 255), (.int c1_)] _
   refine yC X60.here hx rfl 38 54 rfl (hb hby d9_38) rfl (tlt p43).2.2.1 ?_
   show S_ p e below T60 m 54 #[vr s_, vi 0, vi 4, vr b2, vi 1, vr b48] [] _
   refine XS.aload X60.here hx rfl (hb hby d9_54) rfl rfl ?_
   show S_ p e below T60 m 56 #[vr s_, vi 0, vi 4, vr b2, vi 1, vr b48] [(rr b48)] _
   exact retOut X60 hx Bd.returns rfl (Or.inr (Or.inr (Or.inr (Or.inr ⟨rfl, rfl, rfl⟩)))) (hb hby d9_56) hr
  ·show Q_cmp3a_4 Z s_ ks_ c0_ c1_ c2_ c3_ h0 n0 _ T60.heap _
   rw [K62]
   exact (Or.inr (⟨b48, k49, rfl, N61, kp56, p52, g58, z57⟩))
 ·obtain ⟨rfl, N63q, K64, p65⟩ := hQ9
  have N63 := Fr.app N0 N63q
  have o66 := o3.keep K64 (allS g2 all0)
  have kp67 := kp5.trans K64 (allS (Or.inr z6) all0)
  have c68 : Kt p e below T9 st0 (mkF m 23 #[vr s_, vi 0, vi 4, vr b2, vi 2, u_] [(ii 4), (ii 0), (rr s_)]) := fun t k => by
   refine c9 t ?_
   show S_ p e below T9 m 12 #[vr s_, vi 0, vi 4, vr b2, u_, u_] [(ii 2)] t
   refine XS.istore X9.here hx rfl (hb hby d9_12) rfl (l' := #[vr s_, vi 0, vi 4, vr b2, vi 2, u_]) rfl ?_
   show S_ p e below T9 m 14 #[vr s_, vi 0, vi 4, vr b2, vi 2, u_] [] t
   refine XS.iload X9.here hx rfl (hb hby d9_14) rfl ?_
   show S_ p e below T9 m 16 #[vr s_, vi 0, vi 4, vr b2, vi 2, u_] [(ii 2)] t
   refine XS.iloadN X9.here hx rfl (hb hby d9_16) rfl ?_
   show S_ p e below T9 m 17 #[vr s_, vi 0, vi 4, vr b2, vi 2, u_] [(ii 4), (ii 2)] t
   refine XS.icmpNo X9.here hx rfl (hb hby d9_17) rfl rfl ?_
   show S_ p e below T9 m 20 #[vr s_, vi 0, vi 4, vr b2, vi 2, u_] [] t
   refine XS.aloadN X9.here hx rfl (hb hby d9_20) rfl rfl ?_
   show S_ p e below T9 m 21 #[vr s_, vi 0, vi 4, vr b2, vi 2, u_] [(rr s_)] t
   refine XS.iloadN X9.here hx rfl (hb hby d9_21) rfl ?_
   show S_ p e below T9 m 22 #[vr s_, vi 0, vi 4, vr b2, vi 2, u_] [(ii 0), (rr s_)] t
   refine XS.iloadN X9.here hx rfl (hb hby d9_22) rfl ?_
   exact k
  obtain ⟨_, T69, L69, X69, hQ69, c69⟩ := kstat X9 hx hZ hown (w71 hw) (w72 hw) (w41 hw) (w73 hw) (rm_tob_4 l Z a0 hw [] s_ ks_ c0_ c1_ c2_ c3_ T9.heap n0 o66 ((A0_.ext E2).keep K64 (ninS q7 nin0)) ZS1_ ZS2_ ZS3_) rfl c68 hml pd_pACIIrAB [(rr s_), (ii 0), (ii 4)] [] 0 (hb hby d9_23) rfl rfl rfl rfl rfl rfl
  obtain ⟨b70, k71, rfl, N72q, K73, p74, p75, p76⟩ := hQ69
  have N72 := Fr.app N63 N72q
  have o77 := o66.keep K73 all0
  have kp78 := kp67.trans K73 all0
  have z79 := Nat.le_trans kp67.1 p76
  have g80 := Nat.le_trans (Nat.le_trans (Nat.le_of_eq o66.1.symm) o66.2.1) p76
  have c81 : Kt p e below T69 st0 (mkF m 32 #[vr s_, vi 0, vi 4, vr b2, vi 2, vr b70] [(ii 2), (rr b70)]) := fun t k => by
   refine c69 t ?_
   show S_ p e below T69 m 26 #[vr s_, vi 0, vi 4, vr b2, vi 2, u_] [(rr b70)] t
   refine XS.astore X69.here hx rfl (hb hby d9_26) rfl rfl (l' := #[vr s_, vi 0, vi 4, vr b2, vi 2, vr b70]) rfl ?_
   show S_ p e below T69 m 28 #[vr s_, vi 0, vi 4, vr b2, vi 2, vr b70] [] t
   refine XS.aload X69.here hx rfl (hb hby d9_28) rfl rfl ?_
   show S_ p e below T69 m 30 #[vr s_, vi 0, vi 4, vr b2, vi 2, vr b70] [(rr b70)] t
   refine XS.iload X69.here hx rfl (hb hby d9_30) rfl ?_
   exact k
  obtain ⟨_, T82, L82, X82, hQ82, c82⟩ := kstat X69 hx hZ hown (w87 hw) (w88 hw) (w41 hw) (w89 hw) (rm_getc l Z a0 hw [] b70 k71 (8 : Int32) [(.int (nar .byte ((c0_ >>> ((0 : Int32) &&& 31)).toInt8.toInt32))), (.int (nar .byte ((c0_ >>> ((8 : Int32) &&& 31)).toInt8.toInt32))), (.int (nar .byte ((c1_ >>> ((0 : Int32) &&& 31)).toInt8.toInt32))), (.int (nar .byte ((c1_ >>> ((8 : Int32) &&& 31)).toInt8.toInt32))), (.int (nar .byte ((c2_ >>> ((0 : Int32) &&& 31)).toInt8.toInt32))), (.int (nar .byte ((c2_ >>> ((8 : Int32) &&& 31)).toInt8.toInt32))), (.int (nar .byte ((c3_ >>> ((0 : Int32) &&& 31)).toInt8.toInt32))), (.int (nar .byte ((c3_ >>> ((8 : Int32) &&& 31)).toInt8.toInt32)))] (2 : Int32) ((nar .byte ((c2_ >>> ((0 : Int32) &&& 31)).toInt8.toInt32))) ((nar .byte ((c2_ >>> ((8 : Int32) &&& 31)).toInt8.toInt32))) c2_ T69.heap n0 o77 p74 ZS1_ ZS2_ ZS3_ (by decide) (by decide) (by decide) (by decide) rfl rfl (own_get16 hc2_)) rfl c81 hml pd_pABIrC [(rr b70), (ii 2)] [] 0 (hb hby d9_32) rfl rfl rfl rfl rfl rfl
  obtain ⟨rfl, N83q, K84⟩ := hQ82
  have N83 := Fr.app N72 N83q
  obtain ⟨fs, hr, hrun, hended, hW, hsame⟩ := X82.leave (v := some (rr b70)) (fun h => by rw [Bd.returns] at h; cases h)
  refine ⟨_, _, c82 _ ?_, hrun, hended, _, _, rfl, ?_, ⟨_, rfl⟩, hW, hsame.mono (by decide) (by decide)⟩
  ·show S_ p e below T82 m 35 #[vr s_, vi 0, vi 4, vr b2, vi 2, vr b70] [(.int c2_)] _
   refine XS.sipush X82.here hx rfl (hb hby d9_35) ?_
   show S_ p e below T82 m 38 #[vr s_, vi 0, vi 4, vr b2, vi 2, vr b70] [(ii 255), (.int c2_)] _
   refine yC X82.here hx rfl 38 54 rfl (hb hby d9_38) rfl (tlt p65).2.2.1 ?_
   show S_ p e below T82 m 54 #[vr s_, vi 0, vi 4, vr b2, vi 2, vr b70] [] _
   refine XS.aload X82.here hx rfl (hb hby d9_54) rfl rfl ?_
   show S_ p e below T82 m 56 #[vr s_, vi 0, vi 4, vr b2, vi 2, vr b70] [(rr b70)] _
   exact retOut X82 hx Bd.returns rfl (Or.inr (Or.inr (Or.inr (Or.inr ⟨rfl, rfl, rfl⟩)))) (hb hby d9_56) hr
  ·show Q_cmp3a_4 Z s_ ks_ c0_ c1_ c2_ c3_ h0 n0 _ T82.heap _
   rw [K84]
   exact (Or.inr (⟨b70, k71, rfl, N83, kp78, p74, g80, z79⟩))
 ·obtain ⟨rfl, N85q, K86, p87⟩ := hQ9
  have N85 := Fr.app N0 N85q
  have o88 := o3.keep K86 (allS g2 all0)
  have kp89 := kp5.trans K86 (allS (Or.inr z6) all0)
  have c90 : Kt p e below T9 st0 (mkF m 23 #[vr s_, vi 0, vi 4, vr b2, vi 3, u_] [(ii 4), (ii 0), (rr s_)]) := fun t k => by
   refine c9 t ?_
   show S_ p e below T9 m 12 #[vr s_, vi 0, vi 4, vr b2, u_, u_] [(ii 3)] t
   refine XS.istore X9.here hx rfl (hb hby d9_12) rfl (l' := #[vr s_, vi 0, vi 4, vr b2, vi 3, u_]) rfl ?_
   show S_ p e below T9 m 14 #[vr s_, vi 0, vi 4, vr b2, vi 3, u_] [] t
   refine XS.iload X9.here hx rfl (hb hby d9_14) rfl ?_
   show S_ p e below T9 m 16 #[vr s_, vi 0, vi 4, vr b2, vi 3, u_] [(ii 3)] t
   refine XS.iloadN X9.here hx rfl (hb hby d9_16) rfl ?_
   show S_ p e below T9 m 17 #[vr s_, vi 0, vi 4, vr b2, vi 3, u_] [(ii 4), (ii 3)] t
   refine XS.icmpNo X9.here hx rfl (hb hby d9_17) rfl rfl ?_
   show S_ p e below T9 m 20 #[vr s_, vi 0, vi 4, vr b2, vi 3, u_] [] t
   refine XS.aloadN X9.here hx rfl (hb hby d9_20) rfl rfl ?_
   show S_ p e below T9 m 21 #[vr s_, vi 0, vi 4, vr b2, vi 3, u_] [(rr s_)] t
   refine XS.iloadN X9.here hx rfl (hb hby d9_21) rfl ?_
   show S_ p e below T9 m 22 #[vr s_, vi 0, vi 4, vr b2, vi 3, u_] [(ii 0), (rr s_)] t
   refine XS.iloadN X9.here hx rfl (hb hby d9_22) rfl ?_
   exact k
  obtain ⟨_, T91, L91, X91, hQ91, c91⟩ := kstat X9 hx hZ hown (w71 hw) (w72 hw) (w41 hw) (w73 hw) (rm_tob_4 l Z a0 hw [] s_ ks_ c0_ c1_ c2_ c3_ T9.heap n0 o88 ((A0_.ext E2).keep K86 (ninS q7 nin0)) ZS1_ ZS2_ ZS3_) rfl c90 hml pd_pACIIrAB [(rr s_), (ii 0), (ii 4)] [] 0 (hb hby d9_23) rfl rfl rfl rfl rfl rfl
  obtain ⟨b92, k93, rfl, N94q, K95, p96, p97, p98⟩ := hQ91
  have N94 := Fr.app N85 N94q
  have o99 := o88.keep K95 all0
  have kp100 := kp89.trans K95 all0
  have z101 := Nat.le_trans kp89.1 p98
  have g102 := Nat.le_trans (Nat.le_trans (Nat.le_of_eq o88.1.symm) o88.2.1) p98
  have c103 : Kt p e below T91 st0 (mkF m 32 #[vr s_, vi 0, vi 4, vr b2, vi 3, vr b92] [(ii 3), (rr b92)]) := fun t k => by
   refine c91 t ?_
   show S_ p e below T91 m 26 #[vr s_, vi 0, vi 4, vr b2, vi 3, u_] [(rr b92)] t
   refine XS.astore X91.here hx rfl (hb hby d9_26) rfl rfl (l' := #[vr s_, vi 0, vi 4, vr b2, vi 3, vr b92]) rfl ?_
   show S_ p e below T91 m 28 #[vr s_, vi 0, vi 4, vr b2, vi 3, vr b92] [] t
   refine XS.aload X91.here hx rfl (hb hby d9_28) rfl rfl ?_
   show S_ p e below T91 m 30 #[vr s_, vi 0, vi 4, vr b2, vi 3, vr b92] [(rr b92)] t
   refine XS.iload X91.here hx rfl (hb hby d9_30) rfl ?_
   exact k
  obtain ⟨_, T104, L104, X104, hQ104, c104⟩ := kstat X91 hx hZ hown (w87 hw) (w88 hw) (w41 hw) (w89 hw) (rm_getc l Z a0 hw [] b92 k93 (8 : Int32) [(.int (nar .byte ((c0_ >>> ((0 : Int32) &&& 31)).toInt8.toInt32))), (.int (nar .byte ((c0_ >>> ((8 : Int32) &&& 31)).toInt8.toInt32))), (.int (nar .byte ((c1_ >>> ((0 : Int32) &&& 31)).toInt8.toInt32))), (.int (nar .byte ((c1_ >>> ((8 : Int32) &&& 31)).toInt8.toInt32))), (.int (nar .byte ((c2_ >>> ((0 : Int32) &&& 31)).toInt8.toInt32))), (.int (nar .byte ((c2_ >>> ((8 : Int32) &&& 31)).toInt8.toInt32))), (.int (nar .byte ((c3_ >>> ((0 : Int32) &&& 31)).toInt8.toInt32))), (.int (nar .byte ((c3_ >>> ((8 : Int32) &&& 31)).toInt8.toInt32)))] (3 : Int32) ((nar .byte ((c3_ >>> ((0 : Int32) &&& 31)).toInt8.toInt32))) ((nar .byte ((c3_ >>> ((8 : Int32) &&& 31)).toInt8.toInt32))) c3_ T91.heap n0 o99 p96 ZS1_ ZS2_ ZS3_ (by decide) (by decide) (by decide) (by decide) rfl rfl (own_get16 hc3_)) rfl c103 hml pd_pABIrC [(rr b92), (ii 3)] [] 0 (hb hby d9_32) rfl rfl rfl rfl rfl rfl
  obtain ⟨rfl, N105q, K106⟩ := hQ104
  have N105 := Fr.app N94 N105q
  obtain ⟨fs, hr, hrun, hended, hW, hsame⟩ := X104.leave (v := some (rr b92)) (fun h => by rw [Bd.returns] at h; cases h)
  refine ⟨_, _, c104 _ ?_, hrun, hended, _, _, rfl, ?_, ⟨_, rfl⟩, hW, hsame.mono (by decide) (by decide)⟩
  ·show S_ p e below T104 m 35 #[vr s_, vi 0, vi 4, vr b2, vi 3, vr b92] [(.int c3_)] _
   refine XS.sipush X104.here hx rfl (hb hby d9_35) ?_
   show S_ p e below T104 m 38 #[vr s_, vi 0, vi 4, vr b2, vi 3, vr b92] [(ii 255), (.int c3_)] _
   refine yC X104.here hx rfl 38 54 rfl (hb hby d9_38) rfl (tlt p87).2.2.1 ?_
   show S_ p e below T104 m 54 #[vr s_, vi 0, vi 4, vr b2, vi 3, vr b92] [] _
   refine XS.aload X104.here hx rfl (hb hby d9_54) rfl rfl ?_
   show S_ p e below T104 m 56 #[vr s_, vi 0, vi 4, vr b2, vi 3, vr b92] [(rr b92)] _
   exact retOut X104 hx Bd.returns rfl (Or.inr (Or.inr (Or.inr (Or.inr ⟨rfl, rfl, rfl⟩)))) (hb hby d9_56) hr
  ·show Q_cmp3a_4 Z s_ ks_ c0_ c1_ c2_ c3_ h0 n0 _ T104.heap _
   rw [K106]
   exact (Or.inr (⟨b92, k93, rfl, N105, kp100, p96, g102, z101⟩))
theorem ef_codl_4 (m : MethodId) (s_ : Addr) : entryFrame m #[(rr s_), (ii 4)] 2 = mkF m 0 #[vr s_, vi 4] [] := by first | (simp [entryFrame, mkF, argsToLocals, Value.category]; done) | rfl
def Q_codl_4 (Z : State) (s_ : Addr) (ks_ : ClassId) (vs_ : List Value) (h0 : Heap) (n0 : Nat) (v : Option Value) (h : Heap) (L : List Loc) : Prop := v = some (ii 0) ∧ Fr n0 L ∧ h = h0
set_option maxRecDepth 65536 in
set_option maxHeartbeats 40000000 in
theorem rm_codl_4 (l : Launch) (Z : State) (a0 : Array Value) (hw : HW Z a0) (ws : List Jvm.Cond) (s_ : Addr) (ks_ : ClassId) (vs_ : List Value) (h0 : Heap) (n0 : Nat) (O0 : Old Z n0 h0) (A0_ : Arv Z h0 s_ ks_ .byte (4 : Int32) vs_ (ii 0)) :
  MFP l Z (⟨nm1, "coderFromArrayLen", "([BI)B"⟩ : MethodName) jdk_52_method_15_code 2 (some .byte) ({ frames := 0, cells := 0, slots := 0, locals := 0 } : Room) ws #[(rr s_), (ii 4)] h0 (Q_codl_4 Z s_ ks_ vs_ h0 n0) := by
 refine MetFree.of_bodySF (plainFor_of_name pn_java_lang_StringUTF16) hisR ?_
 intro p e s m args below meth c s₁ Bd hml0 hP hK
 obtain ⟨rfl, hZ, hh⟩ := hP
 have hx := Bd.exec
 have hby := Bd.bytes
 have hml : c.maxLocals = 2 := hml0
 have hown : s.vm.findClass nm1 = some m.cls := findClass_of_methodNamed Bd.named
 have hnm := (name_of_methodNamed Bd.named Bd.method).1
 have X0 : Stand p l e ({ frames := 0, cells := 0, slots := 0, locals := 0 } : Room) s m #[(rr s_), (ii 4)] below meth c s₁ [] 0 0 := Stand.of_body Bd
 have e0 : s₁.heap = h0 := by rw [← hh, Bd.state]; rfl
 have N0 := Fr.nil n0
 have kp0 : Keep h0 h0 [] := Keep.refl _ _
 have c0 : ∀ t, S_ p e below s₁ m 0 #[vr s_, vi 4] [] t → Steps p.tables e below (s₁.setTop (entryFrame m #[(rr s_), (ii 4)] 2)) t := fun t k => castTop (ef_codl_4 m s_) k
 generalize s₁.setTop (entryFrame m #[(rr s_), (ii 4)] 2) = st0 at c0 ⊢
 replace c0 : Kt p e below s₁ st0 (mkF m 0 #[vr s_, vi 4] []) := c0
 obtain ⟨fs, hr, hrun, hended, hW, hsame⟩ := X0.leave (v := some (ii 0)) (fun h => by rw [Bd.returns] at h; cases h)
 refine ⟨_, _, c0 _ ?_, hrun, hended, _, _, rfl, ?_, ⟨_, rfl⟩, hW, hsame.mono (by decide) (by decide)⟩
 ·show S_ p e below s₁ m 0 #[vr s_, vi 4] [] _
  refine XS.iloadN X0.here hx rfl (hb hby d10_0) rfl ?_
  show S_ p e below s₁ m 1 #[vr s_, vi 4] [(ii 4)] _
  refine XS.aloadN X0.here hx rfl (hb hby d10_1) rfl rfl ?_
  show S_ p e below s₁ m 2 #[vr s_, vi 4] [(rr s_), (ii 4)] _
  refine ldLen X0 hx hZ e0 A0_ rfl rfl (hb hby d10_2) ?_
  show S_ p e below s₁ m 3 #[vr s_, vi 4] [(ii 4), (ii 4)] _
  refine XS.isub X0.here hx rfl (hb hby d10_3) rfl ?_
  show S_ p e below s₁ m 4 #[vr s_, vi 4] [(ii 0)] _
  refine XS.bipush X0.here hx rfl (hb hby d10_4) ?_
  show S_ p e below s₁ m 6 #[vr s_, vi 4] [(ii 31), (ii 0)] _
  refine XS.iushr X0.here hx rfl (hb hby d10_6) rfl ?_
  show S_ p e below s₁ m 7 #[vr s_, vi 4] [(ii 0)] _
  refine XS.i2b X0.here hx rfl (hb hby d10_7) rfl ?_
  show S_ p e below s₁ m 8 #[vr s_, vi 4] [(ii 0)] _
  exact retN X0 hx (t := .byte) Bd.returns (by simp) (hb hby d10_8) hr
 ·show Q_codl_4 Z s_ ks_ vs_ h0 n0 _ s₁.heap _
  rw [e0]
  exact ⟨rfl, N0, rfl⟩
theorem ef_codu_4 (m : MethodId) (s_ : Addr) : entryFrame m #[(rr s_), (ii 4)] 2 = mkF m 0 #[vr s_, vi 4] [] := by first | (simp [entryFrame, mkF, argsToLocals, Value.category]; done) | rfl
def Q_codu_4 (Z : State) (s_ : Addr) (ks_ : ClassId) (vs_ : List Value) (h0 : Heap) (n0 : Nat) (v : Option Value) (h : Heap) (L : List Loc) : Prop := v = some (ii 1) ∧ Fr n0 L ∧ h = h0
set_option maxRecDepth 65536 in
set_option maxHeartbeats 40000000 in
theorem rm_codu_4 (l : Launch) (Z : State) (a0 : Array Value) (hw : HW Z a0) (ws : List Jvm.Cond) (s_ : Addr) (ks_ : ClassId) (vs_ : List Value) (h0 : Heap) (n0 : Nat) (O0 : Old Z n0 h0) (A0_ : Arv Z h0 s_ ks_ .byte (8 : Int32) vs_ (ii 0)) :
  MFP l Z (⟨nm1, "coderFromArrayLen", "([BI)B"⟩ : MethodName) jdk_52_method_15_code 2 (some .byte) ({ frames := 0, cells := 0, slots := 0, locals := 0 } : Room) ws #[(rr s_), (ii 4)] h0 (Q_codu_4 Z s_ ks_ vs_ h0 n0) := by
 refine MetFree.of_bodySF (plainFor_of_name pn_java_lang_StringUTF16) hisR ?_
 intro p e s m args below meth c s₁ Bd hml0 hP hK
 obtain ⟨rfl, hZ, hh⟩ := hP
 have hx := Bd.exec
 have hby := Bd.bytes
 have hml : c.maxLocals = 2 := hml0
 have hown : s.vm.findClass nm1 = some m.cls := findClass_of_methodNamed Bd.named
 have hnm := (name_of_methodNamed Bd.named Bd.method).1
 have X0 : Stand p l e ({ frames := 0, cells := 0, slots := 0, locals := 0 } : Room) s m #[(rr s_), (ii 4)] below meth c s₁ [] 0 0 := Stand.of_body Bd
 have e0 : s₁.heap = h0 := by rw [← hh, Bd.state]; rfl
 have N0 := Fr.nil n0
 have kp0 : Keep h0 h0 [] := Keep.refl _ _
 have c0 : ∀ t, S_ p e below s₁ m 0 #[vr s_, vi 4] [] t → Steps p.tables e below (s₁.setTop (entryFrame m #[(rr s_), (ii 4)] 2)) t := fun t k => castTop (ef_codu_4 m s_) k
 generalize s₁.setTop (entryFrame m #[(rr s_), (ii 4)] 2) = st0 at c0 ⊢
 replace c0 : Kt p e below s₁ st0 (mkF m 0 #[vr s_, vi 4] []) := c0
 obtain ⟨fs, hr, hrun, hended, hW, hsame⟩ := X0.leave (v := some (ii 1)) (fun h => by rw [Bd.returns] at h; cases h)
 refine ⟨_, _, c0 _ ?_, hrun, hended, _, _, rfl, ?_, ⟨_, rfl⟩, hW, hsame.mono (by decide) (by decide)⟩
 ·show S_ p e below s₁ m 0 #[vr s_, vi 4] [] _
  refine XS.iloadN X0.here hx rfl (hb hby d10_0) rfl ?_
  show S_ p e below s₁ m 1 #[vr s_, vi 4] [(ii 4)] _
  refine XS.aloadN X0.here hx rfl (hb hby d10_1) rfl rfl ?_
  show S_ p e below s₁ m 2 #[vr s_, vi 4] [(rr s_), (ii 4)] _
  refine ldLen X0 hx hZ e0 A0_ rfl rfl (hb hby d10_2) ?_
  show S_ p e below s₁ m 3 #[vr s_, vi 4] [(ii 8), (ii 4)] _
  refine XS.isub X0.here hx rfl (hb hby d10_3) rfl ?_
  show S_ p e below s₁ m 4 #[vr s_, vi 4] [(ii (-4))] _
  refine XS.bipush X0.here hx rfl (hb hby d10_4) ?_
  show S_ p e below s₁ m 6 #[vr s_, vi 4] [(ii 31), (ii (-4))] _
  refine XS.iushr X0.here hx rfl (hb hby d10_6) rfl ?_
  show S_ p e below s₁ m 7 #[vr s_, vi 4] [(ii 1)] _
  refine XS.i2b X0.here hx rfl (hb hby d10_7) rfl ?_
  show S_ p e below s₁ m 8 #[vr s_, vi 4] [(ii 1)] _
  exact retN X0 hx (t := .byte) Bd.returns (by simp) (hb hby d10_8) hr
 ·show Q_codu_4 Z s_ ks_ vs_ h0 n0 _ s₁.heap _
  rw [e0]
  exact ⟨rfl, N0, rfl⟩
theorem ef_str4a_4 (m : MethodId) (x_ : Addr) (s_ : Addr) : entryFrame m #[(rr x_), (rr s_), (ii 0), (ii 4), .null] 6 = mkF m 0 #[vr x_, vr s_, vi 0, vi 4, .val .null, u_] [] := by first | (simp [entryFrame, mkF, argsToLocals, Value.category]; done) | rfl
def Q_str4a_4 (Z : State) (x_ : Addr) (s_ : Addr) (ks_ : ClassId) (z_ : Int32) (c0_ : Int32) (c1_ : Int32) (c2_ : Int32) (c3_ : Int32) (h0 : Heap) (n0 : Nat) (v : Option Value) (h : Heap) (L : List Loc) : Prop := (v = none ∧ Fr n0 L ∧ Keep h0 h [x_] ∧ Exa Z h x_ nm0 ∧ Fld Z h x_ nm0 "coder" "B" (ii 0) ∧ ∃ (b_ : Addr), ∃ (kb_ : ClassId), Fld Z h x_ nm0 "value" "[B" (rr b_) ∧ Arv Z h b_ kb_ .byte (4 : Int32) [(.int (nar .byte (c0_.toInt8.toInt32))), (.int (nar .byte (c1_.toInt8.toInt32))), (.int (nar .byte (c2_.toInt8.toInt32))), (.int (nar .byte (c3_.toInt8.toInt32)))] (ii 0) ∧ n0 ≤ b_ ∧ h0.size ≤ b_ ∧ ¬ ((255 : Int32) < c0_) ∧ ¬ ((255 : Int32) < c1_) ∧ ¬ ((255 : Int32) < c2_) ∧ ¬ ((255 : Int32) < c3_)) ∨ (v = none ∧ Fr n0 L ∧ Keep h0 h [x_] ∧ Exa Z h x_ nm0 ∧ Fld Z h x_ nm0 "coder" "B" (ii 1) ∧ ∃ (b_ : Addr), ∃ (kb_ : ClassId), Fld Z h x_ nm0 "value" "[B" (rr b_) ∧ Arv Z h b_ kb_ .byte (8 : Int32) [(.int (nar .byte ((c0_ >>> ((0 : Int32) &&& 31)).toInt8.toInt32))), (.int (nar .byte ((c0_ >>> ((8 : Int32) &&& 31)).toInt8.toInt32))), (.int (nar .byte ((c1_ >>> ((0 : Int32) &&& 31)).toInt8.toInt32))), (.int (nar .byte ((c1_ >>> ((8 : Int32) &&& 31)).toInt8.toInt32))), (.int (nar .byte ((c2_ >>> ((0 : Int32) &&& 31)).toInt8.toInt32))), (.int (nar .byte ((c2_ >>> ((8 : Int32) &&& 31)).toInt8.toInt32))), (.int (nar .byte ((c3_ >>> ((0 : Int32) &&& 31)).toInt8.toInt32))), (.int (nar .byte ((c3_ >>> ((8 : Int32) &&& 31)).toInt8.toInt32)))] (ii 0) ∧ n0 ≤ b_ ∧ h0.size ≤ b_)
set_option maxRecDepth 65536 in
set_option maxHeartbeats 40000000 in
theorem rm_str4a_4 (l : Launch) (Z : State) (a0 : Array Value) (hw : HW Z a0) (ws : List Jvm.Cond) (x_ : Addr) (s_ : Addr) (ks_ : ClassId) (z_ : Int32) (c0_ : Int32) (c1_ : Int32) (c2_ : Int32) (c3_ : Int32) (h0 : Heap) (n0 : Nat) (O0 : Old Z n0 h0) (E0_ : Exa Z h0 x_ nm0) (F1_ : Fld Z h0 x_ nm0 "value" "[B" .null) (F2_ : Fld Z h0 x_ nm0 "coder" "B" (ii 0)) (G3_ : n0 ≤ x_) (A4_ : Arv Z h0 s_ ks_ .char (4 : Int32) [(.int c0_), (.int c1_), (.int c2_), (.int c3_)] (ii 0)) (ZS5_ : Sta Z Z.heap nm0 "COMPACT_STRINGS" "Z" (.int z_)) (hz_ : ¬ (z_ = (0 : Int32))) (ZS7_ : Sta Z Z.heap nm1 "$assertionsDisabled" "Z" (ii 1)) (ZS8_ : Sta Z Z.heap nm1 "HI_BYTE_SHIFT" "I" (ii 0)) (ZS9_ : Sta Z Z.heap nm1 "LO_BYTE_SHIFT" "I" (ii 8)) (hc0_ : nar .char c0_ = c0_) (hc1_ : nar .char c1_ = c1_) (hc2_ : nar .char c2_ = c2_) (hc3_ : nar .char c3_ = c3_) :
  MFP l Z (⟨nm0, "<init>", "([CIILjava/lang/Void;)V"⟩ : MethodName) jdk_42_method_149_code 6 none ({ frames := 4, cells := 2, slots := 12, locals := 57 } : Room) ws #[(rr x_), (rr s_), (ii 0), (ii 4), .null] h0 (Q_str4a_4 Z x_ s_ ks_ z_ c0_ c1_ c2_ c3_ h0 n0) := by
 refine MetFree.of_bodySF (plainFor_of_name pn_java_lang_String) hisR ?_
 intro p e s m args below meth c s₁ Bd hml0 hP hK
 obtain ⟨rfl, hZ, hh⟩ := hP
 have hx := Bd.exec
 have hby := Bd.bytes
 have hml : c.maxLocals = 6 := hml0
 have hown : s.vm.findClass nm0 = some m.cls := findClass_of_methodNamed Bd.named
 have hnm := (name_of_methodNamed Bd.named Bd.method).1
 have X0 : Stand p l e ({ frames := 4, cells := 2, slots := 12, locals := 57 } : Room) s m #[(rr x_), (rr s_), (ii 0), (ii 4), .null] below meth c s₁ [] 0 0 := Stand.of_body Bd
 have e0 : s₁.heap = h0 := by rw [← hh, Bd.state]; rfl
 have N0 := Fr.nil n0
 have kp0 : Keep h0 h0 [x_] := Keep.refl _ _
 have c0 : ∀ t, S_ p e below s₁ m 0 #[vr x_, vr s_, vi 0, vi 4, .val .null, u_] [] t → Steps p.tables e below (s₁.setTop (entryFrame m #[(rr x_), (rr s_), (ii 0), (ii 4), .null] 6)) t := fun t k => castTop (ef_str4a_4 m x_ s_) k
 generalize s₁.setTop (entryFrame m #[(rr x_), (rr s_), (ii 0), (ii 4), .null] 6) = st0 at c0 ⊢
 replace c0 : Kt p e below s₁ st0 (mkF m 0 #[vr x_, vr s_, vi 0, vi 4, .val .null, u_] []) := c0
 have c1 : Kt p e below s₁ st0 (mkF m 1 #[vr x_, vr s_, vi 0, vi 4, .val .null, u_] [(rr x_)]) := fun t k => by
  refine c0 t ?_
  show S_ p e below s₁ m 0 #[vr x_, vr s_, vi 0, vi 4, .val .null, u_] [] t
  refine XS.aloadN X0.here hx rfl (hb hby d11_0) rfl rfl ?_
  exact k
 obtain ⟨T2, X2, e2, c2⟩ := kinit X0 hx hZ hown (w13 hw) (w14 hw) (w15 hw) e0 c1 rfl hml rfl rfl (hb hby d11_1) 0 (own_w rfl) (by decide) (by decide)
 have c3 : Kt p e below T2 st0 (mkF m 27 #[vr x_, vr s_, vi 0, vi 4, .val .null, u_] []) := fun t k => by
  refine c2 t ?_
  show S_ p e below T2 m 4 #[vr x_, vr s_, vi 0, vi 4, .val .null, u_] [] t
  refine XS.iloadN X2.here hx rfl (hb hby d11_4) rfl ?_
  show S_ p e below T2 m 5 #[vr x_, vr s_, vi 0, vi 4, .val .null, u_] [(ii 4)] t
  refine yI X2.here hx rfl 5 27 rfl (hb hby d11_5) rfl rfl ?_
  exact k
 obtain ⟨T4, X4, e4, c4⟩ := kgetS X2 hx hZ hown (host := "") (Or.inl (w38 hw)) Via.refl e2 (ZS5_.ext O0.2) c3 rfl (hb hby d11_27)
 have c5 : Kt p e below T4 st0 (mkF m 36 #[vr x_, vr s_, vi 0, vi 4, .val .null, u_] [(ii 4), (ii 0), (rr s_)]) := fun t k => by
  refine c4 t ?_
  show S_ p e below T4 m 30 #[vr x_, vr s_, vi 0, vi 4, .val .null, u_] [(.int z_)] t
  refine XS.ifNo X4.here hx rfl (hb hby d11_30) rfl ((if0 _ _).trans (feq hz_).1) ?_
  show S_ p e below T4 m 33 #[vr x_, vr s_, vi 0, vi 4, .val .null, u_] [] t
  refine XS.aloadN X4.here hx rfl (hb hby d11_33) rfl rfl ?_
  show S_ p e below T4 m 34 #[vr x_, vr s_, vi 0, vi 4, .val .null, u_] [(rr s_)] t
  refine XS.iloadN X4.here hx rfl (hb hby d11_34) rfl ?_
  show S_ p e below T4 m 35 #[vr x_, vr s_, vi 0, vi 4, .val .null, u_] [(ii 0), (rr s_)] t
  refine XS.iloadN X4.here hx rfl (hb hby d11_35) rfl ?_
  exact k
 obtain ⟨_, T6, L6, X6, hQ6, c6⟩ := kstat X4 hx hZ hown (w39 hw) (w40 hw) (w41 hw) (w42 hw) (rm_cmp3a_4 l Z a0 hw [] s_ ks_ c0_ c1_ c2_ c3_ h0 n0 O0 A4_ ZS7_ ZS8_ ZS9_ hc0_ hc1_ hc2_ hc3_) e4 c5 hml pd_pACIIrAB [(rr s_), (ii 0), (ii 4)] [] 0 (hb hby d11_36) rfl rfl rfl rfl rfl rfl
 rcases hQ6 with hQ6 | hQ6
 ·obtain ⟨b7, k8, rfl, N9q, K10, p11, p12, p13, p14, p15, p16, p17⟩ := hQ6
  have N9 := Fr.app N0 N9q
  have o18 := O0.keep K10 all0
  have kp19 := kp0.trans K10 all0
  have z20 := Nat.le_trans kp0.1 p13
  have g21 := Nat.le_trans (Nat.le_trans (Nat.le_of_eq O0.1.symm) O0.2.1) p13
  have c22 : Kt p e below T6 st0 (mkF m 45 #[vr x_, vr s_, vi 0, vi 4, .val .null, vr b7] [(ii 4), (rr b7), (rr x_)]) := fun t k => by
   refine c6 t ?_
   show S_ p e below T6 m 39 #[vr x_, vr s_, vi 0, vi 4, .val .null, u_] [(rr b7)] t
   refine XS.astore X6.here hx rfl (hb hby d11_39) rfl rfl (l' := #[vr x_, vr s_, vi 0, vi 4, .val .null, vr b7]) rfl ?_
   show S_ p e below T6 m 41 #[vr x_, vr s_, vi 0, vi 4, .val .null, vr b7] [] t
   refine XS.aloadN X6.here hx rfl (hb hby d11_41) rfl rfl ?_
   show S_ p e below T6 m 42 #[vr x_, vr s_, vi 0, vi 4, .val .null, vr b7] [(rr x_)] t
   refine XS.aload X6.here hx rfl (hb hby d11_42) rfl rfl ?_
   show S_ p e below T6 m 44 #[vr x_, vr s_, vi 0, vi 4, .val .null, vr b7] [(rr b7), (rr x_)] t
   refine XS.iloadN X6.here hx rfl (hb hby d11_44) rfl ?_
   exact k
  obtain ⟨_, T23, L23, X23, hQ23, c23⟩ := kstat X6 hx hZ hown (w46 hw) (w47 hw) (w41 hw) (w48 hw) (rm_codl_4 l Z a0 hw [] b7 k8 [(.int (nar .byte (c0_.toInt8.toInt32))), (.int (nar .byte (c1_.toInt8.toInt32))), (.int (nar .byte (c2_.toInt8.toInt32))), (.int (nar .byte (c3_.toInt8.toInt32)))] T6.heap n0 o18 p11) rfl c22 hml pd_pABIrB [(rr b7), (ii 4)] [(rr x_)] 1 (hb hby d11_45) rfl rfl rfl rfl rfl rfl
  obtain ⟨rfl, N24q, K25⟩ := hQ23
  have N24 := Fr.app N9 N24q
  obtain ⟨T26, h26, X26, e26, W26, f27, o29, N28, c26⟩ := kput X23 hx hZ .byte hown (host := "") (Or.inl (w23 hw)) Via.refl K25 (F2_.keep K10 nin0) (E0_.keep K10) (Or.inr ⟨(w19 hw), rfl, hnm⟩) (w4 hw) c23 rfl rfl (hb hby d11_48) (by decide) rfl rfl o18 N24 G3_
  have kp30 := kp19.wr W26 (Or.inl (List.mem_of_getElem? (i := 0) rfl))
  have f31 := (F1_.keep K10 nin0).other W26 (Or.inr (slot_ne (Or.inr (w18 hw)) (Or.inr (w19 hw)) (by decide) (t := (.array .byte)) (t' := .byte) (by decide) (by decide)))
  have c32 : Kt p e below T26 st0 (mkF m 54 #[vr x_, vr s_, vi 0, vi 4, .val .null, vr b7] [(rr b7), (rr x_)]) := fun t k => by
   refine c26 t ?_
   show S_ p e below T26 m 51 #[vr x_, vr s_, vi 0, vi 4, .val .null, vr b7] [] t
   refine XS.aloadN X26.here hx rfl (hb hby d11_51) rfl rfl ?_
   show S_ p e below T26 m 52 #[vr x_, vr s_, vi 0, vi 4, .val .null, vr b7] [(rr x_)] t
   refine XS.aload X26.here hx rfl (hb hby d11_52) rfl rfl ?_
   exact k
  obtain ⟨T33, h33, X33, e33, W33, f34, o36, N35, c33⟩ := kput X26 hx hZ (.array .byte) hown (host := "") (Or.inl (w22 hw)) Via.refl e26 f31 ((E0_.keep K10).wr W26) (Or.inr ⟨(w18 hw), rfl, hnm⟩) (w4 hw) c32 rfl rfl (hb hby d11_54) (by decide) rfl rfl o29 N28 G3_
  have kp37 := kp30.wr W33 (Or.inl (List.mem_of_getElem? (i := 0) rfl))
  have f38 := f27.other W33 (Or.inr (slot_ne (Or.inr (w19 hw)) (Or.inr (w18 hw)) (by decide) (t := .byte) (t' := (.array .byte)) (by decide) (by decide)))
  have q39 := Ne.symm (Nat.ne_of_lt (Nat.lt_of_lt_of_le E0_.lt p13))
  obtain ⟨fs, hr, hrun, hended, hW, hsame⟩ := X33.leave (v := none) (fun _ => rfl)
  refine ⟨_, _, c33 _ ?_, hrun, hended, _, _, rfl, ?_, ⟨_, rfl⟩, hW, hsame.mono (by decide) (by decide)⟩
  ·show S_ p e below T33 m 57 #[vr x_, vr s_, vi 0, vi 4, .val .null, vr b7] [] _
   exact X33.returnOut hx Bd.returns (hb hby d11_57) hr
  ·show Q_str4a_4 Z x_ s_ ks_ z_ c0_ c1_ c2_ c3_ h0 n0 _ T33.heap _
   rw [e33]
   exact (Or.inl ⟨rfl, N35, kp37, (((E0_.keep K10).wr W26).wr W33), f38, b7, k8, f34, ((p11.other W26 q39).other W33 q39), g21, z20, p14, p15, p16, p17⟩)
 ·obtain ⟨b40, k41, rfl, N42q, K43, p44, p45, p46⟩ := hQ6
  have N42 := Fr.app N0 N42q
  have o47 := O0.keep K43 all0
  have kp48 := kp0.trans K43 all0
  have z49 := Nat.le_trans kp0.1 p46
  have g50 := Nat.le_trans (Nat.le_trans (Nat.le_of_eq O0.1.symm) O0.2.1) p46
  have c51 : Kt p e below T6 st0 (mkF m 45 #[vr x_, vr s_, vi 0, vi 4, .val .null, vr b40] [(ii 4), (rr b40), (rr x_)]) := fun t k => by
   refine c6 t ?_
   show S_ p e below T6 m 39 #[vr x_, vr s_, vi 0, vi 4, .val .null, u_] [(rr b40)] t
   refine XS.astore X6.here hx rfl (hb hby d11_39) rfl rfl (l' := #[vr x_, vr s_, vi 0, vi 4, .val .null, vr b40]) rfl ?_
   show S_ p e below T6 m 41 #[vr x_, vr s_, vi 0, vi 4, .val .null, vr b40] [] t
   refine XS.aloadN X6.here hx rfl (hb hby d11_41) rfl rfl ?_
   show S_ p e below T6 m 42 #[vr x_, vr s_, vi 0, vi 4, .val .null, vr b40] [(rr x_)] t
   refine XS.aload X6.here hx rfl (hb hby d11_42) rfl rfl ?_
   show S_ p e below T6 m 44 #[vr x_, vr s_, vi 0, vi 4, .val .null, vr b40] [(rr b40), (rr x_)] t
   refine XS.iloadN X6.here hx rfl (hb hby d11_44) rfl ?_
   exact k
  obtain ⟨_, T52, L52, X52, hQ52, c52⟩ := kstat X6 hx hZ hown (w46 hw) (w47 hw) (w41 hw) (w48 hw) (rm_codu_4 l Z a0 hw [] b40 k41 [(.int (nar .byte ((c0_ >>> ((0 : Int32) &&& 31)).toInt8.toInt32))), (.int (nar .byte ((c0_ >>> ((8 : Int32) &&& 31)).toInt8.toInt32))), (.int (nar .byte ((c1_ >>> ((0 : Int32) &&& 31)).toInt8.toInt32))), (.int (nar .byte ((c1_ >>> ((8 : Int32) &&& 31)).toInt8.toInt32))), (.int (nar .byte ((c2_ >>> ((0 : Int32) &&& 31)).toInt8.toInt32))), (.int (nar .byte ((c2_ >>> ((8 : Int32) &&& 31)).toInt8.toInt32))), (.int (nar .byte ((c3_ >>> ((0 : Int32) &&& 31)).toInt8.toInt32))), (.int (nar .byte ((c3_ >>> ((8 : Int32) &&& 31)).toInt8.toInt32)))] T6.heap n0 o47 p44) rfl c51 hml pd_pABIrB [(rr b40), (ii 4)] [(rr x_)] 1 (hb hby d11_45) rfl rfl rfl rfl rfl rfl
  obtain ⟨rfl, N53q, K54⟩ := hQ52
  have N53 := Fr.app N42 N53q
  obtain ⟨T55, h55, X55, e55, W55, f56, o58, N57, c55⟩ := kput X52 hx hZ .byte hown (host := "") (Or.inl (w23 hw)) Via.refl K54 (F2_.keep K43 nin0) (E0_.keep K43) (Or.inr ⟨(w19 hw), rfl, hnm⟩) (w4 hw) c52 rfl rfl (hb hby d11_48) (by decide) rfl rfl o47 N53 G3_
  have kp59 := kp48.wr W55 (Or.inl (List.mem_of_getElem? (i := 0) rfl))
  have f60 := (F1_.keep K43 nin0).other W55 (Or.inr (slot_ne (Or.inr (w18 hw)) (Or.inr (w19 hw)) (by decide) (t := (.array .byte)) (t' := .byte) (by decide) (by decide)))
  have c61 : Kt p e below T55 st0 (mkF m 54 #[vr x_, vr s_, vi 0, vi 4, .val .null, vr b40] [(rr b40), (rr x_)]) := fun t k => by
   refine c55 t ?_
   show S_ p e below T55 m 51 #[vr x_, vr s_, vi 0, vi 4, .val .null, vr b40] [] t
   refine XS.aloadN X55.here hx rfl (hb hby d11_51) rfl rfl ?_
   show S_ p e below T55 m 52 #[vr x_, vr s_, vi 0, vi 4, .val .null, vr b40] [(rr x_)] t
   refine XS.aload X55.here hx rfl (hb hby d11_52) rfl rfl ?_
   exact k
  obtain ⟨T62, h62, X62, e62, W62, f63, o65, N64, c62⟩ := kput X55 hx hZ (.array .byte) hown (host := "") (Or.inl (w22 hw)) Via.refl e55 f60 ((E0_.keep K43).wr W55) (Or.inr ⟨(w18 hw), rfl, hnm⟩) (w4 hw) c61 rfl rfl (hb hby d11_54) (by decide) rfl rfl o58 N57 G3_
  have kp66 := kp59.wr W62 (Or.inl (List.mem_of_getElem? (i := 0) rfl))
  have f67 := f56.other W62 (Or.inr (slot_ne (Or.inr (w19 hw)) (Or.inr (w18 hw)) (by decide) (t := .byte) (t' := (.array .byte)) (by decide) (by decide)))
  have q68 := Ne.symm (Nat.ne_of_lt (Nat.lt_of_lt_of_le E0_.lt p46))
  obtain ⟨fs, hr, hrun, hended, hW, hsame⟩ := X62.leave (v := none) (fun _ => rfl)
  refine ⟨_, _, c62 _ ?_, hrun, hended, _, _, rfl, ?_, ⟨_, rfl⟩, hW, hsame.mono (by decide) (by decide)⟩
  ·show S_ p e below T62 m 57 #[vr x_, vr s_, vi 0, vi 4, .val .null, vr b40] [] _
   exact X62.returnOut hx Bd.returns (hb hby d11_57) hr
  ·show Q_str4a_4 Z x_ s_ ks_ z_ c0_ c1_ c2_ c3_ h0 n0 _ T62.heap _
   rw [e62]
   exact (Or.inr (⟨rfl, N64, kp66, (((E0_.keep K43).wr W55).wr W62), f67, b40, k41, f63, ((p44.other W55 q68).other W62 q68), g50, z49⟩))
theorem ef_str1a_4 (m : MethodId) (x_ : Addr) (s_ : Addr) : entryFrame m #[(rr x_), (rr s_)] 2 = mkF m 0 #[vr x_, vr s_] [] := by first | (simp [entryFrame, mkF, argsToLocals, Value.category]; done) | rfl
def Q_str1a_4 (Z : State) (x_ : Addr) (s_ : Addr) (ks_ : ClassId) (z_ : Int32) (c0_ : Int32) (c1_ : Int32) (c2_ : Int32) (c3_ : Int32) (h0 : Heap) (n0 : Nat) (v : Option Value) (h : Heap) (L : List Loc) : Prop := (v = none ∧ Fr n0 L ∧ Keep h0 h [x_] ∧ Exa Z h x_ nm0 ∧ Fld Z h x_ nm0 "coder" "B" (ii 0) ∧ ∃ (b_ : Addr), ∃ (kb_ : ClassId), Fld Z h x_ nm0 "value" "[B" (rr b_) ∧ Arv Z h b_ kb_ .byte (4 : Int32) [(.int (nar .byte (c0_.toInt8.toInt32))), (.int (nar .byte (c1_.toInt8.toInt32))), (.int (nar .byte (c2_.toInt8.toInt32))), (.int (nar .byte (c3_.toInt8.toInt32)))] (ii 0) ∧ n0 ≤ b_ ∧ h0.size ≤ b_ ∧ ¬ ((255 : Int32) < c0_) ∧ ¬ ((255 : Int32) < c1_) ∧ ¬ ((255 : Int32) < c2_) ∧ ¬ ((255 : Int32) < c3_)) ∨ (v = none ∧ Fr n0 L ∧ Keep h0 h [x_] ∧ Exa Z h x_ nm0 ∧ Fld Z h x_ nm0 "coder" "B" (ii 1) ∧ ∃ (b_ : Addr), ∃ (kb_ : ClassId), Fld Z h x_ nm0 "value" "[B" (rr b_) ∧ Arv Z h b_ kb_ .byte (8 : Int32) [(.int (nar .byte ((c0_ >>> ((0 : Int32) &&& 31)).toInt8.toInt32))), (.int (nar .byte ((c0_ >>> ((8 : Int32) &&& 31)).toInt8.toInt32))), (.int (nar .byte ((c1_ >>> ((0 : Int32) &&& 31)).toInt8.toInt32))), (.int (nar .byte ((c1_ >>> ((8 : Int32) &&& 31)).toInt8.toInt32))), (.int (nar .byte ((c2_ >>> ((0 : Int32) &&& 31)).toInt8.toInt32))), (.int (nar .byte ((c2_ >>> ((8 : Int32) &&& 31)).toInt8.toInt32))), (.int (nar .byte ((c3_ >>> ((0 : Int32) &&& 31)).toInt8.toInt32))), (.int (nar .byte ((c3_ >>> ((8 : Int32) &&& 31)).toInt8.toInt32)))] (ii 0) ∧ n0 ≤ b_ ∧ h0.size ≤ b_)
set_option maxRecDepth 65536 in
set_option maxHeartbeats 40000000 in
theorem rm_str1a_4 (l : Launch) (Z : State) (a0 : Array Value) (hw : HW Z a0) (ws : List Jvm.Cond) (x_ : Addr) (s_ : Addr) (ks_ : ClassId) (z_ : Int32) (c0_ : Int32) (c1_ : Int32) (c2_ : Int32) (c3_ : Int32) (h0 : Heap) (n0 : Nat) (O0 : Old Z n0 h0) (E0_ : Exa Z h0 x_ nm0) (F1_ : Fld Z h0 x_ nm0 "value" "[B" .null) (F2_ : Fld Z h0 x_ nm0 "coder" "B" (ii 0)) (G3_ : n0 ≤ x_) (A4_ : Arv Z h0 s_ ks_ .char (4 : Int32) [(.int c0_), (.int c1_), (.int c2_), (.int c3_)] (ii 0)) (ZS5_ : Sta Z Z.heap nm0 "COMPACT_STRINGS" "Z" (.int z_)) (hz_ : ¬ (z_ = (0 : Int32))) (ZS7_ : Sta Z Z.heap nm1 "$assertionsDisabled" "Z" (ii 1)) (ZS8_ : Sta Z Z.heap nm1 "HI_BYTE_SHIFT" "I" (ii 0)) (ZS9_ : Sta Z Z.heap nm1 "LO_BYTE_SHIFT" "I" (ii 8)) (hc0_ : nar .char c0_ = c0_) (hc1_ : nar .char c1_ = c1_) (hc2_ : nar .char c2_ = c2_) (hc3_ : nar .char c3_ = c3_) :
  MFP l Z (⟨nm0, "<init>", "([C)V"⟩ : MethodName) jdk_42_method_3_code 2 none ({ frames := 5, cells := 2, slots := 12, locals := 74 } : Room) ws #[(rr x_), (rr s_)] h0 (Q_str1a_4 Z x_ s_ ks_ z_ c0_ c1_ c2_ c3_ h0 n0) := by
 refine MetFree.of_bodySF (plainFor_of_name pn_java_lang_String) hisR ?_
 intro p e s m args below meth c s₁ Bd hml0 hP hK
 obtain ⟨rfl, hZ, hh⟩ := hP
 have hx := Bd.exec
 have hby := Bd.bytes
 have hml : c.maxLocals = 2 := hml0
 have hown : s.vm.findClass nm0 = some m.cls := findClass_of_methodNamed Bd.named
 have hnm := (name_of_methodNamed Bd.named Bd.method).1
 have X0 : Stand p l e ({ frames := 5, cells := 2, slots := 12, locals := 74 } : Room) s m #[(rr x_), (rr s_)] below meth c s₁ [] 0 0 := Stand.of_body Bd
 have e0 : s₁.heap = h0 := by rw [← hh, Bd.state]; rfl
 have N0 := Fr.nil n0
 have kp0 : Keep h0 h0 [x_] := Keep.refl _ _
 have c0 : ∀ t, S_ p e below s₁ m 0 #[vr x_, vr s_] [] t → Steps p.tables e below (s₁.setTop (entryFrame m #[(rr x_), (rr s_)] 2)) t := fun t k => castTop (ef_str1a_4 m x_ s_) k
 generalize s₁.setTop (entryFrame m #[(rr x_), (rr s_)] 2) = st0 at c0 ⊢
 replace c0 : Kt p e below s₁ st0 (mkF m 0 #[vr x_, vr s_] []) := c0
 have c1 : Kt p e below s₁ st0 (mkF m 6 #[vr x_, vr s_] [.null, (ii 4), (ii 0), (rr s_), (rr x_)]) := fun t k => by
  refine c0 t ?_
  show S_ p e below s₁ m 0 #[vr x_, vr s_] [] t
  refine XS.aloadN X0.here hx rfl (hb hby d12_0) rfl rfl ?_
  show S_ p e below s₁ m 1 #[vr x_, vr s_] [(rr x_)] t
  refine XS.aloadN X0.here hx rfl (hb hby d12_1) rfl rfl ?_
  show S_ p e below s₁ m 2 #[vr x_, vr s_] [(rr s_), (rr x_)] t
  refine XS.iconst X0.here hx rfl (hb hby d12_2) ?_
  show S_ p e below s₁ m 3 #[vr x_, vr s_] [(ii 0), (rr s_), (rr x_)] t
  refine XS.aloadN X0.here hx rfl (hb hby d12_3) rfl rfl ?_
  show S_ p e below s₁ m 4 #[vr x_, vr s_] [(rr s_), (ii 0), (rr s_), (rr x_)] t
  refine ldLen X0 hx hZ e0 A4_ rfl rfl (hb hby d12_4) ?_
  show S_ p e below s₁ m 5 #[vr x_, vr s_] [(ii 4), (ii 0), (rr s_), (rr x_)] t
  refine XS.aconstNull X0.here hx rfl (hb hby d12_5) ?_
  exact k
 obtain ⟨_, T2, L2, X2, hQ2, c2⟩ := kspec X0 hx hZ hown (w9 hw) (w10 hw) (w5 hw) (w12 hw) (rm_str4a_4 l Z a0 hw [] x_ s_ ks_ z_ c0_ c1_ c2_ c3_ h0 n0 O0 E0_ F1_ F2_ G3_ A4_ ZS5_ hz_ ZS7_ ZS8_ ZS9_ hc0_ hc1_ hc2_ hc3_) e0 c1 hml pd_pACIILjava_lang_Void_rV x_ [(rr s_), (ii 0), (ii 4), .null] [] 0 (hb hby d12_6) rfl rfl rfl rfl rfl rfl
 rcases hQ2 with hQ2 | hQ2
 ·obtain ⟨rfl, N3q, K4, p5, p6, b7, k8, p9, p10, p11, p12, p13, p14, p15, p16⟩ := hQ2
  have N3 := Fr.app N0 N3q
  have o17 := O0.keep K4 (allS G3_ all0)
  have kp18 := kp0.trans K4 (allS (Or.inl (List.mem_of_getElem? (i := 0) rfl)) all0)
  have z19 := Nat.le_trans kp0.1 p12
  have g20 := Nat.le_trans (Nat.le_trans (Nat.le_of_eq O0.1.symm) O0.2.1) p12
  obtain ⟨fs, hr, hrun, hended, hW, hsame⟩ := X2.leave (v := none) (fun _ => rfl)
  refine ⟨_, _, c2 _ ?_, hrun, hended, _, _, rfl, ?_, ⟨_, rfl⟩, hW, hsame.mono (by decide) (by decide)⟩
  ·show S_ p e below T2 m 9 #[vr x_, vr s_] [] _
   exact X2.returnOut hx Bd.returns (hb hby d12_9) hr
  ·show Q_str1a_4 Z x_ s_ ks_ z_ c0_ c1_ c2_ c3_ h0 n0 _ T2.heap _
   exact (Or.inl ⟨rfl, N3, kp18, p5, p6, b7, k8, p9, p10, g20, z19, p13, p14, p15, p16⟩)
 ·obtain ⟨rfl, N21q, K22, p23, p24, b25, k26, p27, p28, p29, p30⟩ := hQ2
  have N21 := Fr.app N0 N21q
  have o31 := O0.keep K22 (allS G3_ all0)
  have kp32 := kp0.trans K22 (allS (Or.inl (List.mem_of_getElem? (i := 0) rfl)) all0)
  have z33 := Nat.le_trans kp0.1 p30
  have g34 := Nat.le_trans (Nat.le_trans (Nat.le_of_eq O0.1.symm) O0.2.1) p30
  obtain ⟨fs, hr, hrun, hended, hW, hsame⟩ := X2.leave (v := none) (fun _ => rfl)
  refine ⟨_, _, c2 _ ?_, hrun, hended, _, _, rfl, ?_, ⟨_, rfl⟩, hW, hsame.mono (by decide) (by decide)⟩
  ·show S_ p e below T2 m 9 #[vr x_, vr s_] [] _
   exact X2.returnOut hx Bd.returns (hb hby d12_9) hr
  ·show Q_str1a_4 Z x_ s_ ks_ z_ c0_ c1_ c2_ c3_ h0 n0 _ T2.heap _
   exact (Or.inr (⟨rfl, N21, kp32, p23, p24, b25, k26, p27, p28, g34, z33⟩))
theorem ef_u16len_4 (m : MethodId) (s_ : Addr) : entryFrame m #[(rr s_)] 1 = mkF m 0 #[vr s_] [] := by first | (simp [entryFrame, mkF, argsToLocals, Value.category]; done) | rfl
def Q_u16len_4 (Z : State) (s_ : Addr) (ks_ : ClassId) (vs_ : List Value) (h0 : Heap) (n0 : Nat) (v : Option Value) (h : Heap) (L : List Loc) : Prop := v = some (ii 4) ∧ Fr n0 L ∧ h = h0
set_option maxRecDepth 65536 in
set_option maxHeartbeats 40000000 in
theorem rm_u16len_4 (l : Launch) (Z : State) (a0 : Array Value) (hw : HW Z a0) (ws : List Jvm.Cond) (s_ : Addr) (ks_ : ClassId) (vs_ : List Value) (h0 : Heap) (n0 : Nat) (O0 : Old Z n0 h0) (A0_ : Arv Z h0 s_ ks_ .byte (8 : Int32) vs_ (ii 0)) :
  MFP l Z (⟨nm1, "length", "([B)I"⟩ : MethodName) jdk_52_method_6_code 1 (some .int) ({ frames := 0, cells := 0, slots := 0, locals := 0 } : Room) ws #[(rr s_)] h0 (Q_u16len_4 Z s_ ks_ vs_ h0 n0) := by
 refine MetFree.of_bodySF (plainFor_of_name pn_java_lang_StringUTF16) hisR ?_
 intro p e s m args below meth c s₁ Bd hml0 hP hK
 obtain ⟨rfl, hZ, hh⟩ := hP
 have hx := Bd.exec
 have hby := Bd.bytes
 have hml : c.maxLocals = 1 := hml0
 have hown : s.vm.findClass nm1 = some m.cls := findClass_of_methodNamed Bd.named
 have hnm := (name_of_methodNamed Bd.named Bd.method).1
 have X0 : Stand p l e ({ frames := 0, cells := 0, slots := 0, locals := 0 } : Room) s m #[(rr s_)] below meth c s₁ [] 0 0 := Stand.of_body Bd
 have e0 : s₁.heap = h0 := by rw [← hh, Bd.state]; rfl
 have N0 := Fr.nil n0
 have kp0 : Keep h0 h0 [] := Keep.refl _ _
 have c0 : ∀ t, S_ p e below s₁ m 0 #[vr s_] [] t → Steps p.tables e below (s₁.setTop (entryFrame m #[(rr s_)] 1)) t := fun t k => castTop (ef_u16len_4 m s_) k
 generalize s₁.setTop (entryFrame m #[(rr s_)] 1) = st0 at c0 ⊢
 replace c0 : Kt p e below s₁ st0 (mkF m 0 #[vr s_] []) := c0
 obtain ⟨fs, hr, hrun, hended, hW, hsame⟩ := X0.leave (v := some (ii 4)) (fun h => by rw [Bd.returns] at h; cases h)
 refine ⟨_, _, c0 _ ?_, hrun, hended, _, _, rfl, ?_, ⟨_, rfl⟩, hW, hsame.mono (by decide) (by decide)⟩
 ·show S_ p e below s₁ m 0 #[vr s_] [] _
  refine XS.aloadN X0.here hx rfl (hb hby d16_0) rfl rfl ?_
  show S_ p e below s₁ m 1 #[vr s_] [(rr s_)] _
  refine ldLen X0 hx hZ e0 A0_ rfl rfl (hb hby d16_1) ?_
  show S_ p e below s₁ m 2 #[vr s_] [(ii 8)] _
  refine XS.iconst X0.here hx rfl (hb hby d16_2) ?_
  show S_ p e below s₁ m 3 #[vr s_] [(ii 1), (ii 8)] _
  refine XS.ishr X0.here hx rfl (hb hby d16_3) rfl ?_
  show S_ p e below s₁ m 4 #[vr s_] [(ii 4)] _
  exact retOut X0 hx Bd.returns rfl (Or.inl ⟨rfl, Or.inl rfl, _, rfl⟩) (hb hby d16_4) hr
 ·show Q_u16len_4 Z s_ ks_ vs_ h0 n0 _ s₁.heap _
  rw [e0]
  exact ⟨rfl, N0, rfl⟩
theorem ef_u16chk_4 (m : MethodId) (i_ : Int32) (s_ : Addr) : entryFrame m #[(.int i_), (rr s_)] 2 = mkF m 0 #[vi i_, vr s_] [] := by first | (simp [entryFrame, mkF, argsToLocals, Value.category]; done) | rfl
def Q_u16chk_4 (Z : State) (s_ : Addr) (ks_ : ClassId) (vs_ : List Value) (i_ : Int32) (fm_ : Value) (h0 : Heap) (n0 : Nat) (v : Option Value) (h : Heap) (L : List Loc) : Prop := v = none ∧ Fr n0 L ∧ h = h0
set_option maxRecDepth 65536 in
set_option maxHeartbeats 40000000 in
theorem rm_u16chk_4 (l : Launch) (Z : State) (a0 : Array Value) (hw : HW Z a0) (ws : List Jvm.Cond) (s_ : Addr) (ks_ : ClassId) (vs_ : List Value) (i_ : Int32) (fm_ : Value) (h0 : Heap) (n0 : Nat) (O0 : Old Z n0 h0) (A0_ : Arv Z h0 s_ ks_ .byte (8 : Int32) vs_ (ii 0)) (ZS1_ : Sta Z Z.heap nm2 "SIOOBE_FORMATTER" nm4 fm_) (hfm_ : fm_.isRef = true) (h1_ : ¬ (i_ < (0 : Int32))) (h2_ : i_ < (4 : Int32)) :
  MFP l Z (⟨nm1, "checkIndex", "(I[B)V"⟩ : MethodName) jdk_52_method_91_code 2 none ({ frames := 2, cells := 0, slots := 0, locals := 27 } : Room) ws #[(.int i_), (rr s_)] h0 (Q_u16chk_4 Z s_ ks_ vs_ i_ fm_ h0 n0) := by
 refine MetFree.of_bodySF (plainFor_of_name pn_java_lang_StringUTF16) hisR ?_
 intro p e s m args below meth c s₁ Bd hml0 hP hK
 obtain ⟨rfl, hZ, hh⟩ := hP
 have hx := Bd.exec
 have hby := Bd.bytes
 have hml : c.maxLocals = 2 := hml0
 have hown : s.vm.findClass nm1 = some m.cls := findClass_of_methodNamed Bd.named
 have hnm := (name_of_methodNamed Bd.named Bd.method).1
 have X0 : Stand p l e ({ frames := 2, cells := 0, slots := 0, locals := 27 } : Room) s m #[(.int i_), (rr s_)] below meth c s₁ [] 0 0 := Stand.of_body Bd
 have e0 : s₁.heap = h0 := by rw [← hh, Bd.state]; rfl
 have N0 := Fr.nil n0
 have kp0 : Keep h0 h0 [] := Keep.refl _ _
 have c0 : ∀ t, S_ p e below s₁ m 0 #[vi i_, vr s_] [] t → Steps p.tables e below (s₁.setTop (entryFrame m #[(.int i_), (rr s_)] 2)) t := fun t k => castTop (ef_u16chk_4 m i_ s_) k
 generalize s₁.setTop (entryFrame m #[(.int i_), (rr s_)] 2) = st0 at c0 ⊢
 replace c0 : Kt p e below s₁ st0 (mkF m 0 #[vi i_, vr s_] []) := c0
 have c1 : Kt p e below s₁ st0 (mkF m 2 #[vi i_, vr s_] [(rr s_), (.int i_)]) := fun t k => by
  refine c0 t ?_
  show S_ p e below s₁ m 0 #[vi i_, vr s_] [] t
  refine XS.iloadN X0.here hx rfl (hb hby d17_0) rfl ?_
  show S_ p e below s₁ m 1 #[vi i_, vr s_] [(.int i_)] t
  refine XS.aloadN X0.here hx rfl (hb hby d17_1) rfl rfl ?_
  exact k
 obtain ⟨_, T2, L2, X2, hQ2, c2⟩ := kstat X0 hx hZ hown (w96 hw) (w97 hw) (w41 hw) (w98 hw) (rm_u16len_4 l Z a0 hw [] s_ ks_ vs_ h0 n0 O0 A0_) e0 c1 hml pd_pABrI [(rr s_)] [(.int i_)] 1 (hb hby d17_2) rfl rfl rfl rfl rfl rfl
 obtain ⟨rfl, N3q, K4⟩ := hQ2
 have N3 := Fr.app N0 N3q
 obtain ⟨_, T5, L5, X5, hQ5, c5⟩ := kstat X2 hx hZ hown (w99 hw) (w64 hw) (w5 hw) (w65 hw) (rm_schk l Z a0 hw [] i_ (4 : Int32) fm_ h0 n0 O0 ZS1_ hfm_ h1_ h2_) K4 c2 hml pd_pIIrV [(.int i_), (ii 4)] [] 0 (hb hby d17_5) rfl rfl rfl rfl rfl rfl
 obtain ⟨rfl, N6q, K7⟩ := hQ5
 have N6 := Fr.app N3 N6q
 obtain ⟨fs, hr, hrun, hended, hW, hsame⟩ := X5.leave (v := none) (fun _ => rfl)
 refine ⟨_, _, c5 _ ?_, hrun, hended, _, _, rfl, ?_, ⟨_, rfl⟩, hW, hsame.mono (by decide) (by decide)⟩
 ·show S_ p e below T5 m 8 #[vi i_, vr s_] [] _
  exact X5.returnOut hx Bd.returns (hb hby d17_8) hr
 ·show Q_u16chk_4 Z s_ ks_ vs_ i_ fm_ h0 n0 _ T5.heap _
  rw [K7]
  exact ⟨rfl, N6, rfl⟩
theorem ef_u16ch_4 (m : MethodId) (s_ : Addr) (i_ : Int32) : entryFrame m #[(rr s_), (.int i_)] 2 = mkF m 0 #[vr s_, vi i_] [] := by first | (simp [entryFrame, mkF, argsToLocals, Value.category]; done) | rfl
def Q_u16ch_4 (Z : State) (s_ : Addr) (ks_ : ClassId) (vs_ : List Value) (i_ : Int32) (b_ : Int32) (d_ : Int32) (c_ : Int32) (fm_ : Value) (h0 : Heap) (n0 : Nat) (v : Option Value) (h : Heap) (L : List Loc) : Prop := v = some (.int c_) ∧ Fr n0 L ∧ h = h0
set_option maxRecDepth 65536 in
set_option maxHeartbeats 40000000 in
theorem rm_u16ch_4 (l : Launch) (Z : State) (a0 : Array Value) (hw : HW Z a0) (ws : List Jvm.Cond) (s_ : Addr) (ks_ : ClassId) (vs_ : List Value) (i_ : Int32) (b_ : Int32) (d_ : Int32) (c_ : Int32) (fm_ : Value) (h0 : Heap) (n0 : Nat) (O0 : Old Z n0 h0) (A0_ : Arv Z h0 s_ ks_ .byte (8 : Int32) vs_ (ii 0)) (ZS1_ : Sta Z Z.heap nm2 "SIOOBE_FORMATTER" nm4 fm_) (hfm_ : fm_.isRef = true) (ZS3_ : Sta Z Z.heap nm1 "$assertionsDisabled" "Z" (ii 1)) (ZS4_ : Sta Z Z.heap nm1 "HI_BYTE_SHIFT" "I" (ii 0)) (ZS5_ : Sta Z Z.heap nm1 "LO_BYTE_SHIFT" "I" (ii 8)) (ha_ : ¬ (i_ < (0 : Int32))) (hb_ : i_ < (4 : Int32)) (h1_ : ¬ ((i_ <<< ((1 : Int32) &&& 31)) < (0 : Int32))) (h2_ : (i_ <<< ((1 : Int32) &&& 31)) < (8 : Int32)) (h3_ : ¬ (((i_ <<< ((1 : Int32) &&& 31)) + (1 : Int32)) < (0 : Int32))) (h4_ : ((i_ <<< ((1 : Int32) &&& 31)) + (1 : Int32)) < (8 : Int32)) (h5_ : vs_.getD ((i_ <<< ((1 : Int32) &&& 31))).toNatClampNeg (ii 0) = (.int b_)) (h6_ : vs_.getD (((i_ <<< ((1 : Int32) &&& 31)) + (1 : Int32))).toNatClampNeg (ii 0) = (.int d_)) (h7_ : (nar .char ((((b_ &&& (255 : Int32)) <<< ((0 : Int32) &&& 31)) ||| ((d_ &&& (255 : Int32)) <<< ((8 : Int32) &&& 31))).toUInt32.toUInt16.toUInt32.toInt32)) = c_) (h8_ : nar .char c_ = c_) :
  MFP l Z (⟨nm1, "charAt", "([BI)C"⟩ : MethodName) jdk_52_method_83_code 2 (some .char) ({ frames := 3, cells := 0, slots := 0, locals := 40 } : Room) ws #[(rr s_), (.int i_)] h0 (Q_u16ch_4 Z s_ ks_ vs_ i_ b_ d_ c_ fm_ h0 n0) := by
 refine MetFree.of_bodySF (plainFor_of_name pn_java_lang_StringUTF16) hisR ?_
 intro p e s m args below meth c s₁ Bd hml0 hP hK
 obtain ⟨rfl, hZ, hh⟩ := hP
 have hx := Bd.exec
 have hby := Bd.bytes
 have hml : c.maxLocals = 2 := hml0
 have hown : s.vm.findClass nm1 = some m.cls := findClass_of_methodNamed Bd.named
 have hnm := (name_of_methodNamed Bd.named Bd.method).1
 have X0 : Stand p l e ({ frames := 3, cells := 0, slots := 0, locals := 40 } : Room) s m #[(rr s_), (.int i_)] below meth c s₁ [] 0 0 := Stand.of_body Bd
 have e0 : s₁.heap = h0 := by rw [← hh, Bd.state]; rfl
 have N0 := Fr.nil n0
 have kp0 : Keep h0 h0 [] := Keep.refl _ _
 have c0 : ∀ t, S_ p e below s₁ m 0 #[vr s_, vi i_] [] t → Steps p.tables e below (s₁.setTop (entryFrame m #[(rr s_), (.int i_)] 2)) t := fun t k => castTop (ef_u16ch_4 m s_ i_) k
 generalize s₁.setTop (entryFrame m #[(rr s_), (.int i_)] 2) = st0 at c0 ⊢
 replace c0 : Kt p e below s₁ st0 (mkF m 0 #[vr s_, vi i_] []) := c0
 have c1 : Kt p e below s₁ st0 (mkF m 2 #[vr s_, vi i_] [(rr s_), (.int i_)]) := fun t k => by
  refine c0 t ?_
  show S_ p e below s₁ m 0 #[vr s_, vi i_] [] t
  refine XS.iloadN X0.here hx rfl (hb hby d18_0) rfl ?_
  show S_ p e below s₁ m 1 #[vr s_, vi i_] [(.int i_)] t
  refine XS.aloadN X0.here hx rfl (hb hby d18_1) rfl rfl ?_
  exact k
 obtain ⟨_, T2, L2, X2, hQ2, c2⟩ := kstat X0 hx hZ hown (w93 hw) (w94 hw) (w41 hw) (w95 hw) (rm_u16chk_4 l Z a0 hw [] s_ ks_ vs_ i_ fm_ h0 n0 O0 A0_ ZS1_ hfm_ ha_ hb_) e0 c1 hml pd_pIABrV [(.int i_), (rr s_)] [] 0 (hb hby d18_2) rfl rfl rfl rfl rfl rfl
 obtain ⟨rfl, N3q, K4⟩ := hQ2
 have N3 := Fr.app N0 N3q
 have c5 : Kt p e below T2 st0 (mkF m 7 #[vr s_, vi i_] [(.int i_), (rr s_)]) := fun t k => by
  refine c2 t ?_
  show S_ p e below T2 m 5 #[vr s_, vi i_] [] t
  refine XS.aloadN X2.here hx rfl (hb hby d18_5) rfl rfl ?_
  show S_ p e below T2 m 6 #[vr s_, vi i_] [(rr s_)] t
  refine XS.iloadN X2.here hx rfl (hb hby d18_6) rfl ?_
  exact k
 obtain ⟨_, T6, L6, X6, hQ6, c6⟩ := kstat X2 hx hZ hown (w87 hw) (w88 hw) (w41 hw) (w89 hw) (rm_getc l Z a0 hw [] s_ ks_ (8 : Int32) vs_ i_ b_ d_ c_ h0 n0 O0 A0_ ZS3_ ZS4_ ZS5_ h1_ h2_ h3_ h4_ h5_ h6_ h7_) K4 c5 hml pd_pABIrC [(rr s_), (.int i_)] [] 0 (hb hby d18_7) rfl rfl rfl rfl rfl rfl
 obtain ⟨rfl, N7q, K8⟩ := hQ6
 have N7 := Fr.app N3 N7q
 obtain ⟨fs, hr, hrun, hended, hW, hsame⟩ := X6.leave (v := some (.int (nar .char c_))) (fun h => by rw [Bd.returns] at h; cases h)
 refine ⟨_, _, c6 _ ?_, hrun, hended, _, _, rfl, ?_, ⟨_, rfl⟩, hW, hsame.mono (by decide) (by decide)⟩
 ·show S_ p e below T6 m 10 #[vr s_, vi i_] [(.int c_)] _
  exact retN X6 hx (t := .char) Bd.returns (by simp) (hb hby d18_10) hr
 ·show Q_u16ch_4 Z s_ ks_ vs_ i_ b_ d_ c_ fm_ h0 n0 _ T6.heap _
  rw [K8]
  exact ⟨(by rw [h8_]), N7, rfl⟩
theorem ef_chU_4 (m : MethodId) (x_ : Addr) (i_ : Int32) : entryFrame m #[(rr x_), (.int i_)] 2 = mkF m 0 #[vr x_, vi i_] [] := by first | (simp [entryFrame, mkF, argsToLocals, Value.category]; done) | rfl
def Q_chU_4 (Z : State) (x_ : Addr) (s_ : Addr) (ks_ : ClassId) (vs_ : List Value) (i_ : Int32) (b_ : Int32) (d_ : Int32) (c_ : Int32) (fm_ : Value) (z_ : Int32) (h0 : Heap) (n0 : Nat) (v : Option Value) (h : Heap) (L : List Loc) : Prop := v = some (.int c_) ∧ Fr n0 L ∧ h = h0
set_option maxRecDepth 65536 in
set_option maxHeartbeats 40000000 in
theorem rm_chU_4 (l : Launch) (Z : State) (a0 : Array Value) (hw : HW Z a0) (ws : List Jvm.Cond) (x_ : Addr) (s_ : Addr) (ks_ : ClassId) (vs_ : List Value) (i_ : Int32) (b_ : Int32) (d_ : Int32) (c_ : Int32) (fm_ : Value) (z_ : Int32) (h0 : Heap) (n0 : Nat) (O0 : Old Z n0 h0) (E0_ : Exa Z h0 x_ nm0) (F1_ : Fld Z h0 x_ nm0 "coder" "B" (ii 1)) (F2_ : Fld Z h0 x_ nm0 "value" "[B" (rr s_)) (A3_ : Arv Z h0 s_ ks_ .byte (8 : Int32) vs_ (ii 0)) (ZS4_ : Sta Z Z.heap nm2 "SIOOBE_FORMATTER" nm4 fm_) (hfm_ : fm_.isRef = true) (ZS6_ : Sta Z Z.heap nm0 "COMPACT_STRINGS" "Z" (.int z_)) (hz_ : ¬ (z_ = (0 : Int32))) (ZS8_ : Sta Z Z.heap nm1 "$assertionsDisabled" "Z" (ii 1)) (ZS9_ : Sta Z Z.heap nm1 "HI_BYTE_SHIFT" "I" (ii 0)) (ZS10_ : Sta Z Z.heap nm1 "LO_BYTE_SHIFT" "I" (ii 8)) (ha_ : ¬ (i_ < (0 : Int32))) (hb_ : i_ < (4 : Int32)) (h1_ : ¬ ((i_ <<< ((1 : Int32) &&& 31)) < (0 : Int32))) (h2_ : (i_ <<< ((1 : Int32) &&& 31)) < (8 : Int32)) (h3_ : ¬ (((i_ <<< ((1 : Int32) &&& 31)) + (1 : Int32)) < (0 : Int32))) (h4_ : ((i_ <<< ((1 : Int32) &&& 31)) + (1 : Int32)) < (8 : Int32)) (h5_ : vs_.getD ((i_ <<< ((1 : Int32) &&& 31))).toNatClampNeg (ii 0) = (.int b_)) (h6_ : vs_.getD (((i_ <<< ((1 : Int32) &&& 31)) + (1 : Int32))).toNatClampNeg (ii 0) = (.int d_)) (h7_ : (nar .char ((((b_ &&& (255 : Int32)) <<< ((0 : Int32) &&& 31)) ||| ((d_ &&& (255 : Int32)) <<< ((8 : Int32) &&& 31))).toUInt32.toUInt16.toUInt32.toInt32)) = c_) (h8_ : nar .char c_ = c_) :
  MFP l Z (⟨nm0, "charAt", "(I)C"⟩ : MethodName) jdk_42_method_56_code 2 (some .char) ({ frames := 4, cells := 0, slots := 0, locals := 53 } : Room) ws #[(rr x_), (.int i_)] h0 (Q_chU_4 Z x_ s_ ks_ vs_ i_ b_ d_ c_ fm_ z_ h0 n0) := by
 refine MetFree.of_bodySF (plainFor_of_name pn_java_lang_String) hisR ?_
 intro p e s m args below meth c s₁ Bd hml0 hP hK
 obtain ⟨rfl, hZ, hh⟩ := hP
 have hx := Bd.exec
 have hby := Bd.bytes
 have hml : c.maxLocals = 2 := hml0
 have hown : s.vm.findClass nm0 = some m.cls := findClass_of_methodNamed Bd.named
 have hnm := (name_of_methodNamed Bd.named Bd.method).1
 have X0 : Stand p l e ({ frames := 4, cells := 0, slots := 0, locals := 53 } : Room) s m #[(rr x_), (.int i_)] below meth c s₁ [] 0 0 := Stand.of_body Bd
 have e0 : s₁.heap = h0 := by rw [← hh, Bd.state]; rfl
 have N0 := Fr.nil n0
 have kp0 : Keep h0 h0 [] := Keep.refl _ _
 have c0 : ∀ t, S_ p e below s₁ m 0 #[vr x_, vi i_] [] t → Steps p.tables e below (s₁.setTop (entryFrame m #[(rr x_), (.int i_)] 2)) t := fun t k => castTop (ef_chU_4 m x_ i_) k
 generalize s₁.setTop (entryFrame m #[(rr x_), (.int i_)] 2) = st0 at c0 ⊢
 replace c0 : Kt p e below s₁ st0 (mkF m 0 #[vr x_, vi i_] []) := c0
 have c1 : Kt p e below s₁ st0 (mkF m 1 #[vr x_, vi i_] [(rr x_)]) := fun t k => by
  refine c0 t ?_
  show S_ p e below s₁ m 0 #[vr x_, vi i_] [] t
  refine XS.aloadN X0.here hx rfl (hb hby d15_0) rfl rfl ?_
  exact k
 obtain ⟨_, T2, L2, X2, hQ2, c2⟩ := kvirt X0 hx hZ hown (w54 hw) (w55 hw) (w57 hw) (w56 hw) (w58 hw) (w5 hw) (rm_islU l Z a0 hw [] x_ z_ h0 n0 O0 F1_ ZS6_ hz_) e0 E0_ c1 hml pd_prZ [] [] 0 (hb hby d15_1) rfl rfl rfl rfl rfl rfl
 obtain ⟨rfl, N3q, K4⟩ := hQ2
 have N3 := Fr.app N0 N3q
 have c5 : Kt p e below T2 st0 (mkF m 17 #[vr x_, vi i_] [(rr x_)]) := fun t k => by
  refine c2 t ?_
  show S_ p e below T2 m 4 #[vr x_, vi i_] [(ii 0)] t
  refine yI X2.here hx rfl 4 16 rfl (hb hby d15_4) rfl rfl ?_
  show S_ p e below T2 m 16 #[vr x_, vi i_] [] t
  refine XS.aloadN X2.here hx rfl (hb hby d15_16) rfl rfl ?_
  exact k
 obtain ⟨T6, X6, e6, c6⟩ := kget X2 hx hZ hown (host := "") (Or.inl (w22 hw)) Via.refl K4 F2_ c5 rfl rfl (hb hby d15_17)
 have c7 : Kt p e below T6 st0 (mkF m 21 #[vr x_, vi i_] [(.int i_), (rr s_)]) := fun t k => by
  refine c6 t ?_
  show S_ p e below T6 m 20 #[vr x_, vi i_] [(rr s_)] t
  refine XS.iloadN X6.here hx rfl (hb hby d15_20) rfl ?_
  exact k
 obtain ⟨_, T8, L8, X8, hQ8, c8⟩ := kstat X6 hx hZ hown (w90 hw) (w91 hw) (w41 hw) (w92 hw) (rm_u16ch_4 l Z a0 hw [] s_ ks_ vs_ i_ b_ d_ c_ fm_ h0 n0 O0 A3_ ZS4_ hfm_ ZS8_ ZS9_ ZS10_ ha_ hb_ h1_ h2_ h3_ h4_ h5_ h6_ h7_ h8_) e6 c7 hml pd_pABIrC [(rr s_), (.int i_)] [] 0 (hb hby d15_21) rfl rfl rfl rfl rfl rfl
 obtain ⟨rfl, N9q, K10⟩ := hQ8
 have N9 := Fr.app N3 N9q
 obtain ⟨fs, hr, hrun, hended, hW, hsame⟩ := X8.leave (v := some (.int (nar .char c_))) (fun h => by rw [Bd.returns] at h; cases h)
 refine ⟨_, _, c8 _ ?_, hrun, hended, _, _, rfl, ?_, ⟨_, rfl⟩, hW, hsame.mono (by decide) (by decide)⟩
 ·show S_ p e below T8 m 24 #[vr x_, vi i_] [(.int c_)] _
  exact retN X8 hx (t := .char) Bd.returns (by simp) (hb hby d15_24) hr
 ·show Q_chU_4 Z x_ s_ ks_ vs_ i_ b_ d_ c_ fm_ z_ h0 n0 _ T8.heap _
  rw [K10]
  exact ⟨(by rw [h8_]), N9, rfl⟩
theorem ef_lenL_4 (m : MethodId) (x_ : Addr) : entryFrame m #[(rr x_)] 1 = mkF m 0 #[vr x_] [] := by first | (simp [entryFrame, mkF, argsToLocals, Value.category]; done) | rfl
def Q_lenL_4 (Z : State) (x_ : Addr) (s_ : Addr) (ks_ : ClassId) (vs_ : List Value) (z_ : Int32) (h0 : Heap) (n0 : Nat) (v : Option Value) (h : Heap) (L : List Loc) : Prop := v = some (ii 4) ∧ Fr n0 L ∧ h = h0
set_option maxRecDepth 65536 in
set_option maxHeartbeats 40000000 in
theorem rm_lenL_4 (l : Launch) (Z : State) (a0 : Array Value) (hw : HW Z a0) (ws : List Jvm.Cond) (x_ : Addr) (s_ : Addr) (ks_ : ClassId) (vs_ : List Value) (z_ : Int32) (h0 : Heap) (n0 : Nat) (O0 : Old Z n0 h0) (E0_ : Exa Z h0 x_ nm0) (F1_ : Fld Z h0 x_ nm0 "coder" "B" (ii 0)) (F2_ : Fld Z h0 x_ nm0 "value" "[B" (rr s_)) (A3_ : Arv Z h0 s_ ks_ .byte (4 : Int32) vs_ (ii 0)) (ZS4_ : Sta Z Z.heap nm0 "COMPACT_STRINGS" "Z" (.int z_)) (hz_ : ¬ (z_ = (0 : Int32))) :
  MFP l Z (⟨nm0, "length", "()I"⟩ : MethodName) jdk_42_method_54_code 1 (some .int) ({ frames := 1, cells := 0, slots := 0, locals := 13 } : Room) ws #[(rr x_)] h0 (Q_lenL_4 Z x_ s_ ks_ vs_ z_ h0 n0) := by
 refine MetFree.of_bodySF (plainFor_of_name pn_java_lang_String) hisR ?_
 intro p e s m args below meth c s₁ Bd hml0 hP hK
 obtain ⟨rfl, hZ, hh⟩ := hP
 have hx := Bd.exec
 have hby := Bd.bytes
 have hml : c.maxLocals = 1 := hml0
 have hown : s.vm.findClass nm0 = some m.cls := findClass_of_methodNamed Bd.named
 have hnm := (name_of_methodNamed Bd.named Bd.method).1
 have X0 : Stand p l e ({ frames := 1, cells := 0, slots := 0, locals := 13 } : Room) s m #[(rr x_)] below meth c s₁ [] 0 0 := Stand.of_body Bd
 have e0 : s₁.heap = h0 := by rw [← hh, Bd.state]; rfl
 have N0 := Fr.nil n0
 have kp0 : Keep h0 h0 [] := Keep.refl _ _
 have c0 : ∀ t, S_ p e below s₁ m 0 #[vr x_] [] t → Steps p.tables e below (s₁.setTop (entryFrame m #[(rr x_)] 1)) t := fun t k => castTop (ef_lenL_4 m x_) k
 generalize s₁.setTop (entryFrame m #[(rr x_)] 1) = st0 at c0 ⊢
 replace c0 : Kt p e below s₁ st0 (mkF m 0 #[vr x_] []) := c0
 have c1 : Kt p e below s₁ st0 (mkF m 1 #[vr x_] [(rr x_)]) := fun t k => by
  refine c0 t ?_
  show S_ p e below s₁ m 0 #[vr x_] [] t
  refine XS.aloadN X0.here hx rfl (hb hby d19_0) rfl rfl ?_
  exact k
 obtain ⟨T2, X2, e2, c2⟩ := kget X0 hx hZ hown (host := "") (Or.inl (w22 hw)) Via.refl e0 F2_ c1 rfl rfl (hb hby d19_1)
 have c3 : Kt p e below T2 st0 (mkF m 6 #[vr x_] [(rr x_), (ii 4)]) := fun t k => by
  refine c2 t ?_
  show S_ p e below T2 m 4 #[vr x_] [(rr s_)] t
  refine ldLen X2 hx hZ e2 A3_ rfl rfl (hb hby d19_4) ?_
  show S_ p e below T2 m 5 #[vr x_] [(ii 4)] t
  refine XS.aloadN X2.here hx rfl (hb hby d19_5) rfl rfl ?_
  exact k
 obtain ⟨_, T4, L4, X4, hQ4, c4⟩ := kvirt X2 hx hZ hown (w33 hw) (w34 hw) (w36 hw) (w35 hw) (w37 hw) (w5 hw) (rm_codL l Z a0 hw [] x_ z_ h0 n0 O0 F1_ ZS4_ hz_) e2 E0_ c3 hml pd_prB [] [(ii 4)] 1 (hb hby d19_6) rfl rfl rfl rfl rfl rfl
 obtain ⟨rfl, N5q, K6⟩ := hQ4
 have N5 := Fr.app N0 N5q
 obtain ⟨fs, hr, hrun, hended, hW, hsame⟩ := X4.leave (v := some (ii 4)) (fun h => by rw [Bd.returns] at h; cases h)
 refine ⟨_, _, c4 _ ?_, hrun, hended, _, _, rfl, ?_, ⟨_, rfl⟩, hW, hsame.mono (by decide) (by decide)⟩
 ·show S_ p e below T4 m 9 #[vr x_] [(ii 0), (ii 4)] _
  refine XS.ishr X4.here hx rfl (hb hby d19_9) rfl ?_
  show S_ p e below T4 m 10 #[vr x_] [(ii 4)] _
  exact retOut X4 hx Bd.returns rfl (Or.inl ⟨rfl, Or.inl rfl, _, rfl⟩) (hb hby d19_10) hr
 ·show Q_lenL_4 Z x_ s_ ks_ vs_ z_ h0 n0 _ T4.heap _
  rw [K6]
  exact ⟨rfl, N5, rfl⟩
theorem ef_lenU_4 (m : MethodId) (x_ : Addr) : entryFrame m #[(rr x_)] 1 = mkF m 0 #[vr x_] [] := by first | (simp [entryFrame, mkF, argsToLocals, Value.category]; done) | rfl
def Q_lenU_4 (Z : State) (x_ : Addr) (s_ : Addr) (ks_ : ClassId) (vs_ : List Value) (z_ : Int32) (h0 : Heap) (n0 : Nat) (v : Option Value) (h : Heap) (L : List Loc) : Prop := v = some (ii 4) ∧ Fr n0 L ∧ h = h0
set_option maxRecDepth 65536 in
set_option maxHeartbeats 40000000 in
theorem rm_lenU_4 (l : Launch) (Z : State) (a0 : Array Value) (hw : HW Z a0) (ws : List Jvm.Cond) (x_ : Addr) (s_ : Addr) (ks_ : ClassId) (vs_ : List Value) (z_ : Int32) (h0 : Heap) (n0 : Nat) (O0 : Old Z n0 h0) (E0_ : Exa Z h0 x_ nm0) (F1_ : Fld Z h0 x_ nm0 "coder" "B" (ii 1)) (F2_ : Fld Z h0 x_ nm0 "value" "[B" (rr s_)) (A3_ : Arv Z h0 s_ ks_ .byte (8 : Int32) vs_ (ii 0)) (ZS4_ : Sta Z Z.heap nm0 "COMPACT_STRINGS" "Z" (.int z_)) (hz_ : ¬ (z_ = (0 : Int32))) :
  MFP l Z (⟨nm0, "length", "()I"⟩ : MethodName) jdk_42_method_54_code 1 (some .int) ({ frames := 1, cells := 0, slots := 0, locals := 13 } : Room) ws #[(rr x_)] h0 (Q_lenU_4 Z x_ s_ ks_ vs_ z_ h0 n0) := by
 refine MetFree.of_bodySF (plainFor_of_name pn_java_lang_String) hisR ?_
 intro p e s m args below meth c s₁ Bd hml0 hP hK
 obtain ⟨rfl, hZ, hh⟩ := hP
 have hx := Bd.exec
 have hby := Bd.bytes
 have hml : c.maxLocals = 1 := hml0
 have hown : s.vm.findClass nm0 = some m.cls := findClass_of_methodNamed Bd.named
 have hnm := (name_of_methodNamed Bd.named Bd.method).1
 have X0 : Stand p l e ({ frames := 1, cells := 0, slots := 0, locals := 13 } : Room) s m #[(rr x_)] below meth c s₁ [] 0 0 := Stand.of_body Bd
 have e0 : s₁.heap = h0 := by rw [← hh, Bd.state]; rfl
 have N0 := Fr.nil n0
 have kp0 : Keep h0 h0 [] := Keep.refl _ _
 have c0 : ∀ t, S_ p e below s₁ m 0 #[vr x_] [] t → Steps p.tables e below (s₁.setTop (entryFrame m #[(rr x_)] 1)) t := fun t k => castTop (ef_lenU_4 m x_) k
 generalize s₁.setTop (entryFrame m #[(rr x_)] 1) = st0 at c0 ⊢
 replace c0 : Kt p e below s₁ st0 (mkF m 0 #[vr x_] []) := c0
 have c1 : Kt p e below s₁ st0 (mkF m 1 #[vr x_] [(rr x_)]) := fun t k => by
  refine c0 t ?_
  show S_ p e below s₁ m 0 #[vr x_] [] t
  refine XS.aloadN X0.here hx rfl (hb hby d19_0) rfl rfl ?_
  exact k
 obtain ⟨T2, X2, e2, c2⟩ := kget X0 hx hZ hown (host := "") (Or.inl (w22 hw)) Via.refl e0 F2_ c1 rfl rfl (hb hby d19_1)
 have c3 : Kt p e below T2 st0 (mkF m 6 #[vr x_] [(rr x_), (ii 8)]) := fun t k => by
  refine c2 t ?_
  show S_ p e below T2 m 4 #[vr x_] [(rr s_)] t
  refine ldLen X2 hx hZ e2 A3_ rfl rfl (hb hby d19_4) ?_
  show S_ p e below T2 m 5 #[vr x_] [(ii 8)] t
  refine XS.aloadN X2.here hx rfl (hb hby d19_5) rfl rfl ?_
  exact k
 obtain ⟨_, T4, L4, X4, hQ4, c4⟩ := kvirt X2 hx hZ hown (w33 hw) (w34 hw) (w36 hw) (w35 hw) (w37 hw) (w5 hw) (rm_codU l Z a0 hw [] x_ z_ h0 n0 O0 F1_ ZS4_ hz_) e2 E0_ c3 hml pd_prB [] [(ii 8)] 1 (hb hby d19_6) rfl rfl rfl rfl rfl rfl
 obtain ⟨rfl, N5q, K6⟩ := hQ4
 have N5 := Fr.app N0 N5q
 obtain ⟨fs, hr, hrun, hended, hW, hsame⟩ := X4.leave (v := some (ii 4)) (fun h => by rw [Bd.returns] at h; cases h)
 refine ⟨_, _, c4 _ ?_, hrun, hended, _, _, rfl, ?_, ⟨_, rfl⟩, hW, hsame.mono (by decide) (by decide)⟩
 ·show S_ p e below T4 m 9 #[vr x_] [(ii 1), (ii 8)] _
  refine XS.ishr X4.here hx rfl (hb hby d19_9) rfl ?_
  show S_ p e below T4 m 10 #[vr x_] [(ii 4)] _
  exact retOut X4 hx Bd.returns rfl (Or.inl ⟨rfl, Or.inl rfl, _, rfl⟩) (hb hby d19_10) hr
 ·show Q_lenU_4 Z x_ s_ ks_ vs_ z_ h0 n0 _ T4.heap _
  rw [K6]
  exact ⟨rfl, N5, rfl⟩
theorem d11_8 : decode jdk_42_method_149_code 8 = .ok (.aload_n 0, 1) := by decide +kernel
theorem d11_9 : decode jdk_42_method_149_code 9 = .ok (.ldc 7, 2) := by decide +kernel
theorem d11_11 : decode jdk_42_method_149_code 11 = .ok (.getfield 9, 3) := by decide +kernel
theorem d11_14 : decode jdk_42_method_149_code 14 = .ok (.putfield 9, 3) := by decide +kernel
theorem d11_17 : decode jdk_42_method_149_code 17 = .ok (.aload_n 0, 1) := by decide +kernel
theorem d11_18 : decode jdk_42_method_149_code 18 = .ok (.ldc 7, 2) := by decide +kernel
theorem d11_20 : decode jdk_42_method_149_code 20 = .ok (.getfield 15, 3) := by decide +kernel
theorem d11_23 : decode jdk_42_method_149_code 23 = .ok (.putfield 15, 3) := by decide +kernel
theorem d11_26 : decode jdk_42_method_149_code 26 = .ok (.return_, 1) := by decide +kernel
theorem ef_str4_0 (m : MethodId) (x_ : Addr) (s_ : Addr) : entryFrame m #[(rr x_), (rr s_), (ii 0), (ii 0), .null] 6 = mkF m 0 #[vr x_, vr s_, vi 0, vi 0, .val .null, u_] [] := by first | (simp [entryFrame, mkF, argsToLocals, Value.category]; done) | rfl
def Q_str4_0 (Z : State) (x_ : Addr) (s_ : Addr) (ks_ : ClassId) (h0 : Heap) (n0 : Nat) (v : Option Value) (h : Heap) (L : List Loc) : Prop := v = none ∧ Fr n0 L ∧ Keep h0 h [x_] ∧ Exa Z h x_ nm0 ∧ Fld Z h x_ nm0 "coder" "B" (ii 0) ∧ ∃ (b_ : Addr), ∃ (kb_ : ClassId), Fld Z h x_ nm0 "value" "[B" (rr b_) ∧ Arv Z h b_ kb_ .byte (0 : Int32) [] (ii 0)
set_option maxRecDepth 65536 in
set_option maxHeartbeats 40000000 in
theorem rm_str4_0 (l : Launch) (Z : State) (a0 : Array Value) (hw : HW Z a0) (ws : List Jvm.Cond) (x_ : Addr) (s_ : Addr) (ks_ : ClassId) (h0 : Heap) (n0 : Nat) (O0 : Old Z n0 h0) (E0_ : Exa Z h0 x_ nm0) (F1_ : Fld Z h0 x_ nm0 "value" "[B" .null) (F2_ : Fld Z h0 x_ nm0 "coder" "B" (ii 0)) (G3_ : n0 ≤ x_) (A4_ : Arv Z h0 s_ ks_ .char (0 : Int32) [] (ii 0)) (hlit_ : Jvm.Lit.constHeld Z nm0 7) (hcw : Jvm.Lit.compactW.before a0 Z = true) :
  MFI l Z (⟨nm0, "<init>", "([CIILjava/lang/Void;)V"⟩ : MethodName) jdk_42_method_149_code 6 none ({ frames := 1, cells := 2, slots := 4, locals := 12 } : Room) ws #[(rr x_), (rr s_), (ii 0), (ii 0), .null] h0 (Q_str4_0 Z x_ s_ ks_ h0 n0) := by
 refine MetFree.of_bodySF (plainFor_of_name pn_java_lang_String) hisR ?_
 intro p e s m args below meth c s₁ Bd hml0 hP hK
 obtain ⟨rfl, hZ, hh, hI⟩ := hP
 have hx := Bd.exec
 have hby := Bd.bytes
 have hml : c.maxLocals = 6 := hml0
 have hown : s.vm.findClass nm0 = some m.cls := findClass_of_methodNamed Bd.named
 have hnm := (name_of_methodNamed Bd.named Bd.method).1
 have X0 : Stand p l e ({ frames := 1, cells := 2, slots := 4, locals := 12 } : Room) (s.setVm s.vm) m #[(rr x_), (rr s_), (ii 0), (ii 0), .null] below meth c s₁ [] 0 0 := Stand.of_body Bd
 have e0 : s₁.heap = h0 := by rw [← hh, Bd.state]; rfl
 have N0 := Fr.nil n0
 have kp0 : Keep h0 h0 [x_] := Keep.refl _ _
 have hS0 : s.Since s.vm 0 := (State.WarmedH.refl s).since 0
 have c0 : ∀ t, S_ p e below s₁ m 0 #[vr x_, vr s_, vi 0, vi 0, .val .null, u_] [] t → Steps p.tables e below (s₁.setTop (entryFrame m #[(rr x_), (rr s_), (ii 0), (ii 0), .null] 6)) t := fun t k => castTop (ef_str4_0 m x_ s_) k
 generalize s₁.setTop (entryFrame m #[(rr x_), (rr s_), (ii 0), (ii 0), .null] 6) = st0 at c0 ⊢
 replace c0 : Kt p e below s₁ st0 (mkF m 0 #[vr x_, vr s_, vi 0, vi 0, .val .null, u_] []) := c0
 have c1 : Kt p e below s₁ st0 (mkF m 1 #[vr x_, vr s_, vi 0, vi 0, .val .null, u_] [(rr x_)]) := fun t k => by
  refine c0 t ?_
  show S_ p e below s₁ m 0 #[vr x_, vr s_, vi 0, vi 0, .val .null, u_] [] t
  refine XS.aloadN X0.here hx rfl (hb hby d11_0) rfl rfl ?_
  exact k
 obtain ⟨T2, X2, e2, c2⟩ := kinit X0 hx hZ hown (w13 hw) (w14 hw) (w15 hw) e0 c1 rfl hml rfl rfl (hb hby d11_1) 0 (own_w rfl) (by decide) (by decide)
 have c3 : Kt p e below T2 st0 (mkF m 9 #[vr x_, vr s_, vi 0, vi 0, .val .null, u_] [(rr x_)]) := fun t k => by
  refine c2 t ?_
  show S_ p e below T2 m 4 #[vr x_, vr s_, vi 0, vi 0, .val .null, u_] [] t
  refine XS.iloadN X2.here hx rfl (hb hby d11_4) rfl ?_
  show S_ p e below T2 m 5 #[vr x_, vr s_, vi 0, vi 0, .val .null, u_] [(ii 0)] t
  refine XS.ifNo X2.here hx rfl (hb hby d11_5) rfl rfl ?_
  show S_ p e below T2 m 8 #[vr x_, vr s_, vi 0, vi 0, .val .null, u_] [] t
  refine XS.aloadN X2.here hx rfl (hb hby d11_8) rfl rfl ?_
  exact k
 obtain ⟨a4, T4, h4, k4, b4, kb4, X4, e4, E4, o5, hS4, hk4, hZ4, hown4, fE4, fC4, fV4, fA4, Lt4, c4⟩ := kldcV X2 hx hZ hown (w16 hw) (own_atoms hw) e2 c3 0 (hb hby d11_9) rfl hh O0 hI hlit_ hcw (vs := []) (z := (0 : Int32)) ⟨by decide, rfl⟩ (by decide) rfl (by decide) (by decide) (by decide) (by decide) O0
 have kp6 := kp0.ext E4
 obtain ⟨T7, X7, e7, c7⟩ := kget X4 hx hZ4 hown4 (host := "") (Or.inl (w22 hw)) Via.refl e4 fV4 c4 rfl rfl (hb hby d11_11)
 obtain ⟨T8, h8, X8, e8, W8, f9, o11, N10, c8⟩ := kput X7 hx hZ4 (.array .byte) hown4 (host := "") (Or.inl (w22 hw)) Via.refl e7 (F1_.ext E4) (E0_.ext E4) (Or.inr ⟨(w18 hw), rfl, hnm⟩) (w4 hw) c7 rfl rfl (hb hby d11_14) (by decide) rfl rfl o5 N0 G3_
 have kp12 := kp6.wr W8 (Or.inl (List.mem_of_getElem? (i := 0) rfl))
 have f13 := fC4.other W8 (Or.inr (slot_ne (Or.inr (w19 hw)) (Or.inr (w18 hw)) (by decide) (t := .byte) (t' := (.array .byte)) (by decide) (by decide)))
 have c14 : Kt p e below T8 st0 (mkF m 20 #[vr x_, vr s_, vi 0, vi 0, .val .null, u_] [(rr a4), (rr x_)]) := fun t k => by
  refine c8 t ?_
  show S_ p e below T8 m 17 #[vr x_, vr s_, vi 0, vi 0, .val .null, u_] [] t
  refine XS.aloadN X8.here hx rfl (hb hby d11_17) rfl rfl ?_
  show S_ p e below T8 m 18 #[vr x_, vr s_, vi 0, vi 0, .val .null, u_] [(rr x_)] t
  refine ldcAgain X8 hx hZ4 hown4 (w16 hw) Lt4 (g := (mkF m 18 #[vr x_, vr s_, vi 0, vi 0, .val .null, u_] [(rr x_)])) rfl (hb hby d11_18) _ ?_
  exact k
 obtain ⟨T15, X15, e15, c15⟩ := kget X8 hx hZ4 hown4 (host := "") (Or.inl (w23 hw)) Via.refl e8 f13 c14 rfl rfl (hb hby d11_20)
 have f16 := (F2_.ext E4).other W8 (Or.inr (slot_ne (Or.inr (w19 hw)) (Or.inr (w18 hw)) (by decide) (t := .byte) (t' := (.array .byte)) (by decide) (by decide)))
 obtain ⟨T17, h17, X17, e17, W17, f18, o20, N19, c17⟩ := kput X15 hx hZ4 .byte hown4 (host := "") (Or.inl (w23 hw)) Via.refl e15 f16 ((E0_.ext E4).wr W8) (Or.inr ⟨(w19 hw), rfl, hnm⟩) (w4 hw) c15 rfl rfl (hb hby d11_23) (by decide) rfl rfl o11 N10 G3_
 have kp21 := kp12.wr W17 (Or.inl (List.mem_of_getElem? (i := 0) rfl))
 have f22 := f9.other W17 (Or.inr (slot_ne (Or.inr (w18 hw)) (Or.inr (w19 hw)) (by decide) (t := (.array .byte)) (t' := .byte) (by decide) (by decide)))
 have q23 := Ne.symm (Exa.neArv (E0_.ext E4) fA4 (w4 hw))
 obtain ⟨fs, hr, hrun, hended, hRW⟩ := X17.leaveW hS4 (by first | exact (Nat.le_trans hk4 (Nat.le_trans (Keep.of_wr W8).1 (Keep.of_wr W17).1)) | (rw [e17]; exact (Nat.le_trans hk4 (Nat.le_trans (Keep.of_wr W8).1 (Keep.of_wr W17).1)))) (v := none) (fun _ => rfl)
 refine ⟨_, _, c17 _ ?_, hrun, hended, _, _, rfl, ?_, hRW.1, hRW.2.1, hRW.2.2.1, hRW.2.2.2.mono (by decide) (by decide)⟩
 ·show S_ p e below T17 m 26 #[vr x_, vr s_, vi 0, vi 0, .val .null, u_] [] _
  exact X17.returnOut hx Bd.returns (hb hby d11_26) hr
 ·show Q_str4_0 Z x_ s_ ks_ h0 n0 _ T17.heap _
  rw [e17]
  exact ⟨rfl, N19, kp21, (((E0_.ext E4).wr W8).wr W17), f18, b4, kb4, f22, ((fA4.other W8 q23).other W17 q23)⟩
theorem ef_str1_0 (m : MethodId) (x_ : Addr) (s_ : Addr) : entryFrame m #[(rr x_), (rr s_)] 2 = mkF m 0 #[vr x_, vr s_] [] := by first | (simp [entryFrame, mkF, argsToLocals, Value.category]; done) | rfl
def Q_str1_0 (Z : State) (x_ : Addr) (s_ : Addr) (ks_ : ClassId) (h0 : Heap) (n0 : Nat) (v : Option Value) (h : Heap) (L : List Loc) : Prop := v = none ∧ Fr n0 L ∧ Keep h0 h [x_] ∧ Exa Z h x_ nm0 ∧ Fld Z h x_ nm0 "coder" "B" (ii 0) ∧ ∃ (b_ : Addr), ∃ (kb_ : ClassId), Fld Z h x_ nm0 "value" "[B" (rr b_) ∧ Arv Z h b_ kb_ .byte (0 : Int32) [] (ii 0)
set_option maxRecDepth 65536 in
set_option maxHeartbeats 40000000 in
theorem rm_str1_0 (l : Launch) (Z : State) (a0 : Array Value) (hw : HW Z a0) (ws : List Jvm.Cond) (x_ : Addr) (s_ : Addr) (ks_ : ClassId) (h0 : Heap) (n0 : Nat) (O0 : Old Z n0 h0) (E0_ : Exa Z h0 x_ nm0) (F1_ : Fld Z h0 x_ nm0 "value" "[B" .null) (F2_ : Fld Z h0 x_ nm0 "coder" "B" (ii 0)) (G3_ : n0 ≤ x_) (A4_ : Arv Z h0 s_ ks_ .char (0 : Int32) [] (ii 0)) (hlit_ : Jvm.Lit.constHeld Z nm0 7) (hcw : Jvm.Lit.compactW.before a0 Z = true) :
  MFI l Z (⟨nm0, "<init>", "([C)V"⟩ : MethodName) jdk_42_method_3_code 2 none ({ frames := 2, cells := 2, slots := 4, locals := 29 } : Room) ws #[(rr x_), (rr s_)] h0 (Q_str1_0 Z x_ s_ ks_ h0 n0) := by
 refine MetFree.of_bodySF (plainFor_of_name pn_java_lang_String) hisR ?_
 intro p e s m args below meth c s₁ Bd hml0 hP hK
 obtain ⟨rfl, hZ, hh, hI⟩ := hP
 have hx := Bd.exec
 have hby := Bd.bytes
 have hml : c.maxLocals = 2 := hml0
 have hown : s.vm.findClass nm0 = some m.cls := findClass_of_methodNamed Bd.named
 have hnm := (name_of_methodNamed Bd.named Bd.method).1
 have X0 : Stand p l e ({ frames := 2, cells := 2, slots := 4, locals := 29 } : Room) (s.setVm s.vm) m #[(rr x_), (rr s_)] below meth c s₁ [] 0 0 := Stand.of_body Bd
 have e0 : s₁.heap = h0 := by rw [← hh, Bd.state]; rfl
 have N0 := Fr.nil n0
 have kp0 : Keep h0 h0 [x_] := Keep.refl _ _
 have hS0 : s.Since s.vm 0 := (State.WarmedH.refl s).since 0
 have c0 : ∀ t, S_ p e below s₁ m 0 #[vr x_, vr s_] [] t → Steps p.tables e below (s₁.setTop (entryFrame m #[(rr x_), (rr s_)] 2)) t := fun t k => castTop (ef_str1_0 m x_ s_) k
 generalize s₁.setTop (entryFrame m #[(rr x_), (rr s_)] 2) = st0 at c0 ⊢
 replace c0 : Kt p e below s₁ st0 (mkF m 0 #[vr x_, vr s_] []) := c0
 have c1 : Kt p e below s₁ st0 (mkF m 6 #[vr x_, vr s_] [.null, (ii 0), (ii 0), (rr s_), (rr x_)]) := fun t k => by
  refine c0 t ?_
  show S_ p e below s₁ m 0 #[vr x_, vr s_] [] t
  refine XS.aloadN X0.here hx rfl (hb hby d12_0) rfl rfl ?_
  show S_ p e below s₁ m 1 #[vr x_, vr s_] [(rr x_)] t
  refine XS.aloadN X0.here hx rfl (hb hby d12_1) rfl rfl ?_
  show S_ p e below s₁ m 2 #[vr x_, vr s_] [(rr s_), (rr x_)] t
  refine XS.iconst X0.here hx rfl (hb hby d12_2) ?_
  show S_ p e below s₁ m 3 #[vr x_, vr s_] [(ii 0), (rr s_), (rr x_)] t
  refine XS.aloadN X0.here hx rfl (hb hby d12_3) rfl rfl ?_
  show S_ p e below s₁ m 4 #[vr x_, vr s_] [(rr s_), (ii 0), (rr s_), (rr x_)] t
  refine ldLen X0 hx hZ e0 A4_ rfl rfl (hb hby d12_4) ?_
  show S_ p e below s₁ m 5 #[vr x_, vr s_] [(ii 0), (ii 0), (rr s_), (rr x_)] t
  refine XS.aconstNull X0.here hx rfl (hb hby d12_5) ?_
  exact k
 obtain ⟨_, T2, L2, X2, hQ2, hS2, hZ2, hown2, c2⟩ := kspecB X0 hx hZ hown hS0 (Nat.zero_le _) (w9 hw) (w10 hw) (w12 hw) (rm := ({ frames := 1, cells := 2, slots := 4, locals := 12 } : Room)) (backOfSI (W := 0) (rm_str4_0 l Z a0 hw [] x_ s_ ks_ h0 n0 O0 E0_ F1_ F2_ G3_ A4_ hlit_ hcw) hZ hI (w12 hw) (w5 hw) (by decide) (by decide)) e0 c1 hml pd_pACIILjava_lang_Void_rV x_ [(rr s_), (ii 0), (ii 0), .null] [] (hb hby d12_6) rfl rfl rfl rfl rfl rfl
 obtain ⟨rfl, N3q, K4, p5, p6, b7, k8, p9, p10⟩ := hQ2
 have N3 := Fr.app N0 N3q
 have o11 := O0.keep K4 (allS G3_ all0)
 have kp12 := kp0.trans K4 (allS (Or.inl (List.mem_of_getElem? (i := 0) rfl)) all0)
 obtain ⟨fs, hr, hrun, hended, hRW⟩ := X2.leaveW hS2 (by first | exact (Nat.le_refl _) | (rw [rfl]; exact (Nat.le_refl _))) (v := none) (fun _ => rfl)
 refine ⟨_, _, c2 _ ?_, hrun, hended, _, _, rfl, ?_, hRW.1, hRW.2.1, hRW.2.2.1, hRW.2.2.2.mono (by decide) (by decide)⟩
 ·show S_ p e below T2 m 9 #[vr x_, vr s_] [] _
  exact X2.returnOut hx Bd.returns (hb hby d12_9) hr
 ·show Q_str1_0 Z x_ s_ ks_ h0 n0 _ T2.heap _
  exact ⟨rfl, N3, kp12, p5, p6, b7, k8, p9, p10⟩
theorem ef_lenL_0 (m : MethodId) (x_ : Addr) : entryFrame m #[(rr x_)] 1 = mkF m 0 #[vr x_] [] := by first | (simp [entryFrame, mkF, argsToLocals, Value.category]; done) | rfl
def Q_lenL_0 (Z : State) (x_ : Addr) (s_ : Addr) (ks_ : ClassId) (vs_ : List Value) (z_ : Int32) (h0 : Heap) (n0 : Nat) (v : Option Value) (h : Heap) (L : List Loc) : Prop := v = some (ii 0) ∧ Fr n0 L ∧ h = h0
set_option maxRecDepth 65536 in
set_option maxHeartbeats 40000000 in
theorem rm_lenL_0 (l : Launch) (Z : State) (a0 : Array Value) (hw : HW Z a0) (ws : List Jvm.Cond) (x_ : Addr) (s_ : Addr) (ks_ : ClassId) (vs_ : List Value) (z_ : Int32) (h0 : Heap) (n0 : Nat) (O0 : Old Z n0 h0) (E0_ : Exa Z h0 x_ nm0) (F1_ : Fld Z h0 x_ nm0 "coder" "B" (ii 0)) (F2_ : Fld Z h0 x_ nm0 "value" "[B" (rr s_)) (A3_ : Arv Z h0 s_ ks_ .byte (0 : Int32) vs_ (ii 0)) (ZS4_ : Sta Z Z.heap nm0 "COMPACT_STRINGS" "Z" (.int z_)) (hz_ : ¬ (z_ = (0 : Int32))) :
  MFP l Z (⟨nm0, "length", "()I"⟩ : MethodName) jdk_42_method_54_code 1 (some .int) ({ frames := 1, cells := 0, slots := 0, locals := 13 } : Room) ws #[(rr x_)] h0 (Q_lenL_0 Z x_ s_ ks_ vs_ z_ h0 n0) := by
 refine MetFree.of_bodySF (plainFor_of_name pn_java_lang_String) hisR ?_
 intro p e s m args below meth c s₁ Bd hml0 hP hK
 obtain ⟨rfl, hZ, hh⟩ := hP
 have hx := Bd.exec
 have hby := Bd.bytes
 have hml : c.maxLocals = 1 := hml0
 have hown : s.vm.findClass nm0 = some m.cls := findClass_of_methodNamed Bd.named
 have hnm := (name_of_methodNamed Bd.named Bd.method).1
 have X0 : Stand p l e ({ frames := 1, cells := 0, slots := 0, locals := 13 } : Room) s m #[(rr x_)] below meth c s₁ [] 0 0 := Stand.of_body Bd
 have e0 : s₁.heap = h0 := by rw [← hh, Bd.state]; rfl
 have N0 := Fr.nil n0
 have kp0 : Keep h0 h0 [] := Keep.refl _ _
 have c0 : ∀ t, S_ p e below s₁ m 0 #[vr x_] [] t → Steps p.tables e below (s₁.setTop (entryFrame m #[(rr x_)] 1)) t := fun t k => castTop (ef_lenL_0 m x_) k
 generalize s₁.setTop (entryFrame m #[(rr x_)] 1) = st0 at c0 ⊢
 replace c0 : Kt p e below s₁ st0 (mkF m 0 #[vr x_] []) := c0
 have c1 : Kt p e below s₁ st0 (mkF m 1 #[vr x_] [(rr x_)]) := fun t k => by
  refine c0 t ?_
  show S_ p e below s₁ m 0 #[vr x_] [] t
  refine XS.aloadN X0.here hx rfl (hb hby d19_0) rfl rfl ?_
  exact k
 obtain ⟨T2, X2, e2, c2⟩ := kget X0 hx hZ hown (host := "") (Or.inl (w22 hw)) Via.refl e0 F2_ c1 rfl rfl (hb hby d19_1)
 have c3 : Kt p e below T2 st0 (mkF m 6 #[vr x_] [(rr x_), (ii 0)]) := fun t k => by
  refine c2 t ?_
  show S_ p e below T2 m 4 #[vr x_] [(rr s_)] t
  refine ldLen X2 hx hZ e2 A3_ rfl rfl (hb hby d19_4) ?_
  show S_ p e below T2 m 5 #[vr x_] [(ii 0)] t
  refine XS.aloadN X2.here hx rfl (hb hby d19_5) rfl rfl ?_
  exact k
 obtain ⟨_, T4, L4, X4, hQ4, c4⟩ := kvirt X2 hx hZ hown (w33 hw) (w34 hw) (w36 hw) (w35 hw) (w37 hw) (w5 hw) (rm_codL l Z a0 hw [] x_ z_ h0 n0 O0 F1_ ZS4_ hz_) e2 E0_ c3 hml pd_prB [] [(ii 0)] 1 (hb hby d19_6) rfl rfl rfl rfl rfl rfl
 obtain ⟨rfl, N5q, K6⟩ := hQ4
 have N5 := Fr.app N0 N5q
 obtain ⟨fs, hr, hrun, hended, hW, hsame⟩ := X4.leave (v := some (ii 0)) (fun h => by rw [Bd.returns] at h; cases h)
 refine ⟨_, _, c4 _ ?_, hrun, hended, _, _, rfl, ?_, ⟨_, rfl⟩, hW, hsame.mono (by decide) (by decide)⟩
 ·show S_ p e below T4 m 9 #[vr x_] [(ii 0), (ii 0)] _
  refine XS.ishr X4.here hx rfl (hb hby d19_9) rfl ?_
  show S_ p e below T4 m 10 #[vr x_] [(ii 0)] _
  exact retOut X4 hx Bd.returns rfl (Or.inl ⟨rfl, Or.inl rfl, _, rfl⟩) (hb hby d19_10) hr
 ·show Q_lenL_0 Z x_ s_ ks_ vs_ z_ h0 n0 _ T4.heap _
  rw [K6]
  exact ⟨rfl, N5, rfl⟩
theorem pn_com_example_countersign_countersign_Utf8 : plainName nm3 = true := by first | (simp [plainName, overriddenIn]; done) | decide +kernel
theorem d20_0 : decode prog_48_method_3_code 0 = .ok (.iconst 0, 1) := by decide +kernel
theorem d20_1 : decode prog_48_method_3_code 1 = .ok (.istore_n 1, 1) := by decide +kernel
theorem d20_2 : decode prog_48_method_3_code 2 = .ok (.iload_n 1, 1) := by decide +kernel
theorem d20_3 : decode prog_48_method_3_code 3 = .ok (.aload_n 0, 1) := by decide +kernel
theorem d20_4 : decode prog_48_method_3_code 4 = .ok (.invokevirtual 58, 3) := by decide +kernel
theorem pd_prI : parseMethodDescriptor "()I" = some ⟨[], some .int⟩ := by decide +kernel
theorem d20_7 : decode prog_48_method_3_code 7 = .ok (.if_icmp .ge 22, 3) := by decide +kernel
theorem d20_29 : decode prog_48_method_3_code 29 = .ok (.iconst 1, 1) := by decide +kernel
theorem d20_30 : decode prog_48_method_3_code 30 = .ok (.ireturn, 1) := by decide +kernel
theorem ef_ascL_0 (m : MethodId) (x_ : Addr) : entryFrame m #[(rr x_)] 2 = mkF m 0 #[vr x_, u_] [] := by first | (simp [entryFrame, mkF, argsToLocals, Value.category]; done) | rfl
def Q_ascL_0 (Z : State) (x_ : Addr) (s_ : Addr) (ks_ : ClassId) (z_ : Int32) (fm_ : Value) (h0 : Heap) (n0 : Nat) (v : Option Value) (h : Heap) (L : List Loc) : Prop := v = some (ii 1) ∧ Fr n0 L ∧ h = h0
set_option maxRecDepth 65536 in
set_option maxHeartbeats 40000000 in
theorem rm_ascL_0 (l : Launch) (Z : State) (a0 : Array Value) (hw : HW Z a0) (ws : List Jvm.Cond) (x_ : Addr) (s_ : Addr) (ks_ : ClassId) (z_ : Int32) (fm_ : Value) (h0 : Heap) (n0 : Nat) (O0 : Old Z n0 h0) (E0_ : Exa Z h0 x_ nm0) (F1_ : Fld Z h0 x_ nm0 "coder" "B" (ii 0)) (F2_ : Fld Z h0 x_ nm0 "value" "[B" (rr s_)) (A3_ : Arv Z h0 s_ ks_ .byte (0 : Int32) [] (ii 0)) (ZS4_ : Sta Z Z.heap nm0 "COMPACT_STRINGS" "Z" (.int z_)) (hz_ : ¬ (z_ = (0 : Int32))) (ZS6_ : Sta Z Z.heap nm2 "SIOOBE_FORMATTER" nm4 fm_) (hfm_ : fm_.isRef = true) :
  MFP l Z (⟨nm3, "isAscii", "(Ljava/lang/String;)Z"⟩ : MethodName) prog_48_method_3_code 2 (some .boolean) ({ frames := 2, cells := 0, slots := 0, locals := 26 } : Room) ws #[(rr x_)] h0 (Q_ascL_0 Z x_ s_ ks_ z_ fm_ h0 n0) := by
 refine MetFree.of_bodySF (plainFor_of_name pn_com_example_countersign_countersign_Utf8) hisR ?_
 intro p e s m args below meth c s₁ Bd hml0 hP hK
 obtain ⟨rfl, hZ, hh⟩ := hP
 have hx := Bd.exec
 have hby := Bd.bytes
 have hml : c.maxLocals = 2 := hml0
 have hown : s.vm.findClass nm3 = some m.cls := findClass_of_methodNamed Bd.named
 have hnm := (name_of_methodNamed Bd.named Bd.method).1
 have X0 : Stand p l e ({ frames := 2, cells := 0, slots := 0, locals := 26 } : Room) s m #[(rr x_)] below meth c s₁ [] 0 0 := Stand.of_body Bd
 have e0 : s₁.heap = h0 := by rw [← hh, Bd.state]; rfl
 have N0 := Fr.nil n0
 have kp0 : Keep h0 h0 [] := Keep.refl _ _
 have c0 : ∀ t, S_ p e below s₁ m 0 #[vr x_, u_] [] t → Steps p.tables e below (s₁.setTop (entryFrame m #[(rr x_)] 2)) t := fun t k => castTop (ef_ascL_0 m x_) k
 generalize s₁.setTop (entryFrame m #[(rr x_)] 2) = st0 at c0 ⊢
 replace c0 : Kt p e below s₁ st0 (mkF m 0 #[vr x_, u_] []) := c0
 have c1 : Kt p e below s₁ st0 (mkF m 4 #[vr x_, vi 0] [(rr x_), (ii 0)]) := fun t k => by
  refine c0 t ?_
  show S_ p e below s₁ m 0 #[vr x_, u_] [] t
  refine XS.iconst X0.here hx rfl (hb hby d20_0) ?_
  show S_ p e below s₁ m 1 #[vr x_, u_] [(ii 0)] t
  refine XS.istoreN X0.here hx rfl (hb hby d20_1) rfl (l' := #[vr x_, vi 0]) rfl ?_
  show S_ p e below s₁ m 2 #[vr x_, vi 0] [] t
  refine XS.iloadN X0.here hx rfl (hb hby d20_2) rfl ?_
  show S_ p e below s₁ m 3 #[vr x_, vi 0] [(ii 0)] t
  refine XS.aloadN X0.here hx rfl (hb hby d20_3) rfl rfl ?_
  exact k
 obtain ⟨_, T2, L2, X2, hQ2, c2⟩ := kvirt X0 hx hZ hown (w28 hw) (w29 hw) (w31 hw) (w30 hw) (w32 hw) (w5 hw) (rm_lenL_0 l Z a0 hw [] x_ s_ ks_ [] z_ h0 n0 O0 E0_ F1_ F2_ A3_ ZS4_ hz_) e0 E0_ c1 hml pd_prI [] [(ii 0)] 1 (hb hby d20_4) rfl rfl rfl rfl rfl rfl
 obtain ⟨rfl, N3q, K4⟩ := hQ2
 have N3 := Fr.app N0 N3q
 obtain ⟨fs, hr, hrun, hended, hW, hsame⟩ := X2.leave (v := some (ii 1)) (fun h => by rw [Bd.returns] at h; cases h)
 refine ⟨_, _, c2 _ ?_, hrun, hended, _, _, rfl, ?_, ⟨_, rfl⟩, hW, hsame.mono (by decide) (by decide)⟩
 ·show S_ p e below T2 m 7 #[vr x_, vi 0] [(ii 0), (ii 0)] _
  refine yC X2.here hx rfl 7 29 rfl (hb hby d20_7) rfl rfl ?_
  show S_ p e below T2 m 29 #[vr x_, vi 0] [] _
  refine XS.iconst X2.here hx rfl (hb hby d20_29) ?_
  show S_ p e below T2 m 30 #[vr x_, vi 0] [(ii 1)] _
  exact retN X2 hx (t := .boolean) Bd.returns (by simp) (hb hby d20_30) hr
 ·show Q_ascL_0 Z x_ s_ ks_ z_ fm_ h0 n0 _ T2.heap _
  rw [K4]
  exact ⟨rfl, N3, rfl⟩
theorem d20_10 : decode prog_48_method_3_code 10 = .ok (.aload_n 0, 1) := by decide +kernel
theorem d20_11 : decode prog_48_method_3_code 11 = .ok (.iload_n 1, 1) := by decide +kernel
theorem d20_12 : decode prog_48_method_3_code 12 = .ok (.invokevirtual 62, 3) := by decide +kernel
theorem pd_pIrC : parseMethodDescriptor "(I)C" = some ⟨[.int], some .char⟩ := by decide +kernel
theorem d20_15 : decode prog_48_method_3_code 15 = .ok (.sipush 128, 3) := by decide +kernel
theorem d20_18 : decode prog_48_method_3_code 18 = .ok (.if_icmp .lt 5, 3) := by decide +kernel
theorem d20_23 : decode prog_48_method_3_code 23 = .ok (.iinc 1 1, 3) := by decide +kernel
theorem d20_26 : decode prog_48_method_3_code 26 = .ok (.goto (-24), 3) := by decide +kernel
theorem d20_21 : decode prog_48_method_3_code 21 = .ok (.iconst 0, 1) := by decide +kernel
theorem d20_22 : decode prog_48_method_3_code 22 = .ok (.ireturn, 1) := by decide +kernel
theorem ef_ascL_1 (m : MethodId) (x_ : Addr) : entryFrame m #[(rr x_)] 2 = mkF m 0 #[vr x_, u_] [] := by first | (simp [entryFrame, mkF, argsToLocals, Value.category]; done) | rfl
def Q_ascL_1 (Z : State) (x_ : Addr) (s_ : Addr) (ks_ : ClassId) (z_ : Int32) (fm_ : Value) (c0_ : Int32) (h0 : Heap) (n0 : Nat) (v : Option Value) (h : Heap) (L : List Loc) : Prop := (v = some (ii 1) ∧ Fr n0 L ∧ h = h0 ∧ c0_ < (128 : Int32)) ∨ (v = some (ii 0) ∧ Fr n0 L ∧ h = h0 ∧ ¬ (c0_ < (128 : Int32)))
set_option maxRecDepth 65536 in
set_option maxHeartbeats 40000000 in
theorem rm_ascL_1 (l : Launch) (Z : State) (a0 : Array Value) (hw : HW Z a0) (ws : List Jvm.Cond) (x_ : Addr) (s_ : Addr) (ks_ : ClassId) (z_ : Int32) (fm_ : Value) (c0_ : Int32) (h0 : Heap) (n0 : Nat) (O0 : Old Z n0 h0) (E0_ : Exa Z h0 x_ nm0) (F1_ : Fld Z h0 x_ nm0 "coder" "B" (ii 0)) (F2_ : Fld Z h0 x_ nm0 "value" "[B" (rr s_)) (A3_ : Arv Z h0 s_ ks_ .byte (1 : Int32) [(.int (nar .byte (c0_.toInt8.toInt32)))] (ii 0)) (ZS4_ : Sta Z Z.heap nm0 "COMPACT_STRINGS" "Z" (.int z_)) (hz_ : ¬ (z_ = (0 : Int32))) (ZS6_ : Sta Z Z.heap nm2 "SIOOBE_FORMATTER" nm4 fm_) (hfm_ : fm_.isRef = true) (hc0_ : nar .char c0_ = c0_) (hs0_ : ¬ ((255 : Int32) < c0_)) :
  MFP l Z (⟨nm3, "isAscii", "(Ljava/lang/String;)Z"⟩ : MethodName) prog_48_method_3_code 2 (some .boolean) ({ frames := 4, cells := 0, slots := 0, locals := 53 } : Room) ws #[(rr x_)] h0 (Q_ascL_1 Z x_ s_ ks_ z_ fm_ c0_ h0 n0) := by
 refine MetFree.of_bodySF (plainFor_of_name pn_com_example_countersign_countersign_Utf8) hisR ?_
 intro p e s m args below meth c s₁ Bd hml0 hP hK
 obtain ⟨rfl, hZ, hh⟩ := hP
 have hx := Bd.exec
 have hby := Bd.bytes
 have hml : c.maxLocals = 2 := hml0
 have hown : s.vm.findClass nm3 = some m.cls := findClass_of_methodNamed Bd.named
 have hnm := (name_of_methodNamed Bd.named Bd.method).1
 have X0 : Stand p l e ({ frames := 4, cells := 0, slots := 0, locals := 53 } : Room) s m #[(rr x_)] below meth c s₁ [] 0 0 := Stand.of_body Bd
 have e0 : s₁.heap = h0 := by rw [← hh, Bd.state]; rfl
 have N0 := Fr.nil n0
 have kp0 : Keep h0 h0 [] := Keep.refl _ _
 have c0 : ∀ t, S_ p e below s₁ m 0 #[vr x_, u_] [] t → Steps p.tables e below (s₁.setTop (entryFrame m #[(rr x_)] 2)) t := fun t k => castTop (ef_ascL_1 m x_) k
 generalize s₁.setTop (entryFrame m #[(rr x_)] 2) = st0 at c0 ⊢
 replace c0 : Kt p e below s₁ st0 (mkF m 0 #[vr x_, u_] []) := c0
 have c1 : Kt p e below s₁ st0 (mkF m 4 #[vr x_, vi 0] [(rr x_), (ii 0)]) := fun t k => by
  refine c0 t ?_
  show S_ p e below s₁ m 0 #[vr x_, u_] [] t
  refine XS.iconst X0.here hx rfl (hb hby d20_0) ?_
  show S_ p e below s₁ m 1 #[vr x_, u_] [(ii 0)] t
  refine XS.istoreN X0.here hx rfl (hb hby d20_1) rfl (l' := #[vr x_, vi 0]) rfl ?_
  show S_ p e below s₁ m 2 #[vr x_, vi 0] [] t
  refine XS.iloadN X0.here hx rfl (hb hby d20_2) rfl ?_
  show S_ p e below s₁ m 3 #[vr x_, vi 0] [(ii 0)] t
  refine XS.aloadN X0.here hx rfl (hb hby d20_3) rfl rfl ?_
  exact k
 obtain ⟨_, T2, L2, X2, hQ2, c2⟩ := kvirt X0 hx hZ hown (w28 hw) (w29 hw) (w31 hw) (w30 hw) (w32 hw) (w5 hw) (rm_lenL_1 l Z a0 hw [] x_ s_ ks_ [(.int (nar .byte (c0_.toInt8.toInt32)))] z_ h0 n0 O0 E0_ F1_ F2_ A3_ ZS4_ hz_) e0 E0_ c1 hml pd_prI [] [(ii 0)] 1 (hb hby d20_4) rfl rfl rfl rfl rfl rfl
 obtain ⟨rfl, N3q, K4⟩ := hQ2
 have N3 := Fr.app N0 N3q
 have c5 : Kt p e below T2 st0 (mkF m 12 #[vr x_, vi 0] [(ii 0), (rr x_)]) := fun t k => by
  refine c2 t ?_
  show S_ p e below T2 m 7 #[vr x_, vi 0] [(ii 1), (ii 0)] t
  refine XS.icmpNo X2.here hx rfl (hb hby d20_7) rfl rfl ?_
  show S_ p e below T2 m 10 #[vr x_, vi 0] [] t
  refine XS.aloadN X2.here hx rfl (hb hby d20_10) rfl rfl ?_
  show S_ p e below T2 m 11 #[vr x_, vi 0] [(rr x_)] t
  refine XS.iloadN X2.here hx rfl (hb hby d20_11) rfl ?_
  exact k
 obtain ⟨_, T6, L6, X6, hQ6, c6⟩ := kvirt X2 hx hZ hown (w49 hw) (w50 hw) (w52 hw) (w51 hw) (w53 hw) (w5 hw) (rm_chL l Z a0 hw [] x_ s_ ks_ (1 : Int32) [(.int (nar .byte (c0_.toInt8.toInt32)))] (0 : Int32) ((nar .byte (c0_.toInt8.toInt32))) c0_ fm_ z_ h0 n0 O0 E0_ F1_ F2_ A3_ ZS6_ hfm_ ZS4_ hz_ (by decide) (by decide) rfl (own_chL hc0_ hs0_) hc0_) K4 E0_ c5 hml pd_pIrC [(ii 0)] [] 0 (hb hby d20_12) rfl rfl rfl rfl rfl rfl
 obtain ⟨rfl, N7q, K8⟩ := hQ6
 have N7 := Fr.app N3 N7q
 have c9 : Kt p e below T6 st0 (mkF m 18 #[vr x_, vi 0] [(ii 128), (.int c0_)]) := fun t k => by
  refine c6 t ?_
  show S_ p e below T6 m 15 #[vr x_, vi 0] [(.int c0_)] t
  refine XS.sipush X6.here hx rfl (hb hby d20_15) ?_
  exact k
 by_cases hc10 : c0_ < (128 : Int32)
 ·have c11 : Kt p e below T6 st0 (mkF m 4 #[vr x_, vi 1] [(rr x_), (ii 1)]) := fun t k => by
   refine c9 t ?_
   show S_ p e below T6 m 18 #[vr x_, vi 0] [(ii 128), (.int c0_)] t
   refine yC X6.here hx rfl 18 23 rfl (hb hby d20_18) rfl (tlt hc10).1 ?_
   show S_ p e below T6 m 23 #[vr x_, vi 0] [] t
   refine XS.iinc X6.here hx rfl (hb hby d20_23) rfl (l' := #[vr x_, vi 1]) rfl ?_
   show S_ p e below T6 m 26 #[vr x_, vi 1] [] t
   refine yG X6.here hx rfl 26 2 rfl (hb hby d20_26) ?_
   show S_ p e below T6 m 2 #[vr x_, vi 1] [] t
   refine XS.iloadN X6.here hx rfl (hb hby d20_2) rfl ?_
   show S_ p e below T6 m 3 #[vr x_, vi 1] [(ii 1)] t
   refine XS.aloadN X6.here hx rfl (hb hby d20_3) rfl rfl ?_
   exact k
  obtain ⟨_, T12, L12, X12, hQ12, c12⟩ := kvirt X6 hx hZ hown (w28 hw) (w29 hw) (w31 hw) (w30 hw) (w32 hw) (w5 hw) (rm_lenL_1 l Z a0 hw [] x_ s_ ks_ [(.int (nar .byte (c0_.toInt8.toInt32)))] z_ h0 n0 O0 E0_ F1_ F2_ A3_ ZS4_ hz_) K8 E0_ c11 hml pd_prI [] [(ii 1)] 1 (hb hby d20_4) rfl rfl rfl rfl rfl rfl
  obtain ⟨rfl, N13q, K14⟩ := hQ12
  have N13 := Fr.app N7 N13q
  obtain ⟨fs, hr, hrun, hended, hW, hsame⟩ := X12.leave (v := some (ii 1)) (fun h => by rw [Bd.returns] at h; cases h)
  refine ⟨_, _, c12 _ ?_, hrun, hended, _, _, rfl, ?_, ⟨_, rfl⟩, hW, hsame.mono (by decide) (by decide)⟩
  ·show S_ p e below T12 m 7 #[vr x_, vi 1] [(ii 1), (ii 1)] _
   refine yC X12.here hx rfl 7 29 rfl (hb hby d20_7) rfl rfl ?_
   show S_ p e below T12 m 29 #[vr x_, vi 1] [] _
   refine XS.iconst X12.here hx rfl (hb hby d20_29) ?_
   show S_ p e below T12 m 30 #[vr x_, vi 1] [(ii 1)] _
   exact retN X12 hx (t := .boolean) Bd.returns (by simp) (hb hby d20_30) hr
  ·show Q_ascL_1 Z x_ s_ ks_ z_ fm_ c0_ h0 n0 _ T12.heap _
   rw [K14]
   exact (Or.inl ⟨rfl, N13, rfl, hc10⟩)
 ·obtain ⟨fs, hr, hrun, hended, hW, hsame⟩ := X6.leave (v := some (ii 0)) (fun h => by rw [Bd.returns] at h; cases h)
  refine ⟨_, _, c9 _ ?_, hrun, hended, _, _, rfl, ?_, ⟨_, rfl⟩, hW, hsame.mono (by decide) (by decide)⟩
  ·show S_ p e below T6 m 18 #[vr x_, vi 0] [(ii 128), (.int c0_)] _
   refine XS.icmpNo X6.here hx rfl (hb hby d20_18) rfl (flt hc10).1 ?_
   show S_ p e below T6 m 21 #[vr x_, vi 0] [] _
   refine XS.iconst X6.here hx rfl (hb hby d20_21) ?_
   show S_ p e below T6 m 22 #[vr x_, vi 0] [(ii 0)] _
   exact retN X6 hx (t := .boolean) Bd.returns (by simp) (hb hby d20_22) hr
  ·show Q_ascL_1 Z x_ s_ ks_ z_ fm_ c0_ h0 n0 _ T6.heap _
   rw [K8]
   exact (Or.inr (⟨rfl, N7, rfl, (fun q => hc10 (q))⟩))
theorem ef_ascU_1 (m : MethodId) (x_ : Addr) : entryFrame m #[(rr x_)] 2 = mkF m 0 #[vr x_, u_] [] := by first | (simp [entryFrame, mkF, argsToLocals, Value.category]; done) | rfl
def Q_ascU_1 (Z : State) (x_ : Addr) (s_ : Addr) (ks_ : ClassId) (z_ : Int32) (fm_ : Value) (c0_ : Int32) (h0 : Heap) (n0 : Nat) (v : Option Value) (h : Heap) (L : List Loc) : Prop := (v = some (ii 1) ∧ Fr n0 L ∧ h = h0 ∧ c0_ < (128 : Int32)) ∨ (v = some (ii 0) ∧ Fr n0 L ∧ h = h0 ∧ ¬ (c0_ < (128 : Int32)))
set_option maxRecDepth 65536 in
set_option maxHeartbeats 40000000 in
theorem rm_ascU_1 (l : Launch) (Z : State) (a0 : Array Value) (hw : HW Z a0) (ws : List Jvm.Cond) (x_ : Addr) (s_ : Addr) (ks_ : ClassId) (z_ : Int32) (fm_ : Value) (c0_ : Int32) (h0 : Heap) (n0 : Nat) (O0 : Old Z n0 h0) (E0_ : Exa Z h0 x_ nm0) (F1_ : Fld Z h0 x_ nm0 "coder" "B" (ii 1)) (F2_ : Fld Z h0 x_ nm0 "value" "[B" (rr s_)) (A3_ : Arv Z h0 s_ ks_ .byte (2 : Int32) [(.int (nar .byte ((c0_ >>> ((0 : Int32) &&& 31)).toInt8.toInt32))), (.int (nar .byte ((c0_ >>> ((8 : Int32) &&& 31)).toInt8.toInt32)))] (ii 0)) (ZS4_ : Sta Z Z.heap nm0 "COMPACT_STRINGS" "Z" (.int z_)) (hz_ : ¬ (z_ = (0 : Int32))) (ZS6_ : Sta Z Z.heap nm2 "SIOOBE_FORMATTER" nm4 fm_) (hfm_ : fm_.isRef = true) (hc0_ : nar .char c0_ = c0_) (ZS9_ : Sta Z Z.heap nm1 "$assertionsDisabled" "Z" (ii 1)) (ZS10_ : Sta Z Z.heap nm1 "HI_BYTE_SHIFT" "I" (ii 0)) (ZS11_ : Sta Z Z.heap nm1 "LO_BYTE_SHIFT" "I" (ii 8)) :
  MFP l Z (⟨nm3, "isAscii", "(Ljava/lang/String;)Z"⟩ : MethodName) prog_48_method_3_code 2 (some .boolean) ({ frames := 5, cells := 0, slots := 0, locals := 66 } : Room) ws #[(rr x_)] h0 (Q_ascU_1 Z x_ s_ ks_ z_ fm_ c0_ h0 n0) := by
 refine MetFree.of_bodySF (plainFor_of_name pn_com_example_countersign_countersign_Utf8) hisR ?_
 intro p e s m args below meth c s₁ Bd hml0 hP hK
 obtain ⟨rfl, hZ, hh⟩ := hP
 have hx := Bd.exec
 have hby := Bd.bytes
 have hml : c.maxLocals = 2 := hml0
 have hown : s.vm.findClass nm3 = some m.cls := findClass_of_methodNamed Bd.named
 have hnm := (name_of_methodNamed Bd.named Bd.method).1
 have X0 : Stand p l e ({ frames := 5, cells := 0, slots := 0, locals := 66 } : Room) s m #[(rr x_)] below meth c s₁ [] 0 0 := Stand.of_body Bd
 have e0 : s₁.heap = h0 := by rw [← hh, Bd.state]; rfl
 have N0 := Fr.nil n0
 have kp0 : Keep h0 h0 [] := Keep.refl _ _
 have c0 : ∀ t, S_ p e below s₁ m 0 #[vr x_, u_] [] t → Steps p.tables e below (s₁.setTop (entryFrame m #[(rr x_)] 2)) t := fun t k => castTop (ef_ascU_1 m x_) k
 generalize s₁.setTop (entryFrame m #[(rr x_)] 2) = st0 at c0 ⊢
 replace c0 : Kt p e below s₁ st0 (mkF m 0 #[vr x_, u_] []) := c0
 have c1 : Kt p e below s₁ st0 (mkF m 4 #[vr x_, vi 0] [(rr x_), (ii 0)]) := fun t k => by
  refine c0 t ?_
  show S_ p e below s₁ m 0 #[vr x_, u_] [] t
  refine XS.iconst X0.here hx rfl (hb hby d20_0) ?_
  show S_ p e below s₁ m 1 #[vr x_, u_] [(ii 0)] t
  refine XS.istoreN X0.here hx rfl (hb hby d20_1) rfl (l' := #[vr x_, vi 0]) rfl ?_
  show S_ p e below s₁ m 2 #[vr x_, vi 0] [] t
  refine XS.iloadN X0.here hx rfl (hb hby d20_2) rfl ?_
  show S_ p e below s₁ m 3 #[vr x_, vi 0] [(ii 0)] t
  refine XS.aloadN X0.here hx rfl (hb hby d20_3) rfl rfl ?_
  exact k
 obtain ⟨_, T2, L2, X2, hQ2, c2⟩ := kvirt X0 hx hZ hown (w28 hw) (w29 hw) (w31 hw) (w30 hw) (w32 hw) (w5 hw) (rm_lenU_1 l Z a0 hw [] x_ s_ ks_ [(.int (nar .byte ((c0_ >>> ((0 : Int32) &&& 31)).toInt8.toInt32))), (.int (nar .byte ((c0_ >>> ((8 : Int32) &&& 31)).toInt8.toInt32)))] z_ h0 n0 O0 E0_ F1_ F2_ A3_ ZS4_ hz_) e0 E0_ c1 hml pd_prI [] [(ii 0)] 1 (hb hby d20_4) rfl rfl rfl rfl rfl rfl
 obtain ⟨rfl, N3q, K4⟩ := hQ2
 have N3 := Fr.app N0 N3q
 have c5 : Kt p e below T2 st0 (mkF m 12 #[vr x_, vi 0] [(ii 0), (rr x_)]) := fun t k => by
  refine c2 t ?_
  show S_ p e below T2 m 7 #[vr x_, vi 0] [(ii 1), (ii 0)] t
  refine XS.icmpNo X2.here hx rfl (hb hby d20_7) rfl rfl ?_
  show S_ p e below T2 m 10 #[vr x_, vi 0] [] t
  refine XS.aloadN X2.here hx rfl (hb hby d20_10) rfl rfl ?_
  show S_ p e below T2 m 11 #[vr x_, vi 0] [(rr x_)] t
  refine XS.iloadN X2.here hx rfl (hb hby d20_11) rfl ?_
  exact k
 obtain ⟨_, T6, L6, X6, hQ6, c6⟩ := kvirt X2 hx hZ hown (w49 hw) (w50 hw) (w52 hw) (w51 hw) (w53 hw) (w5 hw) (rm_chU_1 l Z a0 hw [] x_ s_ ks_ [(.int (nar .byte ((c0_ >>> ((0 : Int32) &&& 31)).toInt8.toInt32))), (.int (nar .byte ((c0_ >>> ((8 : Int32) &&& 31)).toInt8.toInt32)))] (0 : Int32) ((nar .byte ((c0_ >>> ((0 : Int32) &&& 31)).toInt8.toInt32))) ((nar .byte ((c0_ >>> ((8 : Int32) &&& 31)).toInt8.toInt32))) c0_ fm_ z_ h0 n0 O0 E0_ F1_ F2_ A3_ ZS6_ hfm_ ZS4_ hz_ ZS9_ ZS10_ ZS11_ (by decide) (by decide) (by decide) (by decide) (by decide) (by decide) rfl rfl (own_get16 hc0_) hc0_) K4 E0_ c5 hml pd_pIrC [(ii 0)] [] 0 (hb hby d20_12) rfl rfl rfl rfl rfl rfl
 obtain ⟨rfl, N7q, K8⟩ := hQ6
 have N7 := Fr.app N3 N7q
 have c9 : Kt p e below T6 st0 (mkF m 18 #[vr x_, vi 0] [(ii 128), (.int c0_)]) := fun t k => by
  refine c6 t ?_
  show S_ p e below T6 m 15 #[vr x_, vi 0] [(.int c0_)] t
  refine XS.sipush X6.here hx rfl (hb hby d20_15) ?_
  exact k
 by_cases hc10 : c0_ < (128 : Int32)
 ·have c11 : Kt p e below T6 st0 (mkF m 4 #[vr x_, vi 1] [(rr x_), (ii 1)]) := fun t k => by
   refine c9 t ?_
   show S_ p e below T6 m 18 #[vr x_, vi 0] [(ii 128), (.int c0_)] t
   refine yC X6.here hx rfl 18 23 rfl (hb hby d20_18) rfl (tlt hc10).1 ?_
   show S_ p e below T6 m 23 #[vr x_, vi 0] [] t
   refine XS.iinc X6.here hx rfl (hb hby d20_23) rfl (l' := #[vr x_, vi 1]) rfl ?_
   show S_ p e below T6 m 26 #[vr x_, vi 1] [] t
   refine yG X6.here hx rfl 26 2 rfl (hb hby d20_26) ?_
   show S_ p e below T6 m 2 #[vr x_, vi 1] [] t
   refine XS.iloadN X6.here hx rfl (hb hby d20_2) rfl ?_
   show S_ p e below T6 m 3 #[vr x_, vi 1] [(ii 1)] t
   refine XS.aloadN X6.here hx rfl (hb hby d20_3) rfl rfl ?_
   exact k
  obtain ⟨_, T12, L12, X12, hQ12, c12⟩ := kvirt X6 hx hZ hown (w28 hw) (w29 hw) (w31 hw) (w30 hw) (w32 hw) (w5 hw) (rm_lenU_1 l Z a0 hw [] x_ s_ ks_ [(.int (nar .byte ((c0_ >>> ((0 : Int32) &&& 31)).toInt8.toInt32))), (.int (nar .byte ((c0_ >>> ((8 : Int32) &&& 31)).toInt8.toInt32)))] z_ h0 n0 O0 E0_ F1_ F2_ A3_ ZS4_ hz_) K8 E0_ c11 hml pd_prI [] [(ii 1)] 1 (hb hby d20_4) rfl rfl rfl rfl rfl rfl
  obtain ⟨rfl, N13q, K14⟩ := hQ12
  have N13 := Fr.app N7 N13q
  obtain ⟨fs, hr, hrun, hended, hW, hsame⟩ := X12.leave (v := some (ii 1)) (fun h => by rw [Bd.returns] at h; cases h)
  refine ⟨_, _, c12 _ ?_, hrun, hended, _, _, rfl, ?_, ⟨_, rfl⟩, hW, hsame.mono (by decide) (by decide)⟩
  ·show S_ p e below T12 m 7 #[vr x_, vi 1] [(ii 1), (ii 1)] _
   refine yC X12.here hx rfl 7 29 rfl (hb hby d20_7) rfl rfl ?_
   show S_ p e below T12 m 29 #[vr x_, vi 1] [] _
   refine XS.iconst X12.here hx rfl (hb hby d20_29) ?_
   show S_ p e below T12 m 30 #[vr x_, vi 1] [(ii 1)] _
   exact retN X12 hx (t := .boolean) Bd.returns (by simp) (hb hby d20_30) hr
  ·show Q_ascU_1 Z x_ s_ ks_ z_ fm_ c0_ h0 n0 _ T12.heap _
   rw [K14]
   exact (Or.inl ⟨rfl, N13, rfl, hc10⟩)
 ·obtain ⟨fs, hr, hrun, hended, hW, hsame⟩ := X6.leave (v := some (ii 0)) (fun h => by rw [Bd.returns] at h; cases h)
  refine ⟨_, _, c9 _ ?_, hrun, hended, _, _, rfl, ?_, ⟨_, rfl⟩, hW, hsame.mono (by decide) (by decide)⟩
  ·show S_ p e below T6 m 18 #[vr x_, vi 0] [(ii 128), (.int c0_)] _
   refine XS.icmpNo X6.here hx rfl (hb hby d20_18) rfl (flt hc10).1 ?_
   show S_ p e below T6 m 21 #[vr x_, vi 0] [] _
   refine XS.iconst X6.here hx rfl (hb hby d20_21) ?_
   show S_ p e below T6 m 22 #[vr x_, vi 0] [(ii 0)] _
   exact retN X6 hx (t := .boolean) Bd.returns (by simp) (hb hby d20_22) hr
  ·show Q_ascU_1 Z x_ s_ ks_ z_ fm_ c0_ h0 n0 _ T6.heap _
   rw [K8]
   exact (Or.inr (⟨rfl, N7, rfl, (fun q => hc10 (q))⟩))
theorem ef_ascL_2 (m : MethodId) (x_ : Addr) : entryFrame m #[(rr x_)] 2 = mkF m 0 #[vr x_, u_] [] := by first | (simp [entryFrame, mkF, argsToLocals, Value.category]; done) | rfl
def Q_ascL_2 (Z : State) (x_ : Addr) (s_ : Addr) (ks_ : ClassId) (z_ : Int32) (fm_ : Value) (c0_ : Int32) (c1_ : Int32) (h0 : Heap) (n0 : Nat) (v : Option Value) (h : Heap) (L : List Loc) : Prop := (v = some (ii 1) ∧ Fr n0 L ∧ h = h0 ∧ c0_ < (128 : Int32) ∧ c1_ < (128 : Int32)) ∨ (v = some (ii 0) ∧ Fr n0 L ∧ h = h0 ∧ ¬ (c0_ < (128 : Int32) ∧ c1_ < (128 : Int32)))
set_option maxRecDepth 65536 in
set_option maxHeartbeats 40000000 in
theorem rm_ascL_2 (l : Launch) (Z : State) (a0 : Array Value) (hw : HW Z a0) (ws : List Jvm.Cond) (x_ : Addr) (s_ : Addr) (ks_ : ClassId) (z_ : Int32) (fm_ : Value) (c0_ : Int32) (c1_ : Int32) (h0 : Heap) (n0 : Nat) (O0 : Old Z n0 h0) (E0_ : Exa Z h0 x_ nm0) (F1_ : Fld Z h0 x_ nm0 "coder" "B" (ii 0)) (F2_ : Fld Z h0 x_ nm0 "value" "[B" (rr s_)) (A3_ : Arv Z h0 s_ ks_ .byte (2 : Int32) [(.int (nar .byte (c0_.toInt8.toInt32))), (.int (nar .byte (c1_.toInt8.toInt32)))] (ii 0)) (ZS4_ : Sta Z Z.heap nm0 "COMPACT_STRINGS" "Z" (.int z_)) (hz_ : ¬ (z_ = (0 : Int32))) (ZS6_ : Sta Z Z.heap nm2 "SIOOBE_FORMATTER" nm4 fm_) (hfm_ : fm_.isRef = true) (hc0_ : nar .char c0_ = c0_) (hc1_ : nar .char c1_ = c1_) (hs0_ : ¬ ((255 : Int32) < c0_)) (hs1_ : ¬ ((255 : Int32) < c1_)) :
  MFP l Z (⟨nm3, "isAscii", "(Ljava/lang/String;)Z"⟩ : MethodName) prog_48_method_3_code 2 (some .boolean) ({ frames := 4, cells := 0, slots := 0, locals := 53 } : Room) ws #[(rr x_)] h0 (Q_ascL_2 Z x_ s_ ks_ z_ fm_ c0_ c1_ h0 n0) := by
 refine MetFree.of_bodySF (plainFor_of_name pn_com_example_countersign_countersign_Utf8) hisR ?_
 intro p e s m args below meth c s₁ Bd hml0 hP hK
 obtain ⟨rfl, hZ, hh⟩ := hP
 have hx := Bd.exec
 have hby := Bd.bytes
 have hml : c.maxLocals = 2 := hml0
 have hown : s.vm.findClass nm3 = some m.cls := findClass_of_methodNamed Bd.named
 have hnm := (name_of_methodNamed Bd.named Bd.method).1
 have X0 : Stand p l e ({ frames := 4, cells := 0, slots := 0, locals := 53 } : Room) s m #[(rr x_)] below meth c s₁ [] 0 0 := Stand.of_body Bd
 have e0 : s₁.heap = h0 := by rw [← hh, Bd.state]; rfl
 have N0 := Fr.nil n0
 have kp0 : Keep h0 h0 [] := Keep.refl _ _
 have c0 : ∀ t, S_ p e below s₁ m 0 #[vr x_, u_] [] t → Steps p.tables e below (s₁.setTop (entryFrame m #[(rr x_)] 2)) t := fun t k => castTop (ef_ascL_2 m x_) k
 generalize s₁.setTop (entryFrame m #[(rr x_)] 2) = st0 at c0 ⊢
 replace c0 : Kt p e below s₁ st0 (mkF m 0 #[vr x_, u_] []) := c0
 have c1 : Kt p e below s₁ st0 (mkF m 4 #[vr x_, vi 0] [(rr x_), (ii 0)]) := fun t k => by
  refine c0 t ?_
  show S_ p e below s₁ m 0 #[vr x_, u_] [] t
  refine XS.iconst X0.here hx rfl (hb hby d20_0) ?_
  show S_ p e below s₁ m 1 #[vr x_, u_] [(ii 0)] t
  refine XS.istoreN X0.here hx rfl (hb hby d20_1) rfl (l' := #[vr x_, vi 0]) rfl ?_
  show S_ p e below s₁ m 2 #[vr x_, vi 0] [] t
  refine XS.iloadN X0.here hx rfl (hb hby d20_2) rfl ?_
  show S_ p e below s₁ m 3 #[vr x_, vi 0] [(ii 0)] t
  refine XS.aloadN X0.here hx rfl (hb hby d20_3) rfl rfl ?_
  exact k
 obtain ⟨_, T2, L2, X2, hQ2, c2⟩ := kvirt X0 hx hZ hown (w28 hw) (w29 hw) (w31 hw) (w30 hw) (w32 hw) (w5 hw) (rm_lenL_2 l Z a0 hw [] x_ s_ ks_ [(.int (nar .byte (c0_.toInt8.toInt32))), (.int (nar .byte (c1_.toInt8.toInt32)))] z_ h0 n0 O0 E0_ F1_ F2_ A3_ ZS4_ hz_) e0 E0_ c1 hml pd_prI [] [(ii 0)] 1 (hb hby d20_4) rfl rfl rfl rfl rfl rfl
 obtain ⟨rfl, N3q, K4⟩ := hQ2
 have N3 := Fr.app N0 N3q
 have c5 : Kt p e below T2 st0 (mkF m 12 #[vr x_, vi 0] [(ii 0), (rr x_)]) := fun t k => by
  refine c2 t ?_
  show S_ p e below T2 m 7 #[vr x_, vi 0] [(ii 2), (ii 0)] t
  refine XS.icmpNo X2.here hx rfl (hb hby d20_7) rfl rfl ?_
  show S_ p e below T2 m 10 #[vr x_, vi 0] [] t
  refine XS.aloadN X2.here hx rfl (hb hby d20_10) rfl rfl ?_
  show S_ p e below T2 m 11 #[vr x_, vi 0] [(rr x_)] t
  refine XS.iloadN X2.here hx rfl (hb hby d20_11) rfl ?_
  exact k
 obtain ⟨_, T6, L6, X6, hQ6, c6⟩ := kvirt X2 hx hZ hown (w49 hw) (w50 hw) (w52 hw) (w51 hw) (w53 hw) (w5 hw) (rm_chL l Z a0 hw [] x_ s_ ks_ (2 : Int32) [(.int (nar .byte (c0_.toInt8.toInt32))), (.int (nar .byte (c1_.toInt8.toInt32)))] (0 : Int32) ((nar .byte (c0_.toInt8.toInt32))) c0_ fm_ z_ h0 n0 O0 E0_ F1_ F2_ A3_ ZS6_ hfm_ ZS4_ hz_ (by decide) (by decide) rfl (own_chL hc0_ hs0_) hc0_) K4 E0_ c5 hml pd_pIrC [(ii 0)] [] 0 (hb hby d20_12) rfl rfl rfl rfl rfl rfl
 obtain ⟨rfl, N7q, K8⟩ := hQ6
 have N7 := Fr.app N3 N7q
 have c9 : Kt p e below T6 st0 (mkF m 18 #[vr x_, vi 0] [(ii 128), (.int c0_)]) := fun t k => by
  refine c6 t ?_
  show S_ p e below T6 m 15 #[vr x_, vi 0] [(.int c0_)] t
  refine XS.sipush X6.here hx rfl (hb hby d20_15) ?_
  exact k
 by_cases hc10 : c0_ < (128 : Int32)
 ·have c11 : Kt p e below T6 st0 (mkF m 4 #[vr x_, vi 1] [(rr x_), (ii 1)]) := fun t k => by
   refine c9 t ?_
   show S_ p e below T6 m 18 #[vr x_, vi 0] [(ii 128), (.int c0_)] t
   refine yC X6.here hx rfl 18 23 rfl (hb hby d20_18) rfl (tlt hc10).1 ?_
   show S_ p e below T6 m 23 #[vr x_, vi 0] [] t
   refine XS.iinc X6.here hx rfl (hb hby d20_23) rfl (l' := #[vr x_, vi 1]) rfl ?_
   show S_ p e below T6 m 26 #[vr x_, vi 1] [] t
   refine yG X6.here hx rfl 26 2 rfl (hb hby d20_26) ?_
   show S_ p e below T6 m 2 #[vr x_, vi 1] [] t
   refine XS.iloadN X6.here hx rfl (hb hby d20_2) rfl ?_
   show S_ p e below T6 m 3 #[vr x_, vi 1] [(ii 1)] t
   refine XS.aloadN X6.here hx rfl (hb hby d20_3) rfl rfl ?_
   exact k
  obtain ⟨_, T12, L12, X12, hQ12, c12⟩ := kvirt X6 hx hZ hown (w28 hw) (w29 hw) (w31 hw) (w30 hw) (w32 hw) (w5 hw) (rm_lenL_2 l Z a0 hw [] x_ s_ ks_ [(.int (nar .byte (c0_.toInt8.toInt32))), (.int (nar .byte (c1_.toInt8.toInt32)))] z_ h0 n0 O0 E0_ F1_ F2_ A3_ ZS4_ hz_) K8 E0_ c11 hml pd_prI [] [(ii 1)] 1 (hb hby d20_4) rfl rfl rfl rfl rfl rfl
  obtain ⟨rfl, N13q, K14⟩ := hQ12
  have N13 := Fr.app N7 N13q
  have c15 : Kt p e below T12 st0 (mkF m 12 #[vr x_, vi 1] [(ii 1), (rr x_)]) := fun t k => by
   refine c12 t ?_
   show S_ p e below T12 m 7 #[vr x_, vi 1] [(ii 2), (ii 1)] t
   refine XS.icmpNo X12.here hx rfl (hb hby d20_7) rfl rfl ?_
   show S_ p e below T12 m 10 #[vr x_, vi 1] [] t
   refine XS.aloadN X12.here hx rfl (hb hby d20_10) rfl rfl ?_
   show S_ p e below T12 m 11 #[vr x_, vi 1] [(rr x_)] t
   refine XS.iloadN X12.here hx rfl (hb hby d20_11) rfl ?_
   exact k
  obtain ⟨_, T16, L16, X16, hQ16, c16⟩ := kvirt X12 hx hZ hown (w49 hw) (w50 hw) (w52 hw) (w51 hw) (w53 hw) (w5 hw) (rm_chL l Z a0 hw [] x_ s_ ks_ (2 : Int32) [(.int (nar .byte (c0_.toInt8.toInt32))), (.int (nar .byte (c1_.toInt8.toInt32)))] (1 : Int32) ((nar .byte (c1_.toInt8.toInt32))) c1_ fm_ z_ h0 n0 O0 E0_ F1_ F2_ A3_ ZS6_ hfm_ ZS4_ hz_ (by decide) (by decide) rfl (own_chL hc1_ hs1_) hc1_) K14 E0_ c15 hml pd_pIrC [(ii 1)] [] 0 (hb hby d20_12) rfl rfl rfl rfl rfl rfl
  obtain ⟨rfl, N17q, K18⟩ := hQ16
  have N17 := Fr.app N13 N17q
  have c19 : Kt p e below T16 st0 (mkF m 18 #[vr x_, vi 1] [(ii 128), (.int c1_)]) := fun t k => by
   refine c16 t ?_
   show S_ p e below T16 m 15 #[vr x_, vi 1] [(.int c1_)] t
   refine XS.sipush X16.here hx rfl (hb hby d20_15) ?_
   exact k
  by_cases hc20 : c1_ < (128 : Int32)
  ·have c21 : Kt p e below T16 st0 (mkF m 4 #[vr x_, vi 2] [(rr x_), (ii 2)]) := fun t k => by
    refine c19 t ?_
    show S_ p e below T16 m 18 #[vr x_, vi 1] [(ii 128), (.int c1_)] t
    refine yC X16.here hx rfl 18 23 rfl (hb hby d20_18) rfl (tlt hc20).1 ?_
    show S_ p e below T16 m 23 #[vr x_, vi 1] [] t
    refine XS.iinc X16.here hx rfl (hb hby d20_23) rfl (l' := #[vr x_, vi 2]) rfl ?_
    show S_ p e below T16 m 26 #[vr x_, vi 2] [] t
    refine yG X16.here hx rfl 26 2 rfl (hb hby d20_26) ?_
    show S_ p e below T16 m 2 #[vr x_, vi 2] [] t
    refine XS.iloadN X16.here hx rfl (hb hby d20_2) rfl ?_
    show S_ p e below T16 m 3 #[vr x_, vi 2] [(ii 2)] t
    refine XS.aloadN X16.here hx rfl (hb hby d20_3) rfl rfl ?_
    exact k
   obtain ⟨_, T22, L22, X22, hQ22, c22⟩ := kvirt X16 hx hZ hown (w28 hw) (w29 hw) (w31 hw) (w30 hw) (w32 hw) (w5 hw) (rm_lenL_2 l Z a0 hw [] x_ s_ ks_ [(.int (nar .byte (c0_.toInt8.toInt32))), (.int (nar .byte (c1_.toInt8.toInt32)))] z_ h0 n0 O0 E0_ F1_ F2_ A3_ ZS4_ hz_) K18 E0_ c21 hml pd_prI [] [(ii 2)] 1 (hb hby d20_4) rfl rfl rfl rfl rfl rfl
   obtain ⟨rfl, N23q, K24⟩ := hQ22
   have N23 := Fr.app N17 N23q
   obtain ⟨fs, hr, hrun, hended, hW, hsame⟩ := X22.leave (v := some (ii 1)) (fun h => by rw [Bd.returns] at h; cases h)
   refine ⟨_, _, c22 _ ?_, hrun, hended, _, _, rfl, ?_, ⟨_, rfl⟩, hW, hsame.mono (by decide) (by decide)⟩
   ·show S_ p e below T22 m 7 #[vr x_, vi 2] [(ii 2), (ii 2)] _
    refine yC X22.here hx rfl 7 29 rfl (hb hby d20_7) rfl rfl ?_
    show S_ p e below T22 m 29 #[vr x_, vi 2] [] _
    refine XS.iconst X22.here hx rfl (hb hby d20_29) ?_
    show S_ p e below T22 m 30 #[vr x_, vi 2] [(ii 1)] _
    exact retN X22 hx (t := .boolean) Bd.returns (by simp) (hb hby d20_30) hr
   ·show Q_ascL_2 Z x_ s_ ks_ z_ fm_ c0_ c1_ h0 n0 _ T22.heap _
    rw [K24]
    exact (Or.inl ⟨rfl, N23, rfl, hc10, hc20⟩)
  ·obtain ⟨fs, hr, hrun, hended, hW, hsame⟩ := X16.leave (v := some (ii 0)) (fun h => by rw [Bd.returns] at h; cases h)
   refine ⟨_, _, c19 _ ?_, hrun, hended, _, _, rfl, ?_, ⟨_, rfl⟩, hW, hsame.mono (by decide) (by decide)⟩
   ·show S_ p e below T16 m 18 #[vr x_, vi 1] [(ii 128), (.int c1_)] _
    refine XS.icmpNo X16.here hx rfl (hb hby d20_18) rfl (flt hc20).1 ?_
    show S_ p e below T16 m 21 #[vr x_, vi 1] [] _
    refine XS.iconst X16.here hx rfl (hb hby d20_21) ?_
    show S_ p e below T16 m 22 #[vr x_, vi 1] [(ii 0)] _
    exact retN X16 hx (t := .boolean) Bd.returns (by simp) (hb hby d20_22) hr
   ·show Q_ascL_2 Z x_ s_ ks_ z_ fm_ c0_ c1_ h0 n0 _ T16.heap _
    rw [K18]
    exact (Or.inr (⟨rfl, N17, rfl, (fun q => hc20 (q.2))⟩))
 ·obtain ⟨fs, hr, hrun, hended, hW, hsame⟩ := X6.leave (v := some (ii 0)) (fun h => by rw [Bd.returns] at h; cases h)
  refine ⟨_, _, c9 _ ?_, hrun, hended, _, _, rfl, ?_, ⟨_, rfl⟩, hW, hsame.mono (by decide) (by decide)⟩
  ·show S_ p e below T6 m 18 #[vr x_, vi 0] [(ii 128), (.int c0_)] _
   refine XS.icmpNo X6.here hx rfl (hb hby d20_18) rfl (flt hc10).1 ?_
   show S_ p e below T6 m 21 #[vr x_, vi 0] [] _
   refine XS.iconst X6.here hx rfl (hb hby d20_21) ?_
   show S_ p e below T6 m 22 #[vr x_, vi 0] [(ii 0)] _
   exact retN X6 hx (t := .boolean) Bd.returns (by simp) (hb hby d20_22) hr
  ·show Q_ascL_2 Z x_ s_ ks_ z_ fm_ c0_ c1_ h0 n0 _ T6.heap _
   rw [K8]
   exact (Or.inr (⟨rfl, N7, rfl, (fun q => hc10 (q.1))⟩))
theorem ef_ascU_2 (m : MethodId) (x_ : Addr) : entryFrame m #[(rr x_)] 2 = mkF m 0 #[vr x_, u_] [] := by first | (simp [entryFrame, mkF, argsToLocals, Value.category]; done) | rfl
def Q_ascU_2 (Z : State) (x_ : Addr) (s_ : Addr) (ks_ : ClassId) (z_ : Int32) (fm_ : Value) (c0_ : Int32) (c1_ : Int32) (h0 : Heap) (n0 : Nat) (v : Option Value) (h : Heap) (L : List Loc) : Prop := (v = some (ii 1) ∧ Fr n0 L ∧ h = h0 ∧ c0_ < (128 : Int32) ∧ c1_ < (128 : Int32)) ∨ (v = some (ii 0) ∧ Fr n0 L ∧ h = h0 ∧ ¬ (c0_ < (128 : Int32) ∧ c1_ < (128 : Int32)))
set_option maxRecDepth 65536 in
set_option maxHeartbeats 40000000 in
theorem rm_ascU_2 (l : Launch) (Z : State) (a0 : Array Value) (hw : HW Z a0) (ws : List Jvm.Cond) (x_ : Addr) (s_ : Addr) (ks_ : ClassId) (z_ : Int32) (fm_ : Value) (c0_ : Int32) (c1_ : Int32) (h0 : Heap) (n0 : Nat) (O0 : Old Z n0 h0) (E0_ : Exa Z h0 x_ nm0) (F1_ : Fld Z h0 x_ nm0 "coder" "B" (ii 1)) (F2_ : Fld Z h0 x_ nm0 "value" "[B" (rr s_)) (A3_ : Arv Z h0 s_ ks_ .byte (4 : Int32) [(.int (nar .byte ((c0_ >>> ((0 : Int32) &&& 31)).toInt8.toInt32))), (.int (nar .byte ((c0_ >>> ((8 : Int32) &&& 31)).toInt8.toInt32))), (.int (nar .byte ((c1_ >>> ((0 : Int32) &&& 31)).toInt8.toInt32))), (.int (nar .byte ((c1_ >>> ((8 : Int32) &&& 31)).toInt8.toInt32)))] (ii 0)) (ZS4_ : Sta Z Z.heap nm0 "COMPACT_STRINGS" "Z" (.int z_)) (hz_ : ¬ (z_ = (0 : Int32))) (ZS6_ : Sta Z Z.heap nm2 "SIOOBE_FORMATTER" nm4 fm_) (hfm_ : fm_.isRef = true) (hc0_ : nar .char c0_ = c0_) (hc1_ : nar .char c1_ = c1_) (ZS10_ : Sta Z Z.heap nm1 "$assertionsDisabled" "Z" (ii 1)) (ZS11_ : Sta Z Z.heap nm1 "HI_BYTE_SHIFT" "I" (ii 0)) (ZS12_ : Sta Z Z.heap nm1 "LO_BYTE_SHIFT" "I" (ii 8)) :
  MFP l Z (⟨nm3, "isAscii", "(Ljava/lang/String;)Z"⟩ : MethodName) prog_48_method_3_code 2 (some .boolean) ({ frames := 5, cells := 0, slots := 0, locals := 66 } : Room) ws #[(rr x_)] h0 (Q_ascU_2 Z x_ s_ ks_ z_ fm_ c0_ c1_ h0 n0) := by
 refine MetFree.of_bodySF (plainFor_of_name pn_com_example_countersign_countersign_Utf8) hisR ?_
 intro p e s m args below meth c s₁ Bd hml0 hP hK
 obtain ⟨rfl, hZ, hh⟩ := hP
 have hx := Bd.exec
 have hby := Bd.bytes
 have hml : c.maxLocals = 2 := hml0
 have hown : s.vm.findClass nm3 = some m.cls := findClass_of_methodNamed Bd.named
 have hnm := (name_of_methodNamed Bd.named Bd.method).1
 have X0 : Stand p l e ({ frames := 5, cells := 0, slots := 0, locals := 66 } : Room) s m #[(rr x_)] below meth c s₁ [] 0 0 := Stand.of_body Bd
 have e0 : s₁.heap = h0 := by rw [← hh, Bd.state]; rfl
 have N0 := Fr.nil n0
 have kp0 : Keep h0 h0 [] := Keep.refl _ _
 have c0 : ∀ t, S_ p e below s₁ m 0 #[vr x_, u_] [] t → Steps p.tables e below (s₁.setTop (entryFrame m #[(rr x_)] 2)) t := fun t k => castTop (ef_ascU_2 m x_) k
 generalize s₁.setTop (entryFrame m #[(rr x_)] 2) = st0 at c0 ⊢
 replace c0 : Kt p e below s₁ st0 (mkF m 0 #[vr x_, u_] []) := c0
 have c1 : Kt p e below s₁ st0 (mkF m 4 #[vr x_, vi 0] [(rr x_), (ii 0)]) := fun t k => by
  refine c0 t ?_
  show S_ p e below s₁ m 0 #[vr x_, u_] [] t
  refine XS.iconst X0.here hx rfl (hb hby d20_0) ?_
  show S_ p e below s₁ m 1 #[vr x_, u_] [(ii 0)] t
  refine XS.istoreN X0.here hx rfl (hb hby d20_1) rfl (l' := #[vr x_, vi 0]) rfl ?_
  show S_ p e below s₁ m 2 #[vr x_, vi 0] [] t
  refine XS.iloadN X0.here hx rfl (hb hby d20_2) rfl ?_
  show S_ p e below s₁ m 3 #[vr x_, vi 0] [(ii 0)] t
  refine XS.aloadN X0.here hx rfl (hb hby d20_3) rfl rfl ?_
  exact k
 obtain ⟨_, T2, L2, X2, hQ2, c2⟩ := kvirt X0 hx hZ hown (w28 hw) (w29 hw) (w31 hw) (w30 hw) (w32 hw) (w5 hw) (rm_lenU_2 l Z a0 hw [] x_ s_ ks_ [(.int (nar .byte ((c0_ >>> ((0 : Int32) &&& 31)).toInt8.toInt32))), (.int (nar .byte ((c0_ >>> ((8 : Int32) &&& 31)).toInt8.toInt32))), (.int (nar .byte ((c1_ >>> ((0 : Int32) &&& 31)).toInt8.toInt32))), (.int (nar .byte ((c1_ >>> ((8 : Int32) &&& 31)).toInt8.toInt32)))] z_ h0 n0 O0 E0_ F1_ F2_ A3_ ZS4_ hz_) e0 E0_ c1 hml pd_prI [] [(ii 0)] 1 (hb hby d20_4) rfl rfl rfl rfl rfl rfl
 obtain ⟨rfl, N3q, K4⟩ := hQ2
 have N3 := Fr.app N0 N3q
 have c5 : Kt p e below T2 st0 (mkF m 12 #[vr x_, vi 0] [(ii 0), (rr x_)]) := fun t k => by
  refine c2 t ?_
  show S_ p e below T2 m 7 #[vr x_, vi 0] [(ii 2), (ii 0)] t
  refine XS.icmpNo X2.here hx rfl (hb hby d20_7) rfl rfl ?_
  show S_ p e below T2 m 10 #[vr x_, vi 0] [] t
  refine XS.aloadN X2.here hx rfl (hb hby d20_10) rfl rfl ?_
  show S_ p e below T2 m 11 #[vr x_, vi 0] [(rr x_)] t
  refine XS.iloadN X2.here hx rfl (hb hby d20_11) rfl ?_
  exact k
 obtain ⟨_, T6, L6, X6, hQ6, c6⟩ := kvirt X2 hx hZ hown (w49 hw) (w50 hw) (w52 hw) (w51 hw) (w53 hw) (w5 hw) (rm_chU_2 l Z a0 hw [] x_ s_ ks_ [(.int (nar .byte ((c0_ >>> ((0 : Int32) &&& 31)).toInt8.toInt32))), (.int (nar .byte ((c0_ >>> ((8 : Int32) &&& 31)).toInt8.toInt32))), (.int (nar .byte ((c1_ >>> ((0 : Int32) &&& 31)).toInt8.toInt32))), (.int (nar .byte ((c1_ >>> ((8 : Int32) &&& 31)).toInt8.toInt32)))] (0 : Int32) ((nar .byte ((c0_ >>> ((0 : Int32) &&& 31)).toInt8.toInt32))) ((nar .byte ((c0_ >>> ((8 : Int32) &&& 31)).toInt8.toInt32))) c0_ fm_ z_ h0 n0 O0 E0_ F1_ F2_ A3_ ZS6_ hfm_ ZS4_ hz_ ZS10_ ZS11_ ZS12_ (by decide) (by decide) (by decide) (by decide) (by decide) (by decide) rfl rfl (own_get16 hc0_) hc0_) K4 E0_ c5 hml pd_pIrC [(ii 0)] [] 0 (hb hby d20_12) rfl rfl rfl rfl rfl rfl
 obtain ⟨rfl, N7q, K8⟩ := hQ6
 have N7 := Fr.app N3 N7q
 have c9 : Kt p e below T6 st0 (mkF m 18 #[vr x_, vi 0] [(ii 128), (.int c0_)]) := fun t k => by
  refine c6 t ?_
  show S_ p e below T6 m 15 #[vr x_, vi 0] [(.int c0_)] t
  refine XS.sipush X6.here hx rfl (hb hby d20_15) ?_
  exact k
 by_cases hc10 : c0_ < (128 : Int32)
 ·have c11 : Kt p e below T6 st0 (mkF m 4 #[vr x_, vi 1] [(rr x_), (ii 1)]) := fun t k => by
   refine c9 t ?_
   show S_ p e below T6 m 18 #[vr x_, vi 0] [(ii 128), (.int c0_)] t
   refine yC X6.here hx rfl 18 23 rfl (hb hby d20_18) rfl (tlt hc10).1 ?_
   show S_ p e below T6 m 23 #[vr x_, vi 0] [] t
   refine XS.iinc X6.here hx rfl (hb hby d20_23) rfl (l' := #[vr x_, vi 1]) rfl ?_
   show S_ p e below T6 m 26 #[vr x_, vi 1] [] t
   refine yG X6.here hx rfl 26 2 rfl (hb hby d20_26) ?_
   show S_ p e below T6 m 2 #[vr x_, vi 1] [] t
   refine XS.iloadN X6.here hx rfl (hb hby d20_2) rfl ?_
   show S_ p e below T6 m 3 #[vr x_, vi 1] [(ii 1)] t
   refine XS.aloadN X6.here hx rfl (hb hby d20_3) rfl rfl ?_
   exact k
  obtain ⟨_, T12, L12, X12, hQ12, c12⟩ := kvirt X6 hx hZ hown (w28 hw) (w29 hw) (w31 hw) (w30 hw) (w32 hw) (w5 hw) (rm_lenU_2 l Z a0 hw [] x_ s_ ks_ [(.int (nar .byte ((c0_ >>> ((0 : Int32) &&& 31)).toInt8.toInt32))), (.int (nar .byte ((c0_ >>> ((8 : Int32) &&& 31)).toInt8.toInt32))), (.int (nar .byte ((c1_ >>> ((0 : Int32) &&& 31)).toInt8.toInt32))), (.int (nar .byte ((c1_ >>> ((8 : Int32) &&& 31)).toInt8.toInt32)))] z_ h0 n0 O0 E0_ F1_ F2_ A3_ ZS4_ hz_) K8 E0_ c11 hml pd_prI [] [(ii 1)] 1 (hb hby d20_4) rfl rfl rfl rfl rfl rfl
  obtain ⟨rfl, N13q, K14⟩ := hQ12
  have N13 := Fr.app N7 N13q
  have c15 : Kt p e below T12 st0 (mkF m 12 #[vr x_, vi 1] [(ii 1), (rr x_)]) := fun t k => by
   refine c12 t ?_
   show S_ p e below T12 m 7 #[vr x_, vi 1] [(ii 2), (ii 1)] t
   refine XS.icmpNo X12.here hx rfl (hb hby d20_7) rfl rfl ?_
   show S_ p e below T12 m 10 #[vr x_, vi 1] [] t
   refine XS.aloadN X12.here hx rfl (hb hby d20_10) rfl rfl ?_
   show S_ p e below T12 m 11 #[vr x_, vi 1] [(rr x_)] t
   refine XS.iloadN X12.here hx rfl (hb hby d20_11) rfl ?_
   exact k
  obtain ⟨_, T16, L16, X16, hQ16, c16⟩ := kvirt X12 hx hZ hown (w49 hw) (w50 hw) (w52 hw) (w51 hw) (w53 hw) (w5 hw) (rm_chU_2 l Z a0 hw [] x_ s_ ks_ [(.int (nar .byte ((c0_ >>> ((0 : Int32) &&& 31)).toInt8.toInt32))), (.int (nar .byte ((c0_ >>> ((8 : Int32) &&& 31)).toInt8.toInt32))), (.int (nar .byte ((c1_ >>> ((0 : Int32) &&& 31)).toInt8.toInt32))), (.int (nar .byte ((c1_ >>> ((8 : Int32) &&& 31)).toInt8.toInt32)))] (1 : Int32) ((nar .byte ((c1_ >>> ((0 : Int32) &&& 31)).toInt8.toInt32))) ((nar .byte ((c1_ >>> ((8 : Int32) &&& 31)).toInt8.toInt32))) c1_ fm_ z_ h0 n0 O0 E0_ F1_ F2_ A3_ ZS6_ hfm_ ZS4_ hz_ ZS10_ ZS11_ ZS12_ (by decide) (by decide) (by decide) (by decide) (by decide) (by decide) rfl rfl (own_get16 hc1_) hc1_) K14 E0_ c15 hml pd_pIrC [(ii 1)] [] 0 (hb hby d20_12) rfl rfl rfl rfl rfl rfl
  obtain ⟨rfl, N17q, K18⟩ := hQ16
  have N17 := Fr.app N13 N17q
  have c19 : Kt p e below T16 st0 (mkF m 18 #[vr x_, vi 1] [(ii 128), (.int c1_)]) := fun t k => by
   refine c16 t ?_
   show S_ p e below T16 m 15 #[vr x_, vi 1] [(.int c1_)] t
   refine XS.sipush X16.here hx rfl (hb hby d20_15) ?_
   exact k
  by_cases hc20 : c1_ < (128 : Int32)
  ·have c21 : Kt p e below T16 st0 (mkF m 4 #[vr x_, vi 2] [(rr x_), (ii 2)]) := fun t k => by
    refine c19 t ?_
    show S_ p e below T16 m 18 #[vr x_, vi 1] [(ii 128), (.int c1_)] t
    refine yC X16.here hx rfl 18 23 rfl (hb hby d20_18) rfl (tlt hc20).1 ?_
    show S_ p e below T16 m 23 #[vr x_, vi 1] [] t
    refine XS.iinc X16.here hx rfl (hb hby d20_23) rfl (l' := #[vr x_, vi 2]) rfl ?_
    show S_ p e below T16 m 26 #[vr x_, vi 2] [] t
    refine yG X16.here hx rfl 26 2 rfl (hb hby d20_26) ?_
    show S_ p e below T16 m 2 #[vr x_, vi 2] [] t
    refine XS.iloadN X16.here hx rfl (hb hby d20_2) rfl ?_
    show S_ p e below T16 m 3 #[vr x_, vi 2] [(ii 2)] t
    refine XS.aloadN X16.here hx rfl (hb hby d20_3) rfl rfl ?_
    exact k
   obtain ⟨_, T22, L22, X22, hQ22, c22⟩ := kvirt X16 hx hZ hown (w28 hw) (w29 hw) (w31 hw) (w30 hw) (w32 hw) (w5 hw) (rm_lenU_2 l Z a0 hw [] x_ s_ ks_ [(.int (nar .byte ((c0_ >>> ((0 : Int32) &&& 31)).toInt8.toInt32))), (.int (nar .byte ((c0_ >>> ((8 : Int32) &&& 31)).toInt8.toInt32))), (.int (nar .byte ((c1_ >>> ((0 : Int32) &&& 31)).toInt8.toInt32))), (.int (nar .byte ((c1_ >>> ((8 : Int32) &&& 31)).toInt8.toInt32)))] z_ h0 n0 O0 E0_ F1_ F2_ A3_ ZS4_ hz_) K18 E0_ c21 hml pd_prI [] [(ii 2)] 1 (hb hby d20_4) rfl rfl rfl rfl rfl rfl
   obtain ⟨rfl, N23q, K24⟩ := hQ22
   have N23 := Fr.app N17 N23q
   obtain ⟨fs, hr, hrun, hended, hW, hsame⟩ := X22.leave (v := some (ii 1)) (fun h => by rw [Bd.returns] at h; cases h)
   refine ⟨_, _, c22 _ ?_, hrun, hended, _, _, rfl, ?_, ⟨_, rfl⟩, hW, hsame.mono (by decide) (by decide)⟩
   ·show S_ p e below T22 m 7 #[vr x_, vi 2] [(ii 2), (ii 2)] _
    refine yC X22.here hx rfl 7 29 rfl (hb hby d20_7) rfl rfl ?_
    show S_ p e below T22 m 29 #[vr x_, vi 2] [] _
    refine XS.iconst X22.here hx rfl (hb hby d20_29) ?_
    show S_ p e below T22 m 30 #[vr x_, vi 2] [(ii 1)] _
    exact retN X22 hx (t := .boolean) Bd.returns (by simp) (hb hby d20_30) hr
   ·show Q_ascU_2 Z x_ s_ ks_ z_ fm_ c0_ c1_ h0 n0 _ T22.heap _
    rw [K24]
    exact (Or.inl ⟨rfl, N23, rfl, hc10, hc20⟩)
  ·obtain ⟨fs, hr, hrun, hended, hW, hsame⟩ := X16.leave (v := some (ii 0)) (fun h => by rw [Bd.returns] at h; cases h)
   refine ⟨_, _, c19 _ ?_, hrun, hended, _, _, rfl, ?_, ⟨_, rfl⟩, hW, hsame.mono (by decide) (by decide)⟩
   ·show S_ p e below T16 m 18 #[vr x_, vi 1] [(ii 128), (.int c1_)] _
    refine XS.icmpNo X16.here hx rfl (hb hby d20_18) rfl (flt hc20).1 ?_
    show S_ p e below T16 m 21 #[vr x_, vi 1] [] _
    refine XS.iconst X16.here hx rfl (hb hby d20_21) ?_
    show S_ p e below T16 m 22 #[vr x_, vi 1] [(ii 0)] _
    exact retN X16 hx (t := .boolean) Bd.returns (by simp) (hb hby d20_22) hr
   ·show Q_ascU_2 Z x_ s_ ks_ z_ fm_ c0_ c1_ h0 n0 _ T16.heap _
    rw [K18]
    exact (Or.inr (⟨rfl, N17, rfl, (fun q => hc20 (q.2))⟩))
 ·obtain ⟨fs, hr, hrun, hended, hW, hsame⟩ := X6.leave (v := some (ii 0)) (fun h => by rw [Bd.returns] at h; cases h)
  refine ⟨_, _, c9 _ ?_, hrun, hended, _, _, rfl, ?_, ⟨_, rfl⟩, hW, hsame.mono (by decide) (by decide)⟩
  ·show S_ p e below T6 m 18 #[vr x_, vi 0] [(ii 128), (.int c0_)] _
   refine XS.icmpNo X6.here hx rfl (hb hby d20_18) rfl (flt hc10).1 ?_
   show S_ p e below T6 m 21 #[vr x_, vi 0] [] _
   refine XS.iconst X6.here hx rfl (hb hby d20_21) ?_
   show S_ p e below T6 m 22 #[vr x_, vi 0] [(ii 0)] _
   exact retN X6 hx (t := .boolean) Bd.returns (by simp) (hb hby d20_22) hr
  ·show Q_ascU_2 Z x_ s_ ks_ z_ fm_ c0_ c1_ h0 n0 _ T6.heap _
   rw [K8]
   exact (Or.inr (⟨rfl, N7, rfl, (fun q => hc10 (q.1))⟩))
theorem ef_ascL_3 (m : MethodId) (x_ : Addr) : entryFrame m #[(rr x_)] 2 = mkF m 0 #[vr x_, u_] [] := by first | (simp [entryFrame, mkF, argsToLocals, Value.category]; done) | rfl
def Q_ascL_3 (Z : State) (x_ : Addr) (s_ : Addr) (ks_ : ClassId) (z_ : Int32) (fm_ : Value) (c0_ : Int32) (c1_ : Int32) (c2_ : Int32) (h0 : Heap) (n0 : Nat) (v : Option Value) (h : Heap) (L : List Loc) : Prop := (v = some (ii 1) ∧ Fr n0 L ∧ h = h0 ∧ c0_ < (128 : Int32) ∧ c1_ < (128 : Int32) ∧ c2_ < (128 : Int32)) ∨ (v = some (ii 0) ∧ Fr n0 L ∧ h = h0 ∧ ¬ (c0_ < (128 : Int32) ∧ c1_ < (128 : Int32) ∧ c2_ < (128 : Int32)))
set_option maxRecDepth 65536 in
set_option maxHeartbeats 40000000 in
theorem rm_ascL_3 (l : Launch) (Z : State) (a0 : Array Value) (hw : HW Z a0) (ws : List Jvm.Cond) (x_ : Addr) (s_ : Addr) (ks_ : ClassId) (z_ : Int32) (fm_ : Value) (c0_ : Int32) (c1_ : Int32) (c2_ : Int32) (h0 : Heap) (n0 : Nat) (O0 : Old Z n0 h0) (E0_ : Exa Z h0 x_ nm0) (F1_ : Fld Z h0 x_ nm0 "coder" "B" (ii 0)) (F2_ : Fld Z h0 x_ nm0 "value" "[B" (rr s_)) (A3_ : Arv Z h0 s_ ks_ .byte (3 : Int32) [(.int (nar .byte (c0_.toInt8.toInt32))), (.int (nar .byte (c1_.toInt8.toInt32))), (.int (nar .byte (c2_.toInt8.toInt32)))] (ii 0)) (ZS4_ : Sta Z Z.heap nm0 "COMPACT_STRINGS" "Z" (.int z_)) (hz_ : ¬ (z_ = (0 : Int32))) (ZS6_ : Sta Z Z.heap nm2 "SIOOBE_FORMATTER" nm4 fm_) (hfm_ : fm_.isRef = true) (hc0_ : nar .char c0_ = c0_) (hc1_ : nar .char c1_ = c1_) (hc2_ : nar .char c2_ = c2_) (hs0_ : ¬ ((255 : Int32) < c0_)) (hs1_ : ¬ ((255 : Int32) < c1_)) (hs2_ : ¬ ((255 : Int32) < c2_)) :
  MFP l Z (⟨nm3, "isAscii", "(Ljava/lang/String;)Z"⟩ : MethodName) prog_48_method_3_code 2 (some .boolean) ({ frames := 4, cells := 0, slots := 0, locals := 53 } : Room) ws #[(rr x_)] h0 (Q_ascL_3 Z x_ s_ ks_ z_ fm_ c0_ c1_ c2_ h0 n0) := by
 refine MetFree.of_bodySF (plainFor_of_name pn_com_example_countersign_countersign_Utf8) hisR ?_
 intro p e s m args below meth c s₁ Bd hml0 hP hK
 obtain ⟨rfl, hZ, hh⟩ := hP
 have hx := Bd.exec
 have hby := Bd.bytes
 have hml : c.maxLocals = 2 := hml0
 have hown : s.vm.findClass nm3 = some m.cls := findClass_of_methodNamed Bd.named
 have hnm := (name_of_methodNamed Bd.named Bd.method).1
 have X0 : Stand p l e ({ frames := 4, cells := 0, slots := 0, locals := 53 } : Room) s m #[(rr x_)] below meth c s₁ [] 0 0 := Stand.of_body Bd
 have e0 : s₁.heap = h0 := by rw [← hh, Bd.state]; rfl
 have N0 := Fr.nil n0
 have kp0 : Keep h0 h0 [] := Keep.refl _ _
 have c0 : ∀ t, S_ p e below s₁ m 0 #[vr x_, u_] [] t → Steps p.tables e below (s₁.setTop (entryFrame m #[(rr x_)] 2)) t := fun t k => castTop (ef_ascL_3 m x_) k
 generalize s₁.setTop (entryFrame m #[(rr x_)] 2) = st0 at c0 ⊢
 replace c0 : Kt p e below s₁ st0 (mkF m 0 #[vr x_, u_] []) := c0
 have c1 : Kt p e below s₁ st0 (mkF m 4 #[vr x_, vi 0] [(rr x_), (ii 0)]) := fun t k => by
  refine c0 t ?_
  show S_ p e below s₁ m 0 #[vr x_, u_] [] t
  refine XS.iconst X0.here hx rfl (hb hby d20_0) ?_
  show S_ p e below s₁ m 1 #[vr x_, u_] [(ii 0)] t
  refine XS.istoreN X0.here hx rfl (hb hby d20_1) rfl (l' := #[vr x_, vi 0]) rfl ?_
  show S_ p e below s₁ m 2 #[vr x_, vi 0] [] t
  refine XS.iloadN X0.here hx rfl (hb hby d20_2) rfl ?_
  show S_ p e below s₁ m 3 #[vr x_, vi 0] [(ii 0)] t
  refine XS.aloadN X0.here hx rfl (hb hby d20_3) rfl rfl ?_
  exact k
 obtain ⟨_, T2, L2, X2, hQ2, c2⟩ := kvirt X0 hx hZ hown (w28 hw) (w29 hw) (w31 hw) (w30 hw) (w32 hw) (w5 hw) (rm_lenL_3 l Z a0 hw [] x_ s_ ks_ [(.int (nar .byte (c0_.toInt8.toInt32))), (.int (nar .byte (c1_.toInt8.toInt32))), (.int (nar .byte (c2_.toInt8.toInt32)))] z_ h0 n0 O0 E0_ F1_ F2_ A3_ ZS4_ hz_) e0 E0_ c1 hml pd_prI [] [(ii 0)] 1 (hb hby d20_4) rfl rfl rfl rfl rfl rfl
 obtain ⟨rfl, N3q, K4⟩ := hQ2
 have N3 := Fr.app N0 N3q
 have c5 : Kt p e below T2 st0 (mkF m 12 #[vr x_, vi 0] [(ii 0), (rr x_)]) := fun t k => by
  refine c2 t ?_
  show S_ p e below T2 m 7 #[vr x_, vi 0] [(ii 3), (ii 0)] t
  refine XS.icmpNo X2.here hx rfl (hb hby d20_7) rfl rfl ?_
  show S_ p e below T2 m 10 #[vr x_, vi 0] [] t
  refine XS.aloadN X2.here hx rfl (hb hby d20_10) rfl rfl ?_
  show S_ p e below T2 m 11 #[vr x_, vi 0] [(rr x_)] t
  refine XS.iloadN X2.here hx rfl (hb hby d20_11) rfl ?_
  exact k
 obtain ⟨_, T6, L6, X6, hQ6, c6⟩ := kvirt X2 hx hZ hown (w49 hw) (w50 hw) (w52 hw) (w51 hw) (w53 hw) (w5 hw) (rm_chL l Z a0 hw [] x_ s_ ks_ (3 : Int32) [(.int (nar .byte (c0_.toInt8.toInt32))), (.int (nar .byte (c1_.toInt8.toInt32))), (.int (nar .byte (c2_.toInt8.toInt32)))] (0 : Int32) ((nar .byte (c0_.toInt8.toInt32))) c0_ fm_ z_ h0 n0 O0 E0_ F1_ F2_ A3_ ZS6_ hfm_ ZS4_ hz_ (by decide) (by decide) rfl (own_chL hc0_ hs0_) hc0_) K4 E0_ c5 hml pd_pIrC [(ii 0)] [] 0 (hb hby d20_12) rfl rfl rfl rfl rfl rfl
 obtain ⟨rfl, N7q, K8⟩ := hQ6
 have N7 := Fr.app N3 N7q
 have c9 : Kt p e below T6 st0 (mkF m 18 #[vr x_, vi 0] [(ii 128), (.int c0_)]) := fun t k => by
  refine c6 t ?_
  show S_ p e below T6 m 15 #[vr x_, vi 0] [(.int c0_)] t
  refine XS.sipush X6.here hx rfl (hb hby d20_15) ?_
  exact k
 by_cases hc10 : c0_ < (128 : Int32)
 ·have c11 : Kt p e below T6 st0 (mkF m 4 #[vr x_, vi 1] [(rr x_), (ii 1)]) := fun t k => by
   refine c9 t ?_
   show S_ p e below T6 m 18 #[vr x_, vi 0] [(ii 128), (.int c0_)] t
   refine yC X6.here hx rfl 18 23 rfl (hb hby d20_18) rfl (tlt hc10).1 ?_
   show S_ p e below T6 m 23 #[vr x_, vi 0] [] t
   refine XS.iinc X6.here hx rfl (hb hby d20_23) rfl (l' := #[vr x_, vi 1]) rfl ?_
   show S_ p e below T6 m 26 #[vr x_, vi 1] [] t
   refine yG X6.here hx rfl 26 2 rfl (hb hby d20_26) ?_
   show S_ p e below T6 m 2 #[vr x_, vi 1] [] t
   refine XS.iloadN X6.here hx rfl (hb hby d20_2) rfl ?_
   show S_ p e below T6 m 3 #[vr x_, vi 1] [(ii 1)] t
   refine XS.aloadN X6.here hx rfl (hb hby d20_3) rfl rfl ?_
   exact k
  obtain ⟨_, T12, L12, X12, hQ12, c12⟩ := kvirt X6 hx hZ hown (w28 hw) (w29 hw) (w31 hw) (w30 hw) (w32 hw) (w5 hw) (rm_lenL_3 l Z a0 hw [] x_ s_ ks_ [(.int (nar .byte (c0_.toInt8.toInt32))), (.int (nar .byte (c1_.toInt8.toInt32))), (.int (nar .byte (c2_.toInt8.toInt32)))] z_ h0 n0 O0 E0_ F1_ F2_ A3_ ZS4_ hz_) K8 E0_ c11 hml pd_prI [] [(ii 1)] 1 (hb hby d20_4) rfl rfl rfl rfl rfl rfl
  obtain ⟨rfl, N13q, K14⟩ := hQ12
  have N13 := Fr.app N7 N13q
  have c15 : Kt p e below T12 st0 (mkF m 12 #[vr x_, vi 1] [(ii 1), (rr x_)]) := fun t k => by
   refine c12 t ?_
   show S_ p e below T12 m 7 #[vr x_, vi 1] [(ii 3), (ii 1)] t
   refine XS.icmpNo X12.here hx rfl (hb hby d20_7) rfl rfl ?_
   show S_ p e below T12 m 10 #[vr x_, vi 1] [] t
   refine XS.aloadN X12.here hx rfl (hb hby d20_10) rfl rfl ?_
   show S_ p e below T12 m 11 #[vr x_, vi 1] [(rr x_)] t
   refine XS.iloadN X12.here hx rfl (hb hby d20_11) rfl ?_
   exact k
  obtain ⟨_, T16, L16, X16, hQ16, c16⟩ := kvirt X12 hx hZ hown (w49 hw) (w50 hw) (w52 hw) (w51 hw) (w53 hw) (w5 hw) (rm_chL l Z a0 hw [] x_ s_ ks_ (3 : Int32) [(.int (nar .byte (c0_.toInt8.toInt32))), (.int (nar .byte (c1_.toInt8.toInt32))), (.int (nar .byte (c2_.toInt8.toInt32)))] (1 : Int32) ((nar .byte (c1_.toInt8.toInt32))) c1_ fm_ z_ h0 n0 O0 E0_ F1_ F2_ A3_ ZS6_ hfm_ ZS4_ hz_ (by decide) (by decide) rfl (own_chL hc1_ hs1_) hc1_) K14 E0_ c15 hml pd_pIrC [(ii 1)] [] 0 (hb hby d20_12) rfl rfl rfl rfl rfl rfl
  obtain ⟨rfl, N17q, K18⟩ := hQ16
  have N17 := Fr.app N13 N17q
  have c19 : Kt p e below T16 st0 (mkF m 18 #[vr x_, vi 1] [(ii 128), (.int c1_)]) := fun t k => by
   refine c16 t ?_
   show S_ p e below T16 m 15 #[vr x_, vi 1] [(.int c1_)] t
   refine XS.sipush X16.here hx rfl (hb hby d20_15) ?_
   exact k
  by_cases hc20 : c1_ < (128 : Int32)
  ·have c21 : Kt p e below T16 st0 (mkF m 4 #[vr x_, vi 2] [(rr x_), (ii 2)]) := fun t k => by
    refine c19 t ?_
    show S_ p e below T16 m 18 #[vr x_, vi 1] [(ii 128), (.int c1_)] t
    refine yC X16.here hx rfl 18 23 rfl (hb hby d20_18) rfl (tlt hc20).1 ?_
    show S_ p e below T16 m 23 #[vr x_, vi 1] [] t
    refine XS.iinc X16.here hx rfl (hb hby d20_23) rfl (l' := #[vr x_, vi 2]) rfl ?_
    show S_ p e below T16 m 26 #[vr x_, vi 2] [] t
    refine yG X16.here hx rfl 26 2 rfl (hb hby d20_26) ?_
    show S_ p e below T16 m 2 #[vr x_, vi 2] [] t
    refine XS.iloadN X16.here hx rfl (hb hby d20_2) rfl ?_
    show S_ p e below T16 m 3 #[vr x_, vi 2] [(ii 2)] t
    refine XS.aloadN X16.here hx rfl (hb hby d20_3) rfl rfl ?_
    exact k
   obtain ⟨_, T22, L22, X22, hQ22, c22⟩ := kvirt X16 hx hZ hown (w28 hw) (w29 hw) (w31 hw) (w30 hw) (w32 hw) (w5 hw) (rm_lenL_3 l Z a0 hw [] x_ s_ ks_ [(.int (nar .byte (c0_.toInt8.toInt32))), (.int (nar .byte (c1_.toInt8.toInt32))), (.int (nar .byte (c2_.toInt8.toInt32)))] z_ h0 n0 O0 E0_ F1_ F2_ A3_ ZS4_ hz_) K18 E0_ c21 hml pd_prI [] [(ii 2)] 1 (hb hby d20_4) rfl rfl rfl rfl rfl rfl
   obtain ⟨rfl, N23q, K24⟩ := hQ22
   have N23 := Fr.app N17 N23q
   have c25 : Kt p e below T22 st0 (mkF m 12 #[vr x_, vi 2] [(ii 2), (rr x_)]) := fun t k => by
    refine c22 t ?_
    show S_ p e below T22 m 7 #[vr x_, vi 2] [(ii 3), (ii 2)] t
    refine XS.icmpNo X22.here hx rfl (hb hby d20_7) rfl rfl ?_
    show S_ p e below T22 m 10 #[vr x_, vi 2] [] t
    refine XS.aloadN X22.here hx rfl (hb hby d20_10) rfl rfl ?_
    show S_ p e below T22 m 11 #[vr x_, vi 2] [(rr x_)] t
    refine XS.iloadN X22.here hx rfl (hb hby d20_11) rfl ?_
    exact k
   obtain ⟨_, T26, L26, X26, hQ26, c26⟩ := kvirt X22 hx hZ hown (w49 hw) (w50 hw) (w52 hw) (w51 hw) (w53 hw) (w5 hw) (rm_chL l Z a0 hw [] x_ s_ ks_ (3 : Int32) [(.int (nar .byte (c0_.toInt8.toInt32))), (.int (nar .byte (c1_.toInt8.toInt32))), (.int (nar .byte (c2_.toInt8.toInt32)))] (2 : Int32) ((nar .byte (c2_.toInt8.toInt32))) c2_ fm_ z_ h0 n0 O0 E0_ F1_ F2_ A3_ ZS6_ hfm_ ZS4_ hz_ (by decide) (by decide) rfl (own_chL hc2_ hs2_) hc2_) K24 E0_ c25 hml pd_pIrC [(ii 2)] [] 0 (hb hby d20_12) rfl rfl rfl rfl rfl rfl
   obtain ⟨rfl, N27q, K28⟩ := hQ26
   have N27 := Fr.app N23 N27q
   have c29 : Kt p e below T26 st0 (mkF m 18 #[vr x_, vi 2] [(ii 128), (.int c2_)]) := fun t k => by
    refine c26 t ?_
    show S_ p e below T26 m 15 #[vr x_, vi 2] [(.int c2_)] t
    refine XS.sipush X26.here hx rfl (hb hby d20_15) ?_
    exact k
   by_cases hc30 : c2_ < (128 : Int32)
   ·have c31 : Kt p e below T26 st0 (mkF m 4 #[vr x_, vi 3] [(rr x_), (ii 3)]) := fun t k => by
     refine c29 t ?_
     show S_ p e below T26 m 18 #[vr x_, vi 2] [(ii 128), (.int c2_)] t
     refine yC X26.here hx rfl 18 23 rfl (hb hby d20_18) rfl (tlt hc30).1 ?_
     show S_ p e below T26 m 23 #[vr x_, vi 2] [] t
     refine XS.iinc X26.here hx rfl (hb hby d20_23) rfl (l' := #[vr x_, vi 3]) rfl ?_
     show S_ p e below T26 m 26 #[vr x_, vi 3] [] t
     refine yG X26.here hx rfl 26 2 rfl (hb hby d20_26) ?_
     show S_ p e below T26 m 2 #[vr x_, vi 3] [] t
     refine XS.iloadN X26.here hx rfl (hb hby d20_2) rfl ?_
     show S_ p e below T26 m 3 #[vr x_, vi 3] [(ii 3)] t
     refine XS.aloadN X26.here hx rfl (hb hby d20_3) rfl rfl ?_
     exact k
    obtain ⟨_, T32, L32, X32, hQ32, c32⟩ := kvirt X26 hx hZ hown (w28 hw) (w29 hw) (w31 hw) (w30 hw) (w32 hw) (w5 hw) (rm_lenL_3 l Z a0 hw [] x_ s_ ks_ [(.int (nar .byte (c0_.toInt8.toInt32))), (.int (nar .byte (c1_.toInt8.toInt32))), (.int (nar .byte (c2_.toInt8.toInt32)))] z_ h0 n0 O0 E0_ F1_ F2_ A3_ ZS4_ hz_) K28 E0_ c31 hml pd_prI [] [(ii 3)] 1 (hb hby d20_4) rfl rfl rfl rfl rfl rfl
    obtain ⟨rfl, N33q, K34⟩ := hQ32
    have N33 := Fr.app N27 N33q
    obtain ⟨fs, hr, hrun, hended, hW, hsame⟩ := X32.leave (v := some (ii 1)) (fun h => by rw [Bd.returns] at h; cases h)
    refine ⟨_, _, c32 _ ?_, hrun, hended, _, _, rfl, ?_, ⟨_, rfl⟩, hW, hsame.mono (by decide) (by decide)⟩
    ·show S_ p e below T32 m 7 #[vr x_, vi 3] [(ii 3), (ii 3)] _
     refine yC X32.here hx rfl 7 29 rfl (hb hby d20_7) rfl rfl ?_
     show S_ p e below T32 m 29 #[vr x_, vi 3] [] _
     refine XS.iconst X32.here hx rfl (hb hby d20_29) ?_
     show S_ p e below T32 m 30 #[vr x_, vi 3] [(ii 1)] _
     exact retN X32 hx (t := .boolean) Bd.returns (by simp) (hb hby d20_30) hr
    ·show Q_ascL_3 Z x_ s_ ks_ z_ fm_ c0_ c1_ c2_ h0 n0 _ T32.heap _
     rw [K34]
     exact (Or.inl ⟨rfl, N33, rfl, hc10, hc20, hc30⟩)
   ·obtain ⟨fs, hr, hrun, hended, hW, hsame⟩ := X26.leave (v := some (ii 0)) (fun h => by rw [Bd.returns] at h; cases h)
    refine ⟨_, _, c29 _ ?_, hrun, hended, _, _, rfl, ?_, ⟨_, rfl⟩, hW, hsame.mono (by decide) (by decide)⟩
    ·show S_ p e below T26 m 18 #[vr x_, vi 2] [(ii 128), (.int c2_)] _
     refine XS.icmpNo X26.here hx rfl (hb hby d20_18) rfl (flt hc30).1 ?_
     show S_ p e below T26 m 21 #[vr x_, vi 2] [] _
     refine XS.iconst X26.here hx rfl (hb hby d20_21) ?_
     show S_ p e below T26 m 22 #[vr x_, vi 2] [(ii 0)] _
     exact retN X26 hx (t := .boolean) Bd.returns (by simp) (hb hby d20_22) hr
    ·show Q_ascL_3 Z x_ s_ ks_ z_ fm_ c0_ c1_ c2_ h0 n0 _ T26.heap _
     rw [K28]
     exact (Or.inr (⟨rfl, N27, rfl, (fun q => hc30 (q.2.2))⟩))
  ·obtain ⟨fs, hr, hrun, hended, hW, hsame⟩ := X16.leave (v := some (ii 0)) (fun h => by rw [Bd.returns] at h; cases h)
   refine ⟨_, _, c19 _ ?_, hrun, hended, _, _, rfl, ?_, ⟨_, rfl⟩, hW, hsame.mono (by decide) (by decide)⟩
   ·show S_ p e below T16 m 18 #[vr x_, vi 1] [(ii 128), (.int c1_)] _
    refine XS.icmpNo X16.here hx rfl (hb hby d20_18) rfl (flt hc20).1 ?_
    show S_ p e below T16 m 21 #[vr x_, vi 1] [] _
    refine XS.iconst X16.here hx rfl (hb hby d20_21) ?_
    show S_ p e below T16 m 22 #[vr x_, vi 1] [(ii 0)] _
    exact retN X16 hx (t := .boolean) Bd.returns (by simp) (hb hby d20_22) hr
   ·show Q_ascL_3 Z x_ s_ ks_ z_ fm_ c0_ c1_ c2_ h0 n0 _ T16.heap _
    rw [K18]
    exact (Or.inr (⟨rfl, N17, rfl, (fun q => hc20 (q.2.1))⟩))
 ·obtain ⟨fs, hr, hrun, hended, hW, hsame⟩ := X6.leave (v := some (ii 0)) (fun h => by rw [Bd.returns] at h; cases h)
  refine ⟨_, _, c9 _ ?_, hrun, hended, _, _, rfl, ?_, ⟨_, rfl⟩, hW, hsame.mono (by decide) (by decide)⟩
  ·show S_ p e below T6 m 18 #[vr x_, vi 0] [(ii 128), (.int c0_)] _
   refine XS.icmpNo X6.here hx rfl (hb hby d20_18) rfl (flt hc10).1 ?_
   show S_ p e below T6 m 21 #[vr x_, vi 0] [] _
   refine XS.iconst X6.here hx rfl (hb hby d20_21) ?_
   show S_ p e below T6 m 22 #[vr x_, vi 0] [(ii 0)] _
   exact retN X6 hx (t := .boolean) Bd.returns (by simp) (hb hby d20_22) hr
  ·show Q_ascL_3 Z x_ s_ ks_ z_ fm_ c0_ c1_ c2_ h0 n0 _ T6.heap _
   rw [K8]
   exact (Or.inr (⟨rfl, N7, rfl, (fun q => hc10 (q.1))⟩))
theorem ef_ascU_3 (m : MethodId) (x_ : Addr) : entryFrame m #[(rr x_)] 2 = mkF m 0 #[vr x_, u_] [] := by first | (simp [entryFrame, mkF, argsToLocals, Value.category]; done) | rfl
def Q_ascU_3 (Z : State) (x_ : Addr) (s_ : Addr) (ks_ : ClassId) (z_ : Int32) (fm_ : Value) (c0_ : Int32) (c1_ : Int32) (c2_ : Int32) (h0 : Heap) (n0 : Nat) (v : Option Value) (h : Heap) (L : List Loc) : Prop := (v = some (ii 1) ∧ Fr n0 L ∧ h = h0 ∧ c0_ < (128 : Int32) ∧ c1_ < (128 : Int32) ∧ c2_ < (128 : Int32)) ∨ (v = some (ii 0) ∧ Fr n0 L ∧ h = h0 ∧ ¬ (c0_ < (128 : Int32) ∧ c1_ < (128 : Int32) ∧ c2_ < (128 : Int32)))
set_option maxRecDepth 65536 in
set_option maxHeartbeats 40000000 in
theorem rm_ascU_3 (l : Launch) (Z : State) (a0 : Array Value) (hw : HW Z a0) (ws : List Jvm.Cond) (x_ : Addr) (s_ : Addr) (ks_ : ClassId) (z_ : Int32) (fm_ : Value) (c0_ : Int32) (c1_ : Int32) (c2_ : Int32) (h0 : Heap) (n0 : Nat) (O0 : Old Z n0 h0) (E0_ : Exa Z h0 x_ nm0) (F1_ : Fld Z h0 x_ nm0 "coder" "B" (ii 1)) (F2_ : Fld Z h0 x_ nm0 "value" "[B" (rr s_)) (A3_ : Arv Z h0 s_ ks_ .byte (6 : Int32) [(.int (nar .byte ((c0_ >>> ((0 : Int32) &&& 31)).toInt8.toInt32))), (.int (nar .byte ((c0_ >>> ((8 : Int32) &&& 31)).toInt8.toInt32))), (.int (nar .byte ((c1_ >>> ((0 : Int32) &&& 31)).toInt8.toInt32))), (.int (nar .byte ((c1_ >>> ((8 : Int32) &&& 31)).toInt8.toInt32))), (.int (nar .byte ((c2_ >>> ((0 : Int32) &&& 31)).toInt8.toInt32))), (.int (nar .byte ((c2_ >>> ((8 : Int32) &&& 31)).toInt8.toInt32)))] (ii 0)) (ZS4_ : Sta Z Z.heap nm0 "COMPACT_STRINGS" "Z" (.int z_)) (hz_ : ¬ (z_ = (0 : Int32))) (ZS6_ : Sta Z Z.heap nm2 "SIOOBE_FORMATTER" nm4 fm_) (hfm_ : fm_.isRef = true) (hc0_ : nar .char c0_ = c0_) (hc1_ : nar .char c1_ = c1_) (hc2_ : nar .char c2_ = c2_) (ZS11_ : Sta Z Z.heap nm1 "$assertionsDisabled" "Z" (ii 1)) (ZS12_ : Sta Z Z.heap nm1 "HI_BYTE_SHIFT" "I" (ii 0)) (ZS13_ : Sta Z Z.heap nm1 "LO_BYTE_SHIFT" "I" (ii 8)) :
  MFP l Z (⟨nm3, "isAscii", "(Ljava/lang/String;)Z"⟩ : MethodName) prog_48_method_3_code 2 (some .boolean) ({ frames := 5, cells := 0, slots := 0, locals := 66 } : Room) ws #[(rr x_)] h0 (Q_ascU_3 Z x_ s_ ks_ z_ fm_ c0_ c1_ c2_ h0 n0) := by
 refine MetFree.of_bodySF (plainFor_of_name pn_com_example_countersign_countersign_Utf8) hisR ?_
 intro p e s m args below meth c s₁ Bd hml0 hP hK
 obtain ⟨rfl, hZ, hh⟩ := hP
 have hx := Bd.exec
 have hby := Bd.bytes
 have hml : c.maxLocals = 2 := hml0
 have hown : s.vm.findClass nm3 = some m.cls := findClass_of_methodNamed Bd.named
 have hnm := (name_of_methodNamed Bd.named Bd.method).1
 have X0 : Stand p l e ({ frames := 5, cells := 0, slots := 0, locals := 66 } : Room) s m #[(rr x_)] below meth c s₁ [] 0 0 := Stand.of_body Bd
 have e0 : s₁.heap = h0 := by rw [← hh, Bd.state]; rfl
 have N0 := Fr.nil n0
 have kp0 : Keep h0 h0 [] := Keep.refl _ _
 have c0 : ∀ t, S_ p e below s₁ m 0 #[vr x_, u_] [] t → Steps p.tables e below (s₁.setTop (entryFrame m #[(rr x_)] 2)) t := fun t k => castTop (ef_ascU_3 m x_) k
 generalize s₁.setTop (entryFrame m #[(rr x_)] 2) = st0 at c0 ⊢
 replace c0 : Kt p e below s₁ st0 (mkF m 0 #[vr x_, u_] []) := c0
 have c1 : Kt p e below s₁ st0 (mkF m 4 #[vr x_, vi 0] [(rr x_), (ii 0)]) := fun t k => by
  refine c0 t ?_
  show S_ p e below s₁ m 0 #[vr x_, u_] [] t
  refine XS.iconst X0.here hx rfl (hb hby d20_0) ?_
  show S_ p e below s₁ m 1 #[vr x_, u_] [(ii 0)] t
  refine XS.istoreN X0.here hx rfl (hb hby d20_1) rfl (l' := #[vr x_, vi 0]) rfl ?_
  show S_ p e below s₁ m 2 #[vr x_, vi 0] [] t
  refine XS.iloadN X0.here hx rfl (hb hby d20_2) rfl ?_
  show S_ p e below s₁ m 3 #[vr x_, vi 0] [(ii 0)] t
  refine XS.aloadN X0.here hx rfl (hb hby d20_3) rfl rfl ?_
  exact k
 obtain ⟨_, T2, L2, X2, hQ2, c2⟩ := kvirt X0 hx hZ hown (w28 hw) (w29 hw) (w31 hw) (w30 hw) (w32 hw) (w5 hw) (rm_lenU_3 l Z a0 hw [] x_ s_ ks_ [(.int (nar .byte ((c0_ >>> ((0 : Int32) &&& 31)).toInt8.toInt32))), (.int (nar .byte ((c0_ >>> ((8 : Int32) &&& 31)).toInt8.toInt32))), (.int (nar .byte ((c1_ >>> ((0 : Int32) &&& 31)).toInt8.toInt32))), (.int (nar .byte ((c1_ >>> ((8 : Int32) &&& 31)).toInt8.toInt32))), (.int (nar .byte ((c2_ >>> ((0 : Int32) &&& 31)).toInt8.toInt32))), (.int (nar .byte ((c2_ >>> ((8 : Int32) &&& 31)).toInt8.toInt32)))] z_ h0 n0 O0 E0_ F1_ F2_ A3_ ZS4_ hz_) e0 E0_ c1 hml pd_prI [] [(ii 0)] 1 (hb hby d20_4) rfl rfl rfl rfl rfl rfl
 obtain ⟨rfl, N3q, K4⟩ := hQ2
 have N3 := Fr.app N0 N3q
 have c5 : Kt p e below T2 st0 (mkF m 12 #[vr x_, vi 0] [(ii 0), (rr x_)]) := fun t k => by
  refine c2 t ?_
  show S_ p e below T2 m 7 #[vr x_, vi 0] [(ii 3), (ii 0)] t
  refine XS.icmpNo X2.here hx rfl (hb hby d20_7) rfl rfl ?_
  show S_ p e below T2 m 10 #[vr x_, vi 0] [] t
  refine XS.aloadN X2.here hx rfl (hb hby d20_10) rfl rfl ?_
  show S_ p e below T2 m 11 #[vr x_, vi 0] [(rr x_)] t
  refine XS.iloadN X2.here hx rfl (hb hby d20_11) rfl ?_
  exact k
 obtain ⟨_, T6, L6, X6, hQ6, c6⟩ := kvirt X2 hx hZ hown (w49 hw) (w50 hw) (w52 hw) (w51 hw) (w53 hw) (w5 hw) (rm_chU_3 l Z a0 hw [] x_ s_ ks_ [(.int (nar .byte ((c0_ >>> ((0 : Int32) &&& 31)).toInt8.toInt32))), (.int (nar .byte ((c0_ >>> ((8 : Int32) &&& 31)).toInt8.toInt32))), (.int (nar .byte ((c1_ >>> ((0 : Int32) &&& 31)).toInt8.toInt32))), (.int (nar .byte ((c1_ >>> ((8 : Int32) &&& 31)).toInt8.toInt32))), (.int (nar .byte ((c2_ >>> ((0 : Int32) &&& 31)).toInt8.toInt32))), (.int (nar .byte ((c2_ >>> ((8 : Int32) &&& 31)).toInt8.toInt32)))] (0 : Int32) ((nar .byte ((c0_ >>> ((0 : Int32) &&& 31)).toInt8.toInt32))) ((nar .byte ((c0_ >>> ((8 : Int32) &&& 31)).toInt8.toInt32))) c0_ fm_ z_ h0 n0 O0 E0_ F1_ F2_ A3_ ZS6_ hfm_ ZS4_ hz_ ZS11_ ZS12_ ZS13_ (by decide) (by decide) (by decide) (by decide) (by decide) (by decide) rfl rfl (own_get16 hc0_) hc0_) K4 E0_ c5 hml pd_pIrC [(ii 0)] [] 0 (hb hby d20_12) rfl rfl rfl rfl rfl rfl
 obtain ⟨rfl, N7q, K8⟩ := hQ6
 have N7 := Fr.app N3 N7q
 have c9 : Kt p e below T6 st0 (mkF m 18 #[vr x_, vi 0] [(ii 128), (.int c0_)]) := fun t k => by
  refine c6 t ?_
  show S_ p e below T6 m 15 #[vr x_, vi 0] [(.int c0_)] t
  refine XS.sipush X6.here hx rfl (hb hby d20_15) ?_
  exact k
 by_cases hc10 : c0_ < (128 : Int32)
 ·have c11 : Kt p e below T6 st0 (mkF m 4 #[vr x_, vi 1] [(rr x_), (ii 1)]) := fun t k => by
   refine c9 t ?_
   show S_ p e below T6 m 18 #[vr x_, vi 0] [(ii 128), (.int c0_)] t
   refine yC X6.here hx rfl 18 23 rfl (hb hby d20_18) rfl (tlt hc10).1 ?_
   show S_ p e below T6 m 23 #[vr x_, vi 0] [] t
   refine XS.iinc X6.here hx rfl (hb hby d20_23) rfl (l' := #[vr x_, vi 1]) rfl ?_
   show S_ p e below T6 m 26 #[vr x_, vi 1] [] t
   refine yG X6.here hx rfl 26 2 rfl (hb hby d20_26) ?_
   show S_ p e below T6 m 2 #[vr x_, vi 1] [] t
   refine XS.iloadN X6.here hx rfl (hb hby d20_2) rfl ?_
   show S_ p e below T6 m 3 #[vr x_, vi 1] [(ii 1)] t
   refine XS.aloadN X6.here hx rfl (hb hby d20_3) rfl rfl ?_
   exact k
  obtain ⟨_, T12, L12, X12, hQ12, c12⟩ := kvirt X6 hx hZ hown (w28 hw) (w29 hw) (w31 hw) (w30 hw) (w32 hw) (w5 hw) (rm_lenU_3 l Z a0 hw [] x_ s_ ks_ [(.int (nar .byte ((c0_ >>> ((0 : Int32) &&& 31)).toInt8.toInt32))), (.int (nar .byte ((c0_ >>> ((8 : Int32) &&& 31)).toInt8.toInt32))), (.int (nar .byte ((c1_ >>> ((0 : Int32) &&& 31)).toInt8.toInt32))), (.int (nar .byte ((c1_ >>> ((8 : Int32) &&& 31)).toInt8.toInt32))), (.int (nar .byte ((c2_ >>> ((0 : Int32) &&& 31)).toInt8.toInt32))), (.int (nar .byte ((c2_ >>> ((8 : Int32) &&& 31)).toInt8.toInt32)))] z_ h0 n0 O0 E0_ F1_ F2_ A3_ ZS4_ hz_) K8 E0_ c11 hml pd_prI [] [(ii 1)] 1 (hb hby d20_4) rfl rfl rfl rfl rfl rfl
  obtain ⟨rfl, N13q, K14⟩ := hQ12
  have N13 := Fr.app N7 N13q
  have c15 : Kt p e below T12 st0 (mkF m 12 #[vr x_, vi 1] [(ii 1), (rr x_)]) := fun t k => by
   refine c12 t ?_
   show S_ p e below T12 m 7 #[vr x_, vi 1] [(ii 3), (ii 1)] t
   refine XS.icmpNo X12.here hx rfl (hb hby d20_7) rfl rfl ?_
   show S_ p e below T12 m 10 #[vr x_, vi 1] [] t
   refine XS.aloadN X12.here hx rfl (hb hby d20_10) rfl rfl ?_
   show S_ p e below T12 m 11 #[vr x_, vi 1] [(rr x_)] t
   refine XS.iloadN X12.here hx rfl (hb hby d20_11) rfl ?_
   exact k
  obtain ⟨_, T16, L16, X16, hQ16, c16⟩ := kvirt X12 hx hZ hown (w49 hw) (w50 hw) (w52 hw) (w51 hw) (w53 hw) (w5 hw) (rm_chU_3 l Z a0 hw [] x_ s_ ks_ [(.int (nar .byte ((c0_ >>> ((0 : Int32) &&& 31)).toInt8.toInt32))), (.int (nar .byte ((c0_ >>> ((8 : Int32) &&& 31)).toInt8.toInt32))), (.int (nar .byte ((c1_ >>> ((0 : Int32) &&& 31)).toInt8.toInt32))), (.int (nar .byte ((c1_ >>> ((8 : Int32) &&& 31)).toInt8.toInt32))), (.int (nar .byte ((c2_ >>> ((0 : Int32) &&& 31)).toInt8.toInt32))), (.int (nar .byte ((c2_ >>> ((8 : Int32) &&& 31)).toInt8.toInt32)))] (1 : Int32) ((nar .byte ((c1_ >>> ((0 : Int32) &&& 31)).toInt8.toInt32))) ((nar .byte ((c1_ >>> ((8 : Int32) &&& 31)).toInt8.toInt32))) c1_ fm_ z_ h0 n0 O0 E0_ F1_ F2_ A3_ ZS6_ hfm_ ZS4_ hz_ ZS11_ ZS12_ ZS13_ (by decide) (by decide) (by decide) (by decide) (by decide) (by decide) rfl rfl (own_get16 hc1_) hc1_) K14 E0_ c15 hml pd_pIrC [(ii 1)] [] 0 (hb hby d20_12) rfl rfl rfl rfl rfl rfl
  obtain ⟨rfl, N17q, K18⟩ := hQ16
  have N17 := Fr.app N13 N17q
  have c19 : Kt p e below T16 st0 (mkF m 18 #[vr x_, vi 1] [(ii 128), (.int c1_)]) := fun t k => by
   refine c16 t ?_
   show S_ p e below T16 m 15 #[vr x_, vi 1] [(.int c1_)] t
   refine XS.sipush X16.here hx rfl (hb hby d20_15) ?_
   exact k
  by_cases hc20 : c1_ < (128 : Int32)
  ·have c21 : Kt p e below T16 st0 (mkF m 4 #[vr x_, vi 2] [(rr x_), (ii 2)]) := fun t k => by
    refine c19 t ?_
    show S_ p e below T16 m 18 #[vr x_, vi 1] [(ii 128), (.int c1_)] t
    refine yC X16.here hx rfl 18 23 rfl (hb hby d20_18) rfl (tlt hc20).1 ?_
    show S_ p e below T16 m 23 #[vr x_, vi 1] [] t
    refine XS.iinc X16.here hx rfl (hb hby d20_23) rfl (l' := #[vr x_, vi 2]) rfl ?_
    show S_ p e below T16 m 26 #[vr x_, vi 2] [] t
    refine yG X16.here hx rfl 26 2 rfl (hb hby d20_26) ?_
    show S_ p e below T16 m 2 #[vr x_, vi 2] [] t
    refine XS.iloadN X16.here hx rfl (hb hby d20_2) rfl ?_
    show S_ p e below T16 m 3 #[vr x_, vi 2] [(ii 2)] t
    refine XS.aloadN X16.here hx rfl (hb hby d20_3) rfl rfl ?_
    exact k
   obtain ⟨_, T22, L22, X22, hQ22, c22⟩ := kvirt X16 hx hZ hown (w28 hw) (w29 hw) (w31 hw) (w30 hw) (w32 hw) (w5 hw) (rm_lenU_3 l Z a0 hw [] x_ s_ ks_ [(.int (nar .byte ((c0_ >>> ((0 : Int32) &&& 31)).toInt8.toInt32))), (.int (nar .byte ((c0_ >>> ((8 : Int32) &&& 31)).toInt8.toInt32))), (.int (nar .byte ((c1_ >>> ((0 : Int32) &&& 31)).toInt8.toInt32))), (.int (nar .byte ((c1_ >>> ((8 : Int32) &&& 31)).toInt8.toInt32))), (.int (nar .byte ((c2_ >>> ((0 : Int32) &&& 31)).toInt8.toInt32))), (.int (nar .byte ((c2_ >>> ((8 : Int32) &&& 31)).toInt8.toInt32)))] z_ h0 n0 O0 E0_ F1_ F2_ A3_ ZS4_ hz_) K18 E0_ c21 hml pd_prI [] [(ii 2)] 1 (hb hby d20_4) rfl rfl rfl rfl rfl rfl
   obtain ⟨rfl, N23q, K24⟩ := hQ22
   have N23 := Fr.app N17 N23q
   have c25 : Kt p e below T22 st0 (mkF m 12 #[vr x_, vi 2] [(ii 2), (rr x_)]) := fun t k => by
    refine c22 t ?_
    show S_ p e below T22 m 7 #[vr x_, vi 2] [(ii 3), (ii 2)] t
    refine XS.icmpNo X22.here hx rfl (hb hby d20_7) rfl rfl ?_
    show S_ p e below T22 m 10 #[vr x_, vi 2] [] t
    refine XS.aloadN X22.here hx rfl (hb hby d20_10) rfl rfl ?_
    show S_ p e below T22 m 11 #[vr x_, vi 2] [(rr x_)] t
    refine XS.iloadN X22.here hx rfl (hb hby d20_11) rfl ?_
    exact k
   obtain ⟨_, T26, L26, X26, hQ26, c26⟩ := kvirt X22 hx hZ hown (w49 hw) (w50 hw) (w52 hw) (w51 hw) (w53 hw) (w5 hw) (rm_chU_3 l Z a0 hw [] x_ s_ ks_ [(.int (nar .byte ((c0_ >>> ((0 : Int32) &&& 31)).toInt8.toInt32))), (.int (nar .byte ((c0_ >>> ((8 : Int32) &&& 31)).toInt8.toInt32))), (.int (nar .byte ((c1_ >>> ((0 : Int32) &&& 31)).toInt8.toInt32))), (.int (nar .byte ((c1_ >>> ((8 : Int32) &&& 31)).toInt8.toInt32))), (.int (nar .byte ((c2_ >>> ((0 : Int32) &&& 31)).toInt8.toInt32))), (.int (nar .byte ((c2_ >>> ((8 : Int32) &&& 31)).toInt8.toInt32)))] (2 : Int32) ((nar .byte ((c2_ >>> ((0 : Int32) &&& 31)).toInt8.toInt32))) ((nar .byte ((c2_ >>> ((8 : Int32) &&& 31)).toInt8.toInt32))) c2_ fm_ z_ h0 n0 O0 E0_ F1_ F2_ A3_ ZS6_ hfm_ ZS4_ hz_ ZS11_ ZS12_ ZS13_ (by decide) (by decide) (by decide) (by decide) (by decide) (by decide) rfl rfl (own_get16 hc2_) hc2_) K24 E0_ c25 hml pd_pIrC [(ii 2)] [] 0 (hb hby d20_12) rfl rfl rfl rfl rfl rfl
   obtain ⟨rfl, N27q, K28⟩ := hQ26
   have N27 := Fr.app N23 N27q
   have c29 : Kt p e below T26 st0 (mkF m 18 #[vr x_, vi 2] [(ii 128), (.int c2_)]) := fun t k => by
    refine c26 t ?_
    show S_ p e below T26 m 15 #[vr x_, vi 2] [(.int c2_)] t
    refine XS.sipush X26.here hx rfl (hb hby d20_15) ?_
    exact k
   by_cases hc30 : c2_ < (128 : Int32)
   ·have c31 : Kt p e below T26 st0 (mkF m 4 #[vr x_, vi 3] [(rr x_), (ii 3)]) := fun t k => by
     refine c29 t ?_
     show S_ p e below T26 m 18 #[vr x_, vi 2] [(ii 128), (.int c2_)] t
     refine yC X26.here hx rfl 18 23 rfl (hb hby d20_18) rfl (tlt hc30).1 ?_
     show S_ p e below T26 m 23 #[vr x_, vi 2] [] t
     refine XS.iinc X26.here hx rfl (hb hby d20_23) rfl (l' := #[vr x_, vi 3]) rfl ?_
     show S_ p e below T26 m 26 #[vr x_, vi 3] [] t
     refine yG X26.here hx rfl 26 2 rfl (hb hby d20_26) ?_
     show S_ p e below T26 m 2 #[vr x_, vi 3] [] t
     refine XS.iloadN X26.here hx rfl (hb hby d20_2) rfl ?_
     show S_ p e below T26 m 3 #[vr x_, vi 3] [(ii 3)] t
     refine XS.aloadN X26.here hx rfl (hb hby d20_3) rfl rfl ?_
     exact k
    obtain ⟨_, T32, L32, X32, hQ32, c32⟩ := kvirt X26 hx hZ hown (w28 hw) (w29 hw) (w31 hw) (w30 hw) (w32 hw) (w5 hw) (rm_lenU_3 l Z a0 hw [] x_ s_ ks_ [(.int (nar .byte ((c0_ >>> ((0 : Int32) &&& 31)).toInt8.toInt32))), (.int (nar .byte ((c0_ >>> ((8 : Int32) &&& 31)).toInt8.toInt32))), (.int (nar .byte ((c1_ >>> ((0 : Int32) &&& 31)).toInt8.toInt32))), (.int (nar .byte ((c1_ >>> ((8 : Int32) &&& 31)).toInt8.toInt32))), (.int (nar .byte ((c2_ >>> ((0 : Int32) &&& 31)).toInt8.toInt32))), (.int (nar .byte ((c2_ >>> ((8 : Int32) &&& 31)).toInt8.toInt32)))] z_ h0 n0 O0 E0_ F1_ F2_ A3_ ZS4_ hz_) K28 E0_ c31 hml pd_prI [] [(ii 3)] 1 (hb hby d20_4) rfl rfl rfl rfl rfl rfl
    obtain ⟨rfl, N33q, K34⟩ := hQ32
    have N33 := Fr.app N27 N33q
    obtain ⟨fs, hr, hrun, hended, hW, hsame⟩ := X32.leave (v := some (ii 1)) (fun h => by rw [Bd.returns] at h; cases h)
    refine ⟨_, _, c32 _ ?_, hrun, hended, _, _, rfl, ?_, ⟨_, rfl⟩, hW, hsame.mono (by decide) (by decide)⟩
    ·show S_ p e below T32 m 7 #[vr x_, vi 3] [(ii 3), (ii 3)] _
     refine yC X32.here hx rfl 7 29 rfl (hb hby d20_7) rfl rfl ?_
     show S_ p e below T32 m 29 #[vr x_, vi 3] [] _
     refine XS.iconst X32.here hx rfl (hb hby d20_29) ?_
     show S_ p e below T32 m 30 #[vr x_, vi 3] [(ii 1)] _
     exact retN X32 hx (t := .boolean) Bd.returns (by simp) (hb hby d20_30) hr
    ·show Q_ascU_3 Z x_ s_ ks_ z_ fm_ c0_ c1_ c2_ h0 n0 _ T32.heap _
     rw [K34]
     exact (Or.inl ⟨rfl, N33, rfl, hc10, hc20, hc30⟩)
   ·obtain ⟨fs, hr, hrun, hended, hW, hsame⟩ := X26.leave (v := some (ii 0)) (fun h => by rw [Bd.returns] at h; cases h)
    refine ⟨_, _, c29 _ ?_, hrun, hended, _, _, rfl, ?_, ⟨_, rfl⟩, hW, hsame.mono (by decide) (by decide)⟩
    ·show S_ p e below T26 m 18 #[vr x_, vi 2] [(ii 128), (.int c2_)] _
     refine XS.icmpNo X26.here hx rfl (hb hby d20_18) rfl (flt hc30).1 ?_
     show S_ p e below T26 m 21 #[vr x_, vi 2] [] _
     refine XS.iconst X26.here hx rfl (hb hby d20_21) ?_
     show S_ p e below T26 m 22 #[vr x_, vi 2] [(ii 0)] _
     exact retN X26 hx (t := .boolean) Bd.returns (by simp) (hb hby d20_22) hr
    ·show Q_ascU_3 Z x_ s_ ks_ z_ fm_ c0_ c1_ c2_ h0 n0 _ T26.heap _
     rw [K28]
     exact (Or.inr (⟨rfl, N27, rfl, (fun q => hc30 (q.2.2))⟩))
  ·obtain ⟨fs, hr, hrun, hended, hW, hsame⟩ := X16.leave (v := some (ii 0)) (fun h => by rw [Bd.returns] at h; cases h)
   refine ⟨_, _, c19 _ ?_, hrun, hended, _, _, rfl, ?_, ⟨_, rfl⟩, hW, hsame.mono (by decide) (by decide)⟩
   ·show S_ p e below T16 m 18 #[vr x_, vi 1] [(ii 128), (.int c1_)] _
    refine XS.icmpNo X16.here hx rfl (hb hby d20_18) rfl (flt hc20).1 ?_
    show S_ p e below T16 m 21 #[vr x_, vi 1] [] _
    refine XS.iconst X16.here hx rfl (hb hby d20_21) ?_
    show S_ p e below T16 m 22 #[vr x_, vi 1] [(ii 0)] _
    exact retN X16 hx (t := .boolean) Bd.returns (by simp) (hb hby d20_22) hr
   ·show Q_ascU_3 Z x_ s_ ks_ z_ fm_ c0_ c1_ c2_ h0 n0 _ T16.heap _
    rw [K18]
    exact (Or.inr (⟨rfl, N17, rfl, (fun q => hc20 (q.2.1))⟩))
 ·obtain ⟨fs, hr, hrun, hended, hW, hsame⟩ := X6.leave (v := some (ii 0)) (fun h => by rw [Bd.returns] at h; cases h)
  refine ⟨_, _, c9 _ ?_, hrun, hended, _, _, rfl, ?_, ⟨_, rfl⟩, hW, hsame.mono (by decide) (by decide)⟩
  ·show S_ p e below T6 m 18 #[vr x_, vi 0] [(ii 128), (.int c0_)] _
   refine XS.icmpNo X6.here hx rfl (hb hby d20_18) rfl (flt hc10).1 ?_
   show S_ p e below T6 m 21 #[vr x_, vi 0] [] _
   refine XS.iconst X6.here hx rfl (hb hby d20_21) ?_
   show S_ p e below T6 m 22 #[vr x_, vi 0] [(ii 0)] _
   exact retN X6 hx (t := .boolean) Bd.returns (by simp) (hb hby d20_22) hr
  ·show Q_ascU_3 Z x_ s_ ks_ z_ fm_ c0_ c1_ c2_ h0 n0 _ T6.heap _
   rw [K8]
   exact (Or.inr (⟨rfl, N7, rfl, (fun q => hc10 (q.1))⟩))
theorem ef_ascL_4 (m : MethodId) (x_ : Addr) : entryFrame m #[(rr x_)] 2 = mkF m 0 #[vr x_, u_] [] := by first | (simp [entryFrame, mkF, argsToLocals, Value.category]; done) | rfl
def Q_ascL_4 (Z : State) (x_ : Addr) (s_ : Addr) (ks_ : ClassId) (z_ : Int32) (fm_ : Value) (c0_ : Int32) (c1_ : Int32) (c2_ : Int32) (c3_ : Int32) (h0 : Heap) (n0 : Nat) (v : Option Value) (h : Heap) (L : List Loc) : Prop := (v = some (ii 1) ∧ Fr n0 L ∧ h = h0 ∧ c0_ < (128 : Int32) ∧ c1_ < (128 : Int32) ∧ c2_ < (128 : Int32) ∧ c3_ < (128 : Int32)) ∨ (v = some (ii 0) ∧ Fr n0 L ∧ h = h0 ∧ ¬ (c0_ < (128 : Int32) ∧ c1_ < (128 : Int32) ∧ c2_ < (128 : Int32) ∧ c3_ < (128 : Int32)))
set_option maxRecDepth 65536 in
set_option maxHeartbeats 40000000 in
theorem rm_ascL_4 (l : Launch) (Z : State) (a0 : Array Value) (hw : HW Z a0) (ws : List Jvm.Cond) (x_ : Addr) (s_ : Addr) (ks_ : ClassId) (z_ : Int32) (fm_ : Value) (c0_ : Int32) (c1_ : Int32) (c2_ : Int32) (c3_ : Int32) (h0 : Heap) (n0 : Nat) (O0 : Old Z n0 h0) (E0_ : Exa Z h0 x_ nm0) (F1_ : Fld Z h0 x_ nm0 "coder" "B" (ii 0)) (F2_ : Fld Z h0 x_ nm0 "value" "[B" (rr s_)) (A3_ : Arv Z h0 s_ ks_ .byte (4 : Int32) [(.int (nar .byte (c0_.toInt8.toInt32))), (.int (nar .byte (c1_.toInt8.toInt32))), (.int (nar .byte (c2_.toInt8.toInt32))), (.int (nar .byte (c3_.toInt8.toInt32)))] (ii 0)) (ZS4_ : Sta Z Z.heap nm0 "COMPACT_STRINGS" "Z" (.int z_)) (hz_ : ¬ (z_ = (0 : Int32))) (ZS6_ : Sta Z Z.heap nm2 "SIOOBE_FORMATTER" nm4 fm_) (hfm_ : fm_.isRef = true) (hc0_ : nar .char c0_ = c0_) (hc1_ : nar .char c1_ = c1_) (hc2_ : nar .char c2_ = c2_) (hc3_ : nar .char c3_ = c3_) (hs0_ : ¬ ((255 : Int32) < c0_)) (hs1_ : ¬ ((255 : Int32) < c1_)) (hs2_ : ¬ ((255 : Int32) < c2_)) (hs3_ : ¬ ((255 : Int32) < c3_)) :
  MFP l Z (⟨nm3, "isAscii", "(Ljava/lang/String;)Z"⟩ : MethodName) prog_48_method_3_code 2 (some .boolean) ({ frames := 4, cells := 0, slots := 0, locals := 53 } : Room) ws #[(rr x_)] h0 (Q_ascL_4 Z x_ s_ ks_ z_ fm_ c0_ c1_ c2_ c3_ h0 n0) := by
 refine MetFree.of_bodySF (plainFor_of_name pn_com_example_countersign_countersign_Utf8) hisR ?_
 intro p e s m args below meth c s₁ Bd hml0 hP hK
 obtain ⟨rfl, hZ, hh⟩ := hP
 have hx := Bd.exec
 have hby := Bd.bytes
 have hml : c.maxLocals = 2 := hml0
 have hown : s.vm.findClass nm3 = some m.cls := findClass_of_methodNamed Bd.named
 have hnm := (name_of_methodNamed Bd.named Bd.method).1
 have X0 : Stand p l e ({ frames := 4, cells := 0, slots := 0, locals := 53 } : Room) s m #[(rr x_)] below meth c s₁ [] 0 0 := Stand.of_body Bd
 have e0 : s₁.heap = h0 := by rw [← hh, Bd.state]; rfl
 have N0 := Fr.nil n0
 have kp0 : Keep h0 h0 [] := Keep.refl _ _
 have c0 : ∀ t, S_ p e below s₁ m 0 #[vr x_, u_] [] t → Steps p.tables e below (s₁.setTop (entryFrame m #[(rr x_)] 2)) t := fun t k => castTop (ef_ascL_4 m x_) k
 generalize s₁.setTop (entryFrame m #[(rr x_)] 2) = st0 at c0 ⊢
 replace c0 : Kt p e below s₁ st0 (mkF m 0 #[vr x_, u_] []) := c0
 have c1 : Kt p e below s₁ st0 (mkF m 4 #[vr x_, vi 0] [(rr x_), (ii 0)]) := fun t k => by
  refine c0 t ?_
  show S_ p e below s₁ m 0 #[vr x_, u_] [] t
  refine XS.iconst X0.here hx rfl (hb hby d20_0) ?_
  show S_ p e below s₁ m 1 #[vr x_, u_] [(ii 0)] t
  refine XS.istoreN X0.here hx rfl (hb hby d20_1) rfl (l' := #[vr x_, vi 0]) rfl ?_
  show S_ p e below s₁ m 2 #[vr x_, vi 0] [] t
  refine XS.iloadN X0.here hx rfl (hb hby d20_2) rfl ?_
  show S_ p e below s₁ m 3 #[vr x_, vi 0] [(ii 0)] t
  refine XS.aloadN X0.here hx rfl (hb hby d20_3) rfl rfl ?_
  exact k
 obtain ⟨_, T2, L2, X2, hQ2, c2⟩ := kvirt X0 hx hZ hown (w28 hw) (w29 hw) (w31 hw) (w30 hw) (w32 hw) (w5 hw) (rm_lenL_4 l Z a0 hw [] x_ s_ ks_ [(.int (nar .byte (c0_.toInt8.toInt32))), (.int (nar .byte (c1_.toInt8.toInt32))), (.int (nar .byte (c2_.toInt8.toInt32))), (.int (nar .byte (c3_.toInt8.toInt32)))] z_ h0 n0 O0 E0_ F1_ F2_ A3_ ZS4_ hz_) e0 E0_ c1 hml pd_prI [] [(ii 0)] 1 (hb hby d20_4) rfl rfl rfl rfl rfl rfl
 obtain ⟨rfl, N3q, K4⟩ := hQ2
 have N3 := Fr.app N0 N3q
 have c5 : Kt p e below T2 st0 (mkF m 12 #[vr x_, vi 0] [(ii 0), (rr x_)]) := fun t k => by
  refine c2 t ?_
  show S_ p e below T2 m 7 #[vr x_, vi 0] [(ii 4), (ii 0)] t
  refine XS.icmpNo X2.here hx rfl (hb hby d20_7) rfl rfl ?_
  show S_ p e below T2 m 10 #[vr x_, vi 0] [] t
  refine XS.aloadN X2.here hx rfl (hb hby d20_10) rfl rfl ?_
  show S_ p e below T2 m 11 #[vr x_, vi 0] [(rr x_)] t
  refine XS.iloadN X2.here hx rfl (hb hby d20_11) rfl ?_
  exact k
 obtain ⟨_, T6, L6, X6, hQ6, c6⟩ := kvirt X2 hx hZ hown (w49 hw) (w50 hw) (w52 hw) (w51 hw) (w53 hw) (w5 hw) (rm_chL l Z a0 hw [] x_ s_ ks_ (4 : Int32) [(.int (nar .byte (c0_.toInt8.toInt32))), (.int (nar .byte (c1_.toInt8.toInt32))), (.int (nar .byte (c2_.toInt8.toInt32))), (.int (nar .byte (c3_.toInt8.toInt32)))] (0 : Int32) ((nar .byte (c0_.toInt8.toInt32))) c0_ fm_ z_ h0 n0 O0 E0_ F1_ F2_ A3_ ZS6_ hfm_ ZS4_ hz_ (by decide) (by decide) rfl (own_chL hc0_ hs0_) hc0_) K4 E0_ c5 hml pd_pIrC [(ii 0)] [] 0 (hb hby d20_12) rfl rfl rfl rfl rfl rfl
 obtain ⟨rfl, N7q, K8⟩ := hQ6
 have N7 := Fr.app N3 N7q
 have c9 : Kt p e below T6 st0 (mkF m 18 #[vr x_, vi 0] [(ii 128), (.int c0_)]) := fun t k => by
  refine c6 t ?_
  show S_ p e below T6 m 15 #[vr x_, vi 0] [(.int c0_)] t
  refine XS.sipush X6.here hx rfl (hb hby d20_15) ?_
  exact k
 by_cases hc10 : c0_ < (128 : Int32)
 ·have c11 : Kt p e below T6 st0 (mkF m 4 #[vr x_, vi 1] [(rr x_), (ii 1)]) := fun t k => by
   refine c9 t ?_
   show S_ p e below T6 m 18 #[vr x_, vi 0] [(ii 128), (.int c0_)] t
   refine yC X6.here hx rfl 18 23 rfl (hb hby d20_18) rfl (tlt hc10).1 ?_
   show S_ p e below T6 m 23 #[vr x_, vi 0] [] t
   refine XS.iinc X6.here hx rfl (hb hby d20_23) rfl (l' := #[vr x_, vi 1]) rfl ?_
   show S_ p e below T6 m 26 #[vr x_, vi 1] [] t
   refine yG X6.here hx rfl 26 2 rfl (hb hby d20_26) ?_
   show S_ p e below T6 m 2 #[vr x_, vi 1] [] t
   refine XS.iloadN X6.here hx rfl (hb hby d20_2) rfl ?_
   show S_ p e below T6 m 3 #[vr x_, vi 1] [(ii 1)] t
   refine XS.aloadN X6.here hx rfl (hb hby d20_3) rfl rfl ?_
   exact k
  obtain ⟨_, T12, L12, X12, hQ12, c12⟩ := kvirt X6 hx hZ hown (w28 hw) (w29 hw) (w31 hw) (w30 hw) (w32 hw) (w5 hw) (rm_lenL_4 l Z a0 hw [] x_ s_ ks_ [(.int (nar .byte (c0_.toInt8.toInt32))), (.int (nar .byte (c1_.toInt8.toInt32))), (.int (nar .byte (c2_.toInt8.toInt32))), (.int (nar .byte (c3_.toInt8.toInt32)))] z_ h0 n0 O0 E0_ F1_ F2_ A3_ ZS4_ hz_) K8 E0_ c11 hml pd_prI [] [(ii 1)] 1 (hb hby d20_4) rfl rfl rfl rfl rfl rfl
  obtain ⟨rfl, N13q, K14⟩ := hQ12
  have N13 := Fr.app N7 N13q
  have c15 : Kt p e below T12 st0 (mkF m 12 #[vr x_, vi 1] [(ii 1), (rr x_)]) := fun t k => by
   refine c12 t ?_
   show S_ p e below T12 m 7 #[vr x_, vi 1] [(ii 4), (ii 1)] t
   refine XS.icmpNo X12.here hx rfl (hb hby d20_7) rfl rfl ?_
   show S_ p e below T12 m 10 #[vr x_, vi 1] [] t
   refine XS.aloadN X12.here hx rfl (hb hby d20_10) rfl rfl ?_
   show S_ p e below T12 m 11 #[vr x_, vi 1] [(rr x_)] t
   refine XS.iloadN X12.here hx rfl (hb hby d20_11) rfl ?_
   exact k
  obtain ⟨_, T16, L16, X16, hQ16, c16⟩ := kvirt X12 hx hZ hown (w49 hw) (w50 hw) (w52 hw) (w51 hw) (w53 hw) (w5 hw) (rm_chL l Z a0 hw [] x_ s_ ks_ (4 : Int32) [(.int (nar .byte (c0_.toInt8.toInt32))), (.int (nar .byte (c1_.toInt8.toInt32))), (.int (nar .byte (c2_.toInt8.toInt32))), (.int (nar .byte (c3_.toInt8.toInt32)))] (1 : Int32) ((nar .byte (c1_.toInt8.toInt32))) c1_ fm_ z_ h0 n0 O0 E0_ F1_ F2_ A3_ ZS6_ hfm_ ZS4_ hz_ (by decide) (by decide) rfl (own_chL hc1_ hs1_) hc1_) K14 E0_ c15 hml pd_pIrC [(ii 1)] [] 0 (hb hby d20_12) rfl rfl rfl rfl rfl rfl
  obtain ⟨rfl, N17q, K18⟩ := hQ16
  have N17 := Fr.app N13 N17q
  have c19 : Kt p e below T16 st0 (mkF m 18 #[vr x_, vi 1] [(ii 128), (.int c1_)]) := fun t k => by
   refine c16 t ?_
   show S_ p e below T16 m 15 #[vr x_, vi 1] [(.int c1_)] t
   refine XS.sipush X16.here hx rfl (hb hby d20_15) ?_
   exact k
  by_cases hc20 : c1_ < (128 : Int32)
  ·have c21 : Kt p e below T16 st0 (mkF m 4 #[vr x_, vi 2] [(rr x_), (ii 2)]) := fun t k => by
    refine c19 t ?_
    show S_ p e below T16 m 18 #[vr x_, vi 1] [(ii 128), (.int c1_)] t
    refine yC X16.here hx rfl 18 23 rfl (hb hby d20_18) rfl (tlt hc20).1 ?_
    show S_ p e below T16 m 23 #[vr x_, vi 1] [] t
    refine XS.iinc X16.here hx rfl (hb hby d20_23) rfl (l' := #[vr x_, vi 2]) rfl ?_
    show S_ p e below T16 m 26 #[vr x_, vi 2] [] t
    refine yG X16.here hx rfl 26 2 rfl (hb hby d20_26) ?_
    show S_ p e below T16 m 2 #[vr x_, vi 2] [] t
    refine XS.iloadN X16.here hx rfl (hb hby d20_2) rfl ?_
    show S_ p e below T16 m 3 #[vr x_, vi 2] [(ii 2)] t
    refine XS.aloadN X16.here hx rfl (hb hby d20_3) rfl rfl ?_
    exact k
   obtain ⟨_, T22, L22, X22, hQ22, c22⟩ := kvirt X16 hx hZ hown (w28 hw) (w29 hw) (w31 hw) (w30 hw) (w32 hw) (w5 hw) (rm_lenL_4 l Z a0 hw [] x_ s_ ks_ [(.int (nar .byte (c0_.toInt8.toInt32))), (.int (nar .byte (c1_.toInt8.toInt32))), (.int (nar .byte (c2_.toInt8.toInt32))), (.int (nar .byte (c3_.toInt8.toInt32)))] z_ h0 n0 O0 E0_ F1_ F2_ A3_ ZS4_ hz_) K18 E0_ c21 hml pd_prI [] [(ii 2)] 1 (hb hby d20_4) rfl rfl rfl rfl rfl rfl
   obtain ⟨rfl, N23q, K24⟩ := hQ22
   have N23 := Fr.app N17 N23q
   have c25 : Kt p e below T22 st0 (mkF m 12 #[vr x_, vi 2] [(ii 2), (rr x_)]) := fun t k => by
    refine c22 t ?_
    show S_ p e below T22 m 7 #[vr x_, vi 2] [(ii 4), (ii 2)] t
    refine XS.icmpNo X22.here hx rfl (hb hby d20_7) rfl rfl ?_
    show S_ p e below T22 m 10 #[vr x_, vi 2] [] t
    refine XS.aloadN X22.here hx rfl (hb hby d20_10) rfl rfl ?_
    show S_ p e below T22 m 11 #[vr x_, vi 2] [(rr x_)] t
    refine XS.iloadN X22.here hx rfl (hb hby d20_11) rfl ?_
    exact k
   obtain ⟨_, T26, L26, X26, hQ26, c26⟩ := kvirt X22 hx hZ hown (w49 hw) (w50 hw) (w52 hw) (w51 hw) (w53 hw) (w5 hw) (rm_chL l Z a0 hw [] x_ s_ ks_ (4 : Int32) [(.int (nar .byte (c0_.toInt8.toInt32))), (.int (nar .byte (c1_.toInt8.toInt32))), (.int (nar .byte (c2_.toInt8.toInt32))), (.int (nar .byte (c3_.toInt8.toInt32)))] (2 : Int32) ((nar .byte (c2_.toInt8.toInt32))) c2_ fm_ z_ h0 n0 O0 E0_ F1_ F2_ A3_ ZS6_ hfm_ ZS4_ hz_ (by decide) (by decide) rfl (own_chL hc2_ hs2_) hc2_) K24 E0_ c25 hml pd_pIrC [(ii 2)] [] 0 (hb hby d20_12) rfl rfl rfl rfl rfl rfl
   obtain ⟨rfl, N27q, K28⟩ := hQ26
   have N27 := Fr.app N23 N27q
   have c29 : Kt p e below T26 st0 (mkF m 18 #[vr x_, vi 2] [(ii 128), (.int c2_)]) := fun t k => by
    refine c26 t ?_
    show S_ p e below T26 m 15 #[vr x_, vi 2] [(.int c2_)] t
    refine XS.sipush X26.here hx rfl (hb hby d20_15) ?_
    exact k
   by_cases hc30 : c2_ < (128 : Int32)
   ·have c31 : Kt p e below T26 st0 (mkF m 4 #[vr x_, vi 3] [(rr x_), (ii 3)]) := fun t k => by
     refine c29 t ?_
     show S_ p e below T26 m 18 #[vr x_, vi 2] [(ii 128), (.int c2_)] t
     refine yC X26.here hx rfl 18 23 rfl (hb hby d20_18) rfl (tlt hc30).1 ?_
     show S_ p e below T26 m 23 #[vr x_, vi 2] [] t
     refine XS.iinc X26.here hx rfl (hb hby d20_23) rfl (l' := #[vr x_, vi 3]) rfl ?_
     show S_ p e below T26 m 26 #[vr x_, vi 3] [] t
     refine yG X26.here hx rfl 26 2 rfl (hb hby d20_26) ?_
     show S_ p e below T26 m 2 #[vr x_, vi 3] [] t
     refine XS.iloadN X26.here hx rfl (hb hby d20_2) rfl ?_
     show S_ p e below T26 m 3 #[vr x_, vi 3] [(ii 3)] t
     refine XS.aloadN X26.here hx rfl (hb hby d20_3) rfl rfl ?_
     exact k
    obtain ⟨_, T32, L32, X32, hQ32, c32⟩ := kvirt X26 hx hZ hown (w28 hw) (w29 hw) (w31 hw) (w30 hw) (w32 hw) (w5 hw) (rm_lenL_4 l Z a0 hw [] x_ s_ ks_ [(.int (nar .byte (c0_.toInt8.toInt32))), (.int (nar .byte (c1_.toInt8.toInt32))), (.int (nar .byte (c2_.toInt8.toInt32))), (.int (nar .byte (c3_.toInt8.toInt32)))] z_ h0 n0 O0 E0_ F1_ F2_ A3_ ZS4_ hz_) K28 E0_ c31 hml pd_prI [] [(ii 3)] 1 (hb hby d20_4) rfl rfl rfl rfl rfl rfl
    obtain ⟨rfl, N33q, K34⟩ := hQ32
    have N33 := Fr.app N27 N33q
    have c35 : Kt p e below T32 st0 (mkF m 12 #[vr x_, vi 3] [(ii 3), (rr x_)]) := fun t k => by
     refine c32 t ?_
     show S_ p e below T32 m 7 #[vr x_, vi 3] [(ii 4), (ii 3)] t
     refine XS.icmpNo X32.here hx rfl (hb hby d20_7) rfl rfl ?_
     show S_ p e below T32 m 10 #[vr x_, vi 3] [] t
     refine XS.aloadN X32.here hx rfl (hb hby d20_10) rfl rfl ?_
     show S_ p e below T32 m 11 #[vr x_, vi 3] [(rr x_)] t
     refine XS.iloadN X32.here hx rfl (hb hby d20_11) rfl ?_
     exact k
    obtain ⟨_, T36, L36, X36, hQ36, c36⟩ := kvirt X32 hx hZ hown (w49 hw) (w50 hw) (w52 hw) (w51 hw) (w53 hw) (w5 hw) (rm_chL l Z a0 hw [] x_ s_ ks_ (4 : Int32) [(.int (nar .byte (c0_.toInt8.toInt32))), (.int (nar .byte (c1_.toInt8.toInt32))), (.int (nar .byte (c2_.toInt8.toInt32))), (.int (nar .byte (c3_.toInt8.toInt32)))] (3 : Int32) ((nar .byte (c3_.toInt8.toInt32))) c3_ fm_ z_ h0 n0 O0 E0_ F1_ F2_ A3_ ZS6_ hfm_ ZS4_ hz_ (by decide) (by decide) rfl (own_chL hc3_ hs3_) hc3_) K34 E0_ c35 hml pd_pIrC [(ii 3)] [] 0 (hb hby d20_12) rfl rfl rfl rfl rfl rfl
    obtain ⟨rfl, N37q, K38⟩ := hQ36
    have N37 := Fr.app N33 N37q
    have c39 : Kt p e below T36 st0 (mkF m 18 #[vr x_, vi 3] [(ii 128), (.int c3_)]) := fun t k => by
     refine c36 t ?_
     show S_ p e below T36 m 15 #[vr x_, vi 3] [(.int c3_)] t
     refine XS.sipush X36.here hx rfl (hb hby d20_15) ?_
     exact k
    by_cases hc40 : c3_ < (128 : Int32)
    ·have c41 : Kt p e below T36 st0 (mkF m 4 #[vr x_, vi 4] [(rr x_), (ii 4)]) := fun t k => by
      refine c39 t ?_
      show S_ p e below T36 m 18 #[vr x_, vi 3] [(ii 128), (.int c3_)] t
      refine yC X36.here hx rfl 18 23 rfl (hb hby d20_18) rfl (tlt hc40).1 ?_
      show S_ p e below T36 m 23 #[vr x_, vi 3] [] t
      refine XS.iinc X36.here hx rfl (hb hby d20_23) rfl (l' := #[vr x_, vi 4]) rfl ?_
      show S_ p e below T36 m 26 #[vr x_, vi 4] [] t
      refine yG X36.here hx rfl 26 2 rfl (hb hby d20_26) ?_
      show S_ p e below T36 m 2 #[vr x_, vi 4] [] t
      refine XS.iloadN X36.here hx rfl (hb hby d20_2) rfl ?_
      show S_ p e below T36 m 3 #[vr x_, vi 4] [(ii 4)] t
      refine XS.aloadN X36.here hx rfl (hb hby d20_3) rfl rfl ?_
      exact k
     obtain ⟨_, T42, L42, X42, hQ42, c42⟩ := kvirt X36 hx hZ hown (w28 hw) (w29 hw) (w31 hw) (w30 hw) (w32 hw) (w5 hw) (rm_lenL_4 l Z a0 hw [] x_ s_ ks_ [(.int (nar .byte (c0_.toInt8.toInt32))), (.int (nar .byte (c1_.toInt8.toInt32))), (.int (nar .byte (c2_.toInt8.toInt32))), (.int (nar .byte (c3_.toInt8.toInt32)))] z_ h0 n0 O0 E0_ F1_ F2_ A3_ ZS4_ hz_) K38 E0_ c41 hml pd_prI [] [(ii 4)] 1 (hb hby d20_4) rfl rfl rfl rfl rfl rfl
     obtain ⟨rfl, N43q, K44⟩ := hQ42
     have N43 := Fr.app N37 N43q
     obtain ⟨fs, hr, hrun, hended, hW, hsame⟩ := X42.leave (v := some (ii 1)) (fun h => by rw [Bd.returns] at h; cases h)
     refine ⟨_, _, c42 _ ?_, hrun, hended, _, _, rfl, ?_, ⟨_, rfl⟩, hW, hsame.mono (by decide) (by decide)⟩
     ·show S_ p e below T42 m 7 #[vr x_, vi 4] [(ii 4), (ii 4)] _
      refine yC X42.here hx rfl 7 29 rfl (hb hby d20_7) rfl rfl ?_
      show S_ p e below T42 m 29 #[vr x_, vi 4] [] _
      refine XS.iconst X42.here hx rfl (hb hby d20_29) ?_
      show S_ p e below T42 m 30 #[vr x_, vi 4] [(ii 1)] _
      exact retN X42 hx (t := .boolean) Bd.returns (by simp) (hb hby d20_30) hr
     ·show Q_ascL_4 Z x_ s_ ks_ z_ fm_ c0_ c1_ c2_ c3_ h0 n0 _ T42.heap _
      rw [K44]
      exact (Or.inl ⟨rfl, N43, rfl, hc10, hc20, hc30, hc40⟩)
    ·obtain ⟨fs, hr, hrun, hended, hW, hsame⟩ := X36.leave (v := some (ii 0)) (fun h => by rw [Bd.returns] at h; cases h)
     refine ⟨_, _, c39 _ ?_, hrun, hended, _, _, rfl, ?_, ⟨_, rfl⟩, hW, hsame.mono (by decide) (by decide)⟩
     ·show S_ p e below T36 m 18 #[vr x_, vi 3] [(ii 128), (.int c3_)] _
      refine XS.icmpNo X36.here hx rfl (hb hby d20_18) rfl (flt hc40).1 ?_
      show S_ p e below T36 m 21 #[vr x_, vi 3] [] _
      refine XS.iconst X36.here hx rfl (hb hby d20_21) ?_
      show S_ p e below T36 m 22 #[vr x_, vi 3] [(ii 0)] _
      exact retN X36 hx (t := .boolean) Bd.returns (by simp) (hb hby d20_22) hr
     ·show Q_ascL_4 Z x_ s_ ks_ z_ fm_ c0_ c1_ c2_ c3_ h0 n0 _ T36.heap _
      rw [K38]
      exact (Or.inr (⟨rfl, N37, rfl, (fun q => hc40 (q.2.2.2))⟩))
   ·obtain ⟨fs, hr, hrun, hended, hW, hsame⟩ := X26.leave (v := some (ii 0)) (fun h => by rw [Bd.returns] at h; cases h)
    refine ⟨_, _, c29 _ ?_, hrun, hended, _, _, rfl, ?_, ⟨_, rfl⟩, hW, hsame.mono (by decide) (by decide)⟩
    ·show S_ p e below T26 m 18 #[vr x_, vi 2] [(ii 128), (.int c2_)] _
     refine XS.icmpNo X26.here hx rfl (hb hby d20_18) rfl (flt hc30).1 ?_
     show S_ p e below T26 m 21 #[vr x_, vi 2] [] _
     refine XS.iconst X26.here hx rfl (hb hby d20_21) ?_
     show S_ p e below T26 m 22 #[vr x_, vi 2] [(ii 0)] _
     exact retN X26 hx (t := .boolean) Bd.returns (by simp) (hb hby d20_22) hr
    ·show Q_ascL_4 Z x_ s_ ks_ z_ fm_ c0_ c1_ c2_ c3_ h0 n0 _ T26.heap _
     rw [K28]
     exact (Or.inr (⟨rfl, N27, rfl, (fun q => hc30 (q.2.2.1))⟩))
  ·obtain ⟨fs, hr, hrun, hended, hW, hsame⟩ := X16.leave (v := some (ii 0)) (fun h => by rw [Bd.returns] at h; cases h)
   refine ⟨_, _, c19 _ ?_, hrun, hended, _, _, rfl, ?_, ⟨_, rfl⟩, hW, hsame.mono (by decide) (by decide)⟩
   ·show S_ p e below T16 m 18 #[vr x_, vi 1] [(ii 128), (.int c1_)] _
    refine XS.icmpNo X16.here hx rfl (hb hby d20_18) rfl (flt hc20).1 ?_
    show S_ p e below T16 m 21 #[vr x_, vi 1] [] _
    refine XS.iconst X16.here hx rfl (hb hby d20_21) ?_
    show S_ p e below T16 m 22 #[vr x_, vi 1] [(ii 0)] _
    exact retN X16 hx (t := .boolean) Bd.returns (by simp) (hb hby d20_22) hr
   ·show Q_ascL_4 Z x_ s_ ks_ z_ fm_ c0_ c1_ c2_ c3_ h0 n0 _ T16.heap _
    rw [K18]
    exact (Or.inr (⟨rfl, N17, rfl, (fun q => hc20 (q.2.1))⟩))
 ·obtain ⟨fs, hr, hrun, hended, hW, hsame⟩ := X6.leave (v := some (ii 0)) (fun h => by rw [Bd.returns] at h; cases h)
  refine ⟨_, _, c9 _ ?_, hrun, hended, _, _, rfl, ?_, ⟨_, rfl⟩, hW, hsame.mono (by decide) (by decide)⟩
  ·show S_ p e below T6 m 18 #[vr x_, vi 0] [(ii 128), (.int c0_)] _
   refine XS.icmpNo X6.here hx rfl (hb hby d20_18) rfl (flt hc10).1 ?_
   show S_ p e below T6 m 21 #[vr x_, vi 0] [] _
   refine XS.iconst X6.here hx rfl (hb hby d20_21) ?_
   show S_ p e below T6 m 22 #[vr x_, vi 0] [(ii 0)] _
   exact retN X6 hx (t := .boolean) Bd.returns (by simp) (hb hby d20_22) hr
  ·show Q_ascL_4 Z x_ s_ ks_ z_ fm_ c0_ c1_ c2_ c3_ h0 n0 _ T6.heap _
   rw [K8]
   exact (Or.inr (⟨rfl, N7, rfl, (fun q => hc10 (q.1))⟩))
theorem ef_ascU_4 (m : MethodId) (x_ : Addr) : entryFrame m #[(rr x_)] 2 = mkF m 0 #[vr x_, u_] [] := by first | (simp [entryFrame, mkF, argsToLocals, Value.category]; done) | rfl
def Q_ascU_4 (Z : State) (x_ : Addr) (s_ : Addr) (ks_ : ClassId) (z_ : Int32) (fm_ : Value) (c0_ : Int32) (c1_ : Int32) (c2_ : Int32) (c3_ : Int32) (h0 : Heap) (n0 : Nat) (v : Option Value) (h : Heap) (L : List Loc) : Prop := (v = some (ii 1) ∧ Fr n0 L ∧ h = h0 ∧ c0_ < (128 : Int32) ∧ c1_ < (128 : Int32) ∧ c2_ < (128 : Int32) ∧ c3_ < (128 : Int32)) ∨ (v = some (ii 0) ∧ Fr n0 L ∧ h = h0 ∧ ¬ (c0_ < (128 : Int32) ∧ c1_ < (128 : Int32) ∧ c2_ < (128 : Int32) ∧ c3_ < (128 : Int32)))
set_option maxRecDepth 65536 in
set_option maxHeartbeats 40000000 in
theorem rm_ascU_4 (l : Launch) (Z : State) (a0 : Array Value) (hw : HW Z a0) (ws : List Jvm.Cond) (x_ : Addr) (s_ : Addr) (ks_ : ClassId) (z_ : Int32) (fm_ : Value) (c0_ : Int32) (c1_ : Int32) (c2_ : Int32) (c3_ : Int32) (h0 : Heap) (n0 : Nat) (O0 : Old Z n0 h0) (E0_ : Exa Z h0 x_ nm0) (F1_ : Fld Z h0 x_ nm0 "coder" "B" (ii 1)) (F2_ : Fld Z h0 x_ nm0 "value" "[B" (rr s_)) (A3_ : Arv Z h0 s_ ks_ .byte (8 : Int32) [(.int (nar .byte ((c0_ >>> ((0 : Int32) &&& 31)).toInt8.toInt32))), (.int (nar .byte ((c0_ >>> ((8 : Int32) &&& 31)).toInt8.toInt32))), (.int (nar .byte ((c1_ >>> ((0 : Int32) &&& 31)).toInt8.toInt32))), (.int (nar .byte ((c1_ >>> ((8 : Int32) &&& 31)).toInt8.toInt32))), (.int (nar .byte ((c2_ >>> ((0 : Int32) &&& 31)).toInt8.toInt32))), (.int (nar .byte ((c2_ >>> ((8 : Int32) &&& 31)).toInt8.toInt32))), (.int (nar .byte ((c3_ >>> ((0 : Int32) &&& 31)).toInt8.toInt32))), (.int (nar .byte ((c3_ >>> ((8 : Int32) &&& 31)).toInt8.toInt32)))] (ii 0)) (ZS4_ : Sta Z Z.heap nm0 "COMPACT_STRINGS" "Z" (.int z_)) (hz_ : ¬ (z_ = (0 : Int32))) (ZS6_ : Sta Z Z.heap nm2 "SIOOBE_FORMATTER" nm4 fm_) (hfm_ : fm_.isRef = true) (hc0_ : nar .char c0_ = c0_) (hc1_ : nar .char c1_ = c1_) (hc2_ : nar .char c2_ = c2_) (hc3_ : nar .char c3_ = c3_) (ZS12_ : Sta Z Z.heap nm1 "$assertionsDisabled" "Z" (ii 1)) (ZS13_ : Sta Z Z.heap nm1 "HI_BYTE_SHIFT" "I" (ii 0)) (ZS14_ : Sta Z Z.heap nm1 "LO_BYTE_SHIFT" "I" (ii 8)) :
  MFP l Z (⟨nm3, "isAscii", "(Ljava/lang/String;)Z"⟩ : MethodName) prog_48_method_3_code 2 (some .boolean) ({ frames := 5, cells := 0, slots := 0, locals := 66 } : Room) ws #[(rr x_)] h0 (Q_ascU_4 Z x_ s_ ks_ z_ fm_ c0_ c1_ c2_ c3_ h0 n0) := by
 refine MetFree.of_bodySF (plainFor_of_name pn_com_example_countersign_countersign_Utf8) hisR ?_
 intro p e s m args below meth c s₁ Bd hml0 hP hK
 obtain ⟨rfl, hZ, hh⟩ := hP
 have hx := Bd.exec
 have hby := Bd.bytes
 have hml : c.maxLocals = 2 := hml0
 have hown : s.vm.findClass nm3 = some m.cls := findClass_of_methodNamed Bd.named
 have hnm := (name_of_methodNamed Bd.named Bd.method).1
 have X0 : Stand p l e ({ frames := 5, cells := 0, slots := 0, locals := 66 } : Room) s m #[(rr x_)] below meth c s₁ [] 0 0 := Stand.of_body Bd
 have e0 : s₁.heap = h0 := by rw [← hh, Bd.state]; rfl
 have N0 := Fr.nil n0
 have kp0 : Keep h0 h0 [] := Keep.refl _ _
 have c0 : ∀ t, S_ p e below s₁ m 0 #[vr x_, u_] [] t → Steps p.tables e below (s₁.setTop (entryFrame m #[(rr x_)] 2)) t := fun t k => castTop (ef_ascU_4 m x_) k
 generalize s₁.setTop (entryFrame m #[(rr x_)] 2) = st0 at c0 ⊢
 replace c0 : Kt p e below s₁ st0 (mkF m 0 #[vr x_, u_] []) := c0
 have c1 : Kt p e below s₁ st0 (mkF m 4 #[vr x_, vi 0] [(rr x_), (ii 0)]) := fun t k => by
  refine c0 t ?_
  show S_ p e below s₁ m 0 #[vr x_, u_] [] t
  refine XS.iconst X0.here hx rfl (hb hby d20_0) ?_
  show S_ p e below s₁ m 1 #[vr x_, u_] [(ii 0)] t
  refine XS.istoreN X0.here hx rfl (hb hby d20_1) rfl (l' := #[vr x_, vi 0]) rfl ?_
  show S_ p e below s₁ m 2 #[vr x_, vi 0] [] t
  refine XS.iloadN X0.here hx rfl (hb hby d20_2) rfl ?_
  show S_ p e below s₁ m 3 #[vr x_, vi 0] [(ii 0)] t
  refine XS.aloadN X0.here hx rfl (hb hby d20_3) rfl rfl ?_
  exact k
 obtain ⟨_, T2, L2, X2, hQ2, c2⟩ := kvirt X0 hx hZ hown (w28 hw) (w29 hw) (w31 hw) (w30 hw) (w32 hw) (w5 hw) (rm_lenU_4 l Z a0 hw [] x_ s_ ks_ [(.int (nar .byte ((c0_ >>> ((0 : Int32) &&& 31)).toInt8.toInt32))), (.int (nar .byte ((c0_ >>> ((8 : Int32) &&& 31)).toInt8.toInt32))), (.int (nar .byte ((c1_ >>> ((0 : Int32) &&& 31)).toInt8.toInt32))), (.int (nar .byte ((c1_ >>> ((8 : Int32) &&& 31)).toInt8.toInt32))), (.int (nar .byte ((c2_ >>> ((0 : Int32) &&& 31)).toInt8.toInt32))), (.int (nar .byte ((c2_ >>> ((8 : Int32) &&& 31)).toInt8.toInt32))), (.int (nar .byte ((c3_ >>> ((0 : Int32) &&& 31)).toInt8.toInt32))), (.int (nar .byte ((c3_ >>> ((8 : Int32) &&& 31)).toInt8.toInt32)))] z_ h0 n0 O0 E0_ F1_ F2_ A3_ ZS4_ hz_) e0 E0_ c1 hml pd_prI [] [(ii 0)] 1 (hb hby d20_4) rfl rfl rfl rfl rfl rfl
 obtain ⟨rfl, N3q, K4⟩ := hQ2
 have N3 := Fr.app N0 N3q
 have c5 : Kt p e below T2 st0 (mkF m 12 #[vr x_, vi 0] [(ii 0), (rr x_)]) := fun t k => by
  refine c2 t ?_
  show S_ p e below T2 m 7 #[vr x_, vi 0] [(ii 4), (ii 0)] t
  refine XS.icmpNo X2.here hx rfl (hb hby d20_7) rfl rfl ?_
  show S_ p e below T2 m 10 #[vr x_, vi 0] [] t
  refine XS.aloadN X2.here hx rfl (hb hby d20_10) rfl rfl ?_
  show S_ p e below T2 m 11 #[vr x_, vi 0] [(rr x_)] t
  refine XS.iloadN X2.here hx rfl (hb hby d20_11) rfl ?_
  exact k
 obtain ⟨_, T6, L6, X6, hQ6, c6⟩ := kvirt X2 hx hZ hown (w49 hw) (w50 hw) (w52 hw) (w51 hw) (w53 hw) (w5 hw) (rm_chU_4 l Z a0 hw [] x_ s_ ks_ [(.int (nar .byte ((c0_ >>> ((0 : Int32) &&& 31)).toInt8.toInt32))), (.int (nar .byte ((c0_ >>> ((8 : Int32) &&& 31)).toInt8.toInt32))), (.int (nar .byte ((c1_ >>> ((0 : Int32) &&& 31)).toInt8.toInt32))), (.int (nar .byte ((c1_ >>> ((8 : Int32) &&& 31)).toInt8.toInt32))), (.int (nar .byte ((c2_ >>> ((0 : Int32) &&& 31)).toInt8.toInt32))), (.int (nar .byte ((c2_ >>> ((8 : Int32) &&& 31)).toInt8.toInt32))), (.int (nar .byte ((c3_ >>> ((0 : Int32) &&& 31)).toInt8.toInt32))), (.int (nar .byte ((c3_ >>> ((8 : Int32) &&& 31)).toInt8.toInt32)))] (0 : Int32) ((nar .byte ((c0_ >>> ((0 : Int32) &&& 31)).toInt8.toInt32))) ((nar .byte ((c0_ >>> ((8 : Int32) &&& 31)).toInt8.toInt32))) c0_ fm_ z_ h0 n0 O0 E0_ F1_ F2_ A3_ ZS6_ hfm_ ZS4_ hz_ ZS12_ ZS13_ ZS14_ (by decide) (by decide) (by decide) (by decide) (by decide) (by decide) rfl rfl (own_get16 hc0_) hc0_) K4 E0_ c5 hml pd_pIrC [(ii 0)] [] 0 (hb hby d20_12) rfl rfl rfl rfl rfl rfl
 obtain ⟨rfl, N7q, K8⟩ := hQ6
 have N7 := Fr.app N3 N7q
 have c9 : Kt p e below T6 st0 (mkF m 18 #[vr x_, vi 0] [(ii 128), (.int c0_)]) := fun t k => by
  refine c6 t ?_
  show S_ p e below T6 m 15 #[vr x_, vi 0] [(.int c0_)] t
  refine XS.sipush X6.here hx rfl (hb hby d20_15) ?_
  exact k
 by_cases hc10 : c0_ < (128 : Int32)
 ·have c11 : Kt p e below T6 st0 (mkF m 4 #[vr x_, vi 1] [(rr x_), (ii 1)]) := fun t k => by
   refine c9 t ?_
   show S_ p e below T6 m 18 #[vr x_, vi 0] [(ii 128), (.int c0_)] t
   refine yC X6.here hx rfl 18 23 rfl (hb hby d20_18) rfl (tlt hc10).1 ?_
   show S_ p e below T6 m 23 #[vr x_, vi 0] [] t
   refine XS.iinc X6.here hx rfl (hb hby d20_23) rfl (l' := #[vr x_, vi 1]) rfl ?_
   show S_ p e below T6 m 26 #[vr x_, vi 1] [] t
   refine yG X6.here hx rfl 26 2 rfl (hb hby d20_26) ?_
   show S_ p e below T6 m 2 #[vr x_, vi 1] [] t
   refine XS.iloadN X6.here hx rfl (hb hby d20_2) rfl ?_
   show S_ p e below T6 m 3 #[vr x_, vi 1] [(ii 1)] t
   refine XS.aloadN X6.here hx rfl (hb hby d20_3) rfl rfl ?_
   exact k
  obtain ⟨_, T12, L12, X12, hQ12, c12⟩ := kvirt X6 hx hZ hown (w28 hw) (w29 hw) (w31 hw) (w30 hw) (w32 hw) (w5 hw) (rm_lenU_4 l Z a0 hw [] x_ s_ ks_ [(.int (nar .byte ((c0_ >>> ((0 : Int32) &&& 31)).toInt8.toInt32))), (.int (nar .byte ((c0_ >>> ((8 : Int32) &&& 31)).toInt8.toInt32))), (.int (nar .byte ((c1_ >>> ((0 : Int32) &&& 31)).toInt8.toInt32))), (.int (nar .byte ((c1_ >>> ((8 : Int32) &&& 31)).toInt8.toInt32))), (.int (nar .byte ((c2_ >>> ((0 : Int32) &&& 31)).toInt8.toInt32))), (.int (nar .byte ((c2_ >>> ((8 : Int32) &&& 31)).toInt8.toInt32))), (.int (nar .byte ((c3_ >>> ((0 : Int32) &&& 31)).toInt8.toInt32))), (.int (nar .byte ((c3_ >>> ((8 : Int32) &&& 31)).toInt8.toInt32)))] z_ h0 n0 O0 E0_ F1_ F2_ A3_ ZS4_ hz_) K8 E0_ c11 hml pd_prI [] [(ii 1)] 1 (hb hby d20_4) rfl rfl rfl rfl rfl rfl
  obtain ⟨rfl, N13q, K14⟩ := hQ12
  have N13 := Fr.app N7 N13q
  have c15 : Kt p e below T12 st0 (mkF m 12 #[vr x_, vi 1] [(ii 1), (rr x_)]) := fun t k => by
   refine c12 t ?_
   show S_ p e below T12 m 7 #[vr x_, vi 1] [(ii 4), (ii 1)] t
   refine XS.icmpNo X12.here hx rfl (hb hby d20_7) rfl rfl ?_
   show S_ p e below T12 m 10 #[vr x_, vi 1] [] t
   refine XS.aloadN X12.here hx rfl (hb hby d20_10) rfl rfl ?_
   show S_ p e below T12 m 11 #[vr x_, vi 1] [(rr x_)] t
   refine XS.iloadN X12.here hx rfl (hb hby d20_11) rfl ?_
   exact k
  obtain ⟨_, T16, L16, X16, hQ16, c16⟩ := kvirt X12 hx hZ hown (w49 hw) (w50 hw) (w52 hw) (w51 hw) (w53 hw) (w5 hw) (rm_chU_4 l Z a0 hw [] x_ s_ ks_ [(.int (nar .byte ((c0_ >>> ((0 : Int32) &&& 31)).toInt8.toInt32))), (.int (nar .byte ((c0_ >>> ((8 : Int32) &&& 31)).toInt8.toInt32))), (.int (nar .byte ((c1_ >>> ((0 : Int32) &&& 31)).toInt8.toInt32))), (.int (nar .byte ((c1_ >>> ((8 : Int32) &&& 31)).toInt8.toInt32))), (.int (nar .byte ((c2_ >>> ((0 : Int32) &&& 31)).toInt8.toInt32))), (.int (nar .byte ((c2_ >>> ((8 : Int32) &&& 31)).toInt8.toInt32))), (.int (nar .byte ((c3_ >>> ((0 : Int32) &&& 31)).toInt8.toInt32))), (.int (nar .byte ((c3_ >>> ((8 : Int32) &&& 31)).toInt8.toInt32)))] (1 : Int32) ((nar .byte ((c1_ >>> ((0 : Int32) &&& 31)).toInt8.toInt32))) ((nar .byte ((c1_ >>> ((8 : Int32) &&& 31)).toInt8.toInt32))) c1_ fm_ z_ h0 n0 O0 E0_ F1_ F2_ A3_ ZS6_ hfm_ ZS4_ hz_ ZS12_ ZS13_ ZS14_ (by decide) (by decide) (by decide) (by decide) (by decide) (by decide) rfl rfl (own_get16 hc1_) hc1_) K14 E0_ c15 hml pd_pIrC [(ii 1)] [] 0 (hb hby d20_12) rfl rfl rfl rfl rfl rfl
  obtain ⟨rfl, N17q, K18⟩ := hQ16
  have N17 := Fr.app N13 N17q
  have c19 : Kt p e below T16 st0 (mkF m 18 #[vr x_, vi 1] [(ii 128), (.int c1_)]) := fun t k => by
   refine c16 t ?_
   show S_ p e below T16 m 15 #[vr x_, vi 1] [(.int c1_)] t
   refine XS.sipush X16.here hx rfl (hb hby d20_15) ?_
   exact k
  by_cases hc20 : c1_ < (128 : Int32)
  ·have c21 : Kt p e below T16 st0 (mkF m 4 #[vr x_, vi 2] [(rr x_), (ii 2)]) := fun t k => by
    refine c19 t ?_
    show S_ p e below T16 m 18 #[vr x_, vi 1] [(ii 128), (.int c1_)] t
    refine yC X16.here hx rfl 18 23 rfl (hb hby d20_18) rfl (tlt hc20).1 ?_
    show S_ p e below T16 m 23 #[vr x_, vi 1] [] t
    refine XS.iinc X16.here hx rfl (hb hby d20_23) rfl (l' := #[vr x_, vi 2]) rfl ?_
    show S_ p e below T16 m 26 #[vr x_, vi 2] [] t
    refine yG X16.here hx rfl 26 2 rfl (hb hby d20_26) ?_
    show S_ p e below T16 m 2 #[vr x_, vi 2] [] t
    refine XS.iloadN X16.here hx rfl (hb hby d20_2) rfl ?_
    show S_ p e below T16 m 3 #[vr x_, vi 2] [(ii 2)] t
    refine XS.aloadN X16.here hx rfl (hb hby d20_3) rfl rfl ?_
    exact k
   obtain ⟨_, T22, L22, X22, hQ22, c22⟩ := kvirt X16 hx hZ hown (w28 hw) (w29 hw) (w31 hw) (w30 hw) (w32 hw) (w5 hw) (rm_lenU_4 l Z a0 hw [] x_ s_ ks_ [(.int (nar .byte ((c0_ >>> ((0 : Int32) &&& 31)).toInt8.toInt32))), (.int (nar .byte ((c0_ >>> ((8 : Int32) &&& 31)).toInt8.toInt32))), (.int (nar .byte ((c1_ >>> ((0 : Int32) &&& 31)).toInt8.toInt32))), (.int (nar .byte ((c1_ >>> ((8 : Int32) &&& 31)).toInt8.toInt32))), (.int (nar .byte ((c2_ >>> ((0 : Int32) &&& 31)).toInt8.toInt32))), (.int (nar .byte ((c2_ >>> ((8 : Int32) &&& 31)).toInt8.toInt32))), (.int (nar .byte ((c3_ >>> ((0 : Int32) &&& 31)).toInt8.toInt32))), (.int (nar .byte ((c3_ >>> ((8 : Int32) &&& 31)).toInt8.toInt32)))] z_ h0 n0 O0 E0_ F1_ F2_ A3_ ZS4_ hz_) K18 E0_ c21 hml pd_prI [] [(ii 2)] 1 (hb hby d20_4) rfl rfl rfl rfl rfl rfl
   obtain ⟨rfl, N23q, K24⟩ := hQ22
   have N23 := Fr.app N17 N23q
   have c25 : Kt p e below T22 st0 (mkF m 12 #[vr x_, vi 2] [(ii 2), (rr x_)]) := fun t k => by
    refine c22 t ?_
    show S_ p e below T22 m 7 #[vr x_, vi 2] [(ii 4), (ii 2)] t
    refine XS.icmpNo X22.here hx rfl (hb hby d20_7) rfl rfl ?_
    show S_ p e below T22 m 10 #[vr x_, vi 2] [] t
    refine XS.aloadN X22.here hx rfl (hb hby d20_10) rfl rfl ?_
    show S_ p e below T22 m 11 #[vr x_, vi 2] [(rr x_)] t
    refine XS.iloadN X22.here hx rfl (hb hby d20_11) rfl ?_
    exact k
   obtain ⟨_, T26, L26, X26, hQ26, c26⟩ := kvirt X22 hx hZ hown (w49 hw) (w50 hw) (w52 hw) (w51 hw) (w53 hw) (w5 hw) (rm_chU_4 l Z a0 hw [] x_ s_ ks_ [(.int (nar .byte ((c0_ >>> ((0 : Int32) &&& 31)).toInt8.toInt32))), (.int (nar .byte ((c0_ >>> ((8 : Int32) &&& 31)).toInt8.toInt32))), (.int (nar .byte ((c1_ >>> ((0 : Int32) &&& 31)).toInt8.toInt32))), (.int (nar .byte ((c1_ >>> ((8 : Int32) &&& 31)).toInt8.toInt32))), (.int (nar .byte ((c2_ >>> ((0 : Int32) &&& 31)).toInt8.toInt32))), (.int (nar .byte ((c2_ >>> ((8 : Int32) &&& 31)).toInt8.toInt32))), (.int (nar .byte ((c3_ >>> ((0 : Int32) &&& 31)).toInt8.toInt32))), (.int (nar .byte ((c3_ >>> ((8 : Int32) &&& 31)).toInt8.toInt32)))] (2 : Int32) ((nar .byte ((c2_ >>> ((0 : Int32) &&& 31)).toInt8.toInt32))) ((nar .byte ((c2_ >>> ((8 : Int32) &&& 31)).toInt8.toInt32))) c2_ fm_ z_ h0 n0 O0 E0_ F1_ F2_ A3_ ZS6_ hfm_ ZS4_ hz_ ZS12_ ZS13_ ZS14_ (by decide) (by decide) (by decide) (by decide) (by decide) (by decide) rfl rfl (own_get16 hc2_) hc2_) K24 E0_ c25 hml pd_pIrC [(ii 2)] [] 0 (hb hby d20_12) rfl rfl rfl rfl rfl rfl
   obtain ⟨rfl, N27q, K28⟩ := hQ26
   have N27 := Fr.app N23 N27q
   have c29 : Kt p e below T26 st0 (mkF m 18 #[vr x_, vi 2] [(ii 128), (.int c2_)]) := fun t k => by
    refine c26 t ?_
    show S_ p e below T26 m 15 #[vr x_, vi 2] [(.int c2_)] t
    refine XS.sipush X26.here hx rfl (hb hby d20_15) ?_
    exact k
   by_cases hc30 : c2_ < (128 : Int32)
   ·have c31 : Kt p e below T26 st0 (mkF m 4 #[vr x_, vi 3] [(rr x_), (ii 3)]) := fun t k => by
     refine c29 t ?_
     show S_ p e below T26 m 18 #[vr x_, vi 2] [(ii 128), (.int c2_)] t
     refine yC X26.here hx rfl 18 23 rfl (hb hby d20_18) rfl (tlt hc30).1 ?_
     show S_ p e below T26 m 23 #[vr x_, vi 2] [] t
     refine XS.iinc X26.here hx rfl (hb hby d20_23) rfl (l' := #[vr x_, vi 3]) rfl ?_
     show S_ p e below T26 m 26 #[vr x_, vi 3] [] t
     refine yG X26.here hx rfl 26 2 rfl (hb hby d20_26) ?_
     show S_ p e below T26 m 2 #[vr x_, vi 3] [] t
     refine XS.iloadN X26.here hx rfl (hb hby d20_2) rfl ?_
     show S_ p e below T26 m 3 #[vr x_, vi 3] [(ii 3)] t
     refine XS.aloadN X26.here hx rfl (hb hby d20_3) rfl rfl ?_
     exact k
    obtain ⟨_, T32, L32, X32, hQ32, c32⟩ := kvirt X26 hx hZ hown (w28 hw) (w29 hw) (w31 hw) (w30 hw) (w32 hw) (w5 hw) (rm_lenU_4 l Z a0 hw [] x_ s_ ks_ [(.int (nar .byte ((c0_ >>> ((0 : Int32) &&& 31)).toInt8.toInt32))), (.int (nar .byte ((c0_ >>> ((8 : Int32) &&& 31)).toInt8.toInt32))), (.int (nar .byte ((c1_ >>> ((0 : Int32) &&& 31)).toInt8.toInt32))), (.int (nar .byte ((c1_ >>> ((8 : Int32) &&& 31)).toInt8.toInt32))), (.int (nar .byte ((c2_ >>> ((0 : Int32) &&& 31)).toInt8.toInt32))), (.int (nar .byte ((c2_ >>> ((8 : Int32) &&& 31)).toInt8.toInt32))), (.int (nar .byte ((c3_ >>> ((0 : Int32) &&& 31)).toInt8.toInt32))), (.int (nar .byte ((c3_ >>> ((8 : Int32) &&& 31)).toInt8.toInt32)))] z_ h0 n0 O0 E0_ F1_ F2_ A3_ ZS4_ hz_) K28 E0_ c31 hml pd_prI [] [(ii 3)] 1 (hb hby d20_4) rfl rfl rfl rfl rfl rfl
    obtain ⟨rfl, N33q, K34⟩ := hQ32
    have N33 := Fr.app N27 N33q
    have c35 : Kt p e below T32 st0 (mkF m 12 #[vr x_, vi 3] [(ii 3), (rr x_)]) := fun t k => by
     refine c32 t ?_
     show S_ p e below T32 m 7 #[vr x_, vi 3] [(ii 4), (ii 3)] t
     refine XS.icmpNo X32.here hx rfl (hb hby d20_7) rfl rfl ?_
     show S_ p e below T32 m 10 #[vr x_, vi 3] [] t
     refine XS.aloadN X32.here hx rfl (hb hby d20_10) rfl rfl ?_
     show S_ p e below T32 m 11 #[vr x_, vi 3] [(rr x_)] t
     refine XS.iloadN X32.here hx rfl (hb hby d20_11) rfl ?_
     exact k
    obtain ⟨_, T36, L36, X36, hQ36, c36⟩ := kvirt X32 hx hZ hown (w49 hw) (w50 hw) (w52 hw) (w51 hw) (w53 hw) (w5 hw) (rm_chU_4 l Z a0 hw [] x_ s_ ks_ [(.int (nar .byte ((c0_ >>> ((0 : Int32) &&& 31)).toInt8.toInt32))), (.int (nar .byte ((c0_ >>> ((8 : Int32) &&& 31)).toInt8.toInt32))), (.int (nar .byte ((c1_ >>> ((0 : Int32) &&& 31)).toInt8.toInt32))), (.int (nar .byte ((c1_ >>> ((8 : Int32) &&& 31)).toInt8.toInt32))), (.int (nar .byte ((c2_ >>> ((0 : Int32) &&& 31)).toInt8.toInt32))), (.int (nar .byte ((c2_ >>> ((8 : Int32) &&& 31)).toInt8.toInt32))), (.int (nar .byte ((c3_ >>> ((0 : Int32) &&& 31)).toInt8.toInt32))), (.int (nar .byte ((c3_ >>> ((8 : Int32) &&& 31)).toInt8.toInt32)))] (3 : Int32) ((nar .byte ((c3_ >>> ((0 : Int32) &&& 31)).toInt8.toInt32))) ((nar .byte ((c3_ >>> ((8 : Int32) &&& 31)).toInt8.toInt32))) c3_ fm_ z_ h0 n0 O0 E0_ F1_ F2_ A3_ ZS6_ hfm_ ZS4_ hz_ ZS12_ ZS13_ ZS14_ (by decide) (by decide) (by decide) (by decide) (by decide) (by decide) rfl rfl (own_get16 hc3_) hc3_) K34 E0_ c35 hml pd_pIrC [(ii 3)] [] 0 (hb hby d20_12) rfl rfl rfl rfl rfl rfl
    obtain ⟨rfl, N37q, K38⟩ := hQ36
    have N37 := Fr.app N33 N37q
    have c39 : Kt p e below T36 st0 (mkF m 18 #[vr x_, vi 3] [(ii 128), (.int c3_)]) := fun t k => by
     refine c36 t ?_
     show S_ p e below T36 m 15 #[vr x_, vi 3] [(.int c3_)] t
     refine XS.sipush X36.here hx rfl (hb hby d20_15) ?_
     exact k
    by_cases hc40 : c3_ < (128 : Int32)
    ·have c41 : Kt p e below T36 st0 (mkF m 4 #[vr x_, vi 4] [(rr x_), (ii 4)]) := fun t k => by
      refine c39 t ?_
      show S_ p e below T36 m 18 #[vr x_, vi 3] [(ii 128), (.int c3_)] t
      refine yC X36.here hx rfl 18 23 rfl (hb hby d20_18) rfl (tlt hc40).1 ?_
      show S_ p e below T36 m 23 #[vr x_, vi 3] [] t
      refine XS.iinc X36.here hx rfl (hb hby d20_23) rfl (l' := #[vr x_, vi 4]) rfl ?_
      show S_ p e below T36 m 26 #[vr x_, vi 4] [] t
      refine yG X36.here hx rfl 26 2 rfl (hb hby d20_26) ?_
      show S_ p e below T36 m 2 #[vr x_, vi 4] [] t
      refine XS.iloadN X36.here hx rfl (hb hby d20_2) rfl ?_
      show S_ p e below T36 m 3 #[vr x_, vi 4] [(ii 4)] t
      refine XS.aloadN X36.here hx rfl (hb hby d20_3) rfl rfl ?_
      exact k
     obtain ⟨_, T42, L42, X42, hQ42, c42⟩ := kvirt X36 hx hZ hown (w28 hw) (w29 hw) (w31 hw) (w30 hw) (w32 hw) (w5 hw) (rm_lenU_4 l Z a0 hw [] x_ s_ ks_ [(.int (nar .byte ((c0_ >>> ((0 : Int32) &&& 31)).toInt8.toInt32))), (.int (nar .byte ((c0_ >>> ((8 : Int32) &&& 31)).toInt8.toInt32))), (.int (nar .byte ((c1_ >>> ((0 : Int32) &&& 31)).toInt8.toInt32))), (.int (nar .byte ((c1_ >>> ((8 : Int32) &&& 31)).toInt8.toInt32))), (.int (nar .byte ((c2_ >>> ((0 : Int32) &&& 31)).toInt8.toInt32))), (.int (nar .byte ((c2_ >>> ((8 : Int32) &&& 31)).toInt8.toInt32))), (.int (nar .byte ((c3_ >>> ((0 : Int32) &&& 31)).toInt8.toInt32))), (.int (nar .byte ((c3_ >>> ((8 : Int32) &&& 31)).toInt8.toInt32)))] z_ h0 n0 O0 E0_ F1_ F2_ A3_ ZS4_ hz_) K38 E0_ c41 hml pd_prI [] [(ii 4)] 1 (hb hby d20_4) rfl rfl rfl rfl rfl rfl
     obtain ⟨rfl, N43q, K44⟩ := hQ42
     have N43 := Fr.app N37 N43q
     obtain ⟨fs, hr, hrun, hended, hW, hsame⟩ := X42.leave (v := some (ii 1)) (fun h => by rw [Bd.returns] at h; cases h)
     refine ⟨_, _, c42 _ ?_, hrun, hended, _, _, rfl, ?_, ⟨_, rfl⟩, hW, hsame.mono (by decide) (by decide)⟩
     ·show S_ p e below T42 m 7 #[vr x_, vi 4] [(ii 4), (ii 4)] _
      refine yC X42.here hx rfl 7 29 rfl (hb hby d20_7) rfl rfl ?_
      show S_ p e below T42 m 29 #[vr x_, vi 4] [] _
      refine XS.iconst X42.here hx rfl (hb hby d20_29) ?_
      show S_ p e below T42 m 30 #[vr x_, vi 4] [(ii 1)] _
      exact retN X42 hx (t := .boolean) Bd.returns (by simp) (hb hby d20_30) hr
     ·show Q_ascU_4 Z x_ s_ ks_ z_ fm_ c0_ c1_ c2_ c3_ h0 n0 _ T42.heap _
      rw [K44]
      exact (Or.inl ⟨rfl, N43, rfl, hc10, hc20, hc30, hc40⟩)
    ·obtain ⟨fs, hr, hrun, hended, hW, hsame⟩ := X36.leave (v := some (ii 0)) (fun h => by rw [Bd.returns] at h; cases h)
     refine ⟨_, _, c39 _ ?_, hrun, hended, _, _, rfl, ?_, ⟨_, rfl⟩, hW, hsame.mono (by decide) (by decide)⟩
     ·show S_ p e below T36 m 18 #[vr x_, vi 3] [(ii 128), (.int c3_)] _
      refine XS.icmpNo X36.here hx rfl (hb hby d20_18) rfl (flt hc40).1 ?_
      show S_ p e below T36 m 21 #[vr x_, vi 3] [] _
      refine XS.iconst X36.here hx rfl (hb hby d20_21) ?_
      show S_ p e below T36 m 22 #[vr x_, vi 3] [(ii 0)] _
      exact retN X36 hx (t := .boolean) Bd.returns (by simp) (hb hby d20_22) hr
     ·show Q_ascU_4 Z x_ s_ ks_ z_ fm_ c0_ c1_ c2_ c3_ h0 n0 _ T36.heap _
      rw [K38]
      exact (Or.inr (⟨rfl, N37, rfl, (fun q => hc40 (q.2.2.2))⟩))
   ·obtain ⟨fs, hr, hrun, hended, hW, hsame⟩ := X26.leave (v := some (ii 0)) (fun h => by rw [Bd.returns] at h; cases h)
    refine ⟨_, _, c29 _ ?_, hrun, hended, _, _, rfl, ?_, ⟨_, rfl⟩, hW, hsame.mono (by decide) (by decide)⟩
    ·show S_ p e below T26 m 18 #[vr x_, vi 2] [(ii 128), (.int c2_)] _
     refine XS.icmpNo X26.here hx rfl (hb hby d20_18) rfl (flt hc30).1 ?_
     show S_ p e below T26 m 21 #[vr x_, vi 2] [] _
     refine XS.iconst X26.here hx rfl (hb hby d20_21) ?_
     show S_ p e below T26 m 22 #[vr x_, vi 2] [(ii 0)] _
     exact retN X26 hx (t := .boolean) Bd.returns (by simp) (hb hby d20_22) hr
    ·show Q_ascU_4 Z x_ s_ ks_ z_ fm_ c0_ c1_ c2_ c3_ h0 n0 _ T26.heap _
     rw [K28]
     exact (Or.inr (⟨rfl, N27, rfl, (fun q => hc30 (q.2.2.1))⟩))
  ·obtain ⟨fs, hr, hrun, hended, hW, hsame⟩ := X16.leave (v := some (ii 0)) (fun h => by rw [Bd.returns] at h; cases h)
   refine ⟨_, _, c19 _ ?_, hrun, hended, _, _, rfl, ?_, ⟨_, rfl⟩, hW, hsame.mono (by decide) (by decide)⟩
   ·show S_ p e below T16 m 18 #[vr x_, vi 1] [(ii 128), (.int c1_)] _
    refine XS.icmpNo X16.here hx rfl (hb hby d20_18) rfl (flt hc20).1 ?_
    show S_ p e below T16 m 21 #[vr x_, vi 1] [] _
    refine XS.iconst X16.here hx rfl (hb hby d20_21) ?_
    show S_ p e below T16 m 22 #[vr x_, vi 1] [(ii 0)] _
    exact retN X16 hx (t := .boolean) Bd.returns (by simp) (hb hby d20_22) hr
   ·show Q_ascU_4 Z x_ s_ ks_ z_ fm_ c0_ c1_ c2_ c3_ h0 n0 _ T16.heap _
    rw [K18]
    exact (Or.inr (⟨rfl, N17, rfl, (fun q => hc20 (q.2.1))⟩))
 ·obtain ⟨fs, hr, hrun, hended, hW, hsame⟩ := X6.leave (v := some (ii 0)) (fun h => by rw [Bd.returns] at h; cases h)
  refine ⟨_, _, c9 _ ?_, hrun, hended, _, _, rfl, ?_, ⟨_, rfl⟩, hW, hsame.mono (by decide) (by decide)⟩
  ·show S_ p e below T6 m 18 #[vr x_, vi 0] [(ii 128), (.int c0_)] _
   refine XS.icmpNo X6.here hx rfl (hb hby d20_18) rfl (flt hc10).1 ?_
   show S_ p e below T6 m 21 #[vr x_, vi 0] [] _
   refine XS.iconst X6.here hx rfl (hb hby d20_21) ?_
   show S_ p e below T6 m 22 #[vr x_, vi 0] [(ii 0)] _
   exact retN X6 hx (t := .boolean) Bd.returns (by simp) (hb hby d20_22) hr
  ·show Q_ascU_4 Z x_ s_ ks_ z_ fm_ c0_ c1_ c2_ c3_ h0 n0 _ T6.heap _
   rw [K8]
   exact (Or.inr (⟨rfl, N7, rfl, (fun q => hc10 (q.1))⟩))
theorem pn_com_example_countersign_countersign_Utf8IsAsciiPinLaw : plainName nm10 = true := by first | (simp [plainName, overriddenIn]; done) | decide +kernel
theorem pd_pACrV : parseMethodDescriptor "([C)V" = some ⟨[(.array .char)], none⟩ := by decide +kernel
theorem pd_pLjava_lang_String_rZ : parseMethodDescriptor "(Ljava/lang/String;)Z" = some ⟨[(.object nm0)], some .boolean⟩ := by decide +kernel
theorem ef_law (m : MethodId) (n_ : Int32) (p_ : Int32) (q_ : Int32) (r_ : Int32) (v_ : Int32) : entryFrame m #[(.int n_), (.int p_), (.int q_), (.int r_), (.int v_)] maxLocals = mkF m 0 #[vi n_, vi p_, vi q_, vi r_, vi v_, u_, u_, u_, u_, u_, u_, u_, u_] [] := by first | (simp [entryFrame, mkF, argsToLocals, Value.category, maxLocals]; done) | rfl
def Q_law (Z : State) (n_ : Int32) (p_ : Int32) (q_ : Int32) (r_ : Int32) (v_ : Int32) (si1_ : Int32) (sv12_ : Value) (h0 : Heap) (n0 : Nat) (v : Option Value) (h : Heap) (L : List Loc) : Prop := v = some (ii 1) ∧ Fr n0 L ∧ Keep h0 h []
set_option maxRecDepth 65536 in
set_option maxHeartbeats 40000000 in
theorem rm_law (l : Launch) (Z : State) (a0 : Array Value) (hw : HW Z a0) (ws : List Jvm.Cond) (n_ : Int32) (p_ : Int32) (q_ : Int32) (r_ : Int32) (v_ : Int32) (si1_ : Int32) (sv12_ : Value) (h0 : Heap) (n0 : Nat) (O0 : Old Z n0 h0) (ZS0_ : Sta Z Z.heap nm0 "COMPACT_STRINGS" "Z" (.int si1_)) (sn4_ : ¬ (si1_ = (0 : Int32))) (ZS2_ : Sta Z Z.heap nm1 "$assertionsDisabled" "Z" (ii 1)) (ZS3_ : Sta Z Z.heap nm1 "HI_BYTE_SHIFT" "I" (ii 0)) (ZS4_ : Sta Z Z.heap nm1 "LO_BYTE_SHIFT" "I" (ii 8)) (sv12_r : sv12_.isRef = true) (ZS6_ : Sta Z Z.heap nm2 "SIOOBE_FORMATTER" nm4 sv12_) (hlit_ : Jvm.Lit.constHeld Z nm0 7) (hcw : Jvm.Lit.compactW.before a0 Z = true) :
  MFI l Z x code maxLocals ret room_1 ws #[(.int n_), (.int p_), (.int q_), (.int r_), (.int v_)] h0 (Q_law Z n_ p_ q_ r_ v_ si1_ sv12_ h0 n0) := by
 refine MetFree.of_bodySF (plainFor_of_name pn_com_example_countersign_countersign_Utf8IsAsciiPinLaw) hisR ?_
 intro p e s m args below meth c s₁ Bd hml0 hP hK
 obtain ⟨rfl, hZ, hh, hI⟩ := hP
 have hx := Bd.exec
 have hby := Bd.bytes
 have hml : c.maxLocals = 13 := hml0
 have hown : s.vm.findClass nm10 = some m.cls := findClass_of_methodNamed Bd.named
 have hnm := (name_of_methodNamed Bd.named Bd.method).1
 have X0 : Stand p l e room_1 (s.setVm s.vm) m #[(.int n_), (.int p_), (.int q_), (.int r_), (.int v_)] below meth c s₁ [] 0 0 := Stand.of_body Bd
 have e0 : s₁.heap = h0 := by rw [← hh, Bd.state]; rfl
 have N0 := Fr.nil n0
 have kp0 : Keep h0 h0 [] := Keep.refl _ _
 have hS0 : s.Since s.vm 0 := (State.WarmedH.refl s).since 0
 have c0 : ∀ t, S_ p e below s₁ m 0 #[vi n_, vi p_, vi q_, vi r_, vi v_, u_, u_, u_, u_, u_, u_, u_, u_] [] t → Steps p.tables e below (s₁.setTop (entryFrame m #[(.int n_), (.int p_), (.int q_), (.int r_), (.int v_)] maxLocals)) t := fun t k => castTop (ef_law m n_ p_ q_ r_ v_) k
 generalize s₁.setTop (entryFrame m #[(.int n_), (.int p_), (.int q_), (.int r_), (.int v_)] maxLocals) = st0 at c0 ⊢
 replace c0 : Kt p e below s₁ st0 (mkF m 0 #[vi n_, vi p_, vi q_, vi r_, vi v_, u_, u_, u_, u_, u_, u_, u_, u_] []) := c0
 have c1 : Kt p e below s₁ st0 (mkF m 37 #[vi n_, vi p_, vi q_, vi r_, vi v_, .val (.int ((n_ &&& (2147483647 : Int32)) % (5 : Int32))), .val (.int ((p_ &&& (65535 : Int32)).toUInt32.toUInt16.toUInt32.toInt32)), .val (.int ((q_ &&& (65535 : Int32)).toUInt32.toUInt16.toUInt32.toInt32)), .val (.int ((r_ &&& (65535 : Int32)).toUInt32.toUInt16.toUInt32.toInt32)), .val (.int ((v_ &&& (65535 : Int32)).toUInt32.toUInt16.toUInt32.toInt32)), u_, u_, u_] []) := fun t k => by
  refine c0 t ?_
  show S_ p e below s₁ m 0 #[vi n_, vi p_, vi q_, vi r_, vi v_, u_, u_, u_, u_, u_, u_, u_, u_] [] t
  refine XS.iloadN X0.here hx rfl (hb hby at_0) rfl ?_
  show S_ p e below s₁ m 1 #[vi n_, vi p_, vi q_, vi r_, vi v_, u_, u_, u_, u_, u_, u_, u_, u_] [(.int n_)] t
  refine X0.ldcInt hx hown (mvT hZ (w0 hw)) (g := (mkF m 1 #[vi n_, vi p_, vi q_, vi r_, vi v_, u_, u_, u_, u_, u_, u_, u_, u_] [(.int n_)])) rfl (hb hby at_1) _ ?_
  show S_ p e below s₁ m 3 #[vi n_, vi p_, vi q_, vi r_, vi v_, u_, u_, u_, u_, u_, u_, u_, u_] [(ii 2147483647), (.int n_)] t
  refine XS.iand X0.here hx rfl (hb hby at_3) rfl ?_
  show S_ p e below s₁ m 4 #[vi n_, vi p_, vi q_, vi r_, vi v_, u_, u_, u_, u_, u_, u_, u_, u_] [(.int (n_ &&& (2147483647 : Int32)))] t
  refine XS.iconst X0.here hx rfl (hb hby at_4) ?_
  show S_ p e below s₁ m 5 #[vi n_, vi p_, vi q_, vi r_, vi v_, u_, u_, u_, u_, u_, u_, u_, u_] [(ii 5), (.int (n_ &&& (2147483647 : Int32)))] t
  refine iremM X0 hx rfl (hb hby at_5) rfl (by decide) ?_
  show S_ p e below s₁ m 6 #[vi n_, vi p_, vi q_, vi r_, vi v_, u_, u_, u_, u_, u_, u_, u_, u_] [(.int ((n_ &&& (2147483647 : Int32)) % (5 : Int32)))] t
  refine XS.istore X0.here hx rfl (hb hby at_6) rfl (l' := #[vi n_, vi p_, vi q_, vi r_, vi v_, .val (.int ((n_ &&& (2147483647 : Int32)) % (5 : Int32))), u_, u_, u_, u_, u_, u_, u_]) rfl ?_
  show S_ p e below s₁ m 8 #[vi n_, vi p_, vi q_, vi r_, vi v_, .val (.int ((n_ &&& (2147483647 : Int32)) % (5 : Int32))), u_, u_, u_, u_, u_, u_, u_] [] t
  refine XS.iloadN X0.here hx rfl (hb hby at_8) rfl ?_
  show S_ p e below s₁ m 9 #[vi n_, vi p_, vi q_, vi r_, vi v_, .val (.int ((n_ &&& (2147483647 : Int32)) % (5 : Int32))), u_, u_, u_, u_, u_, u_, u_] [(.int p_)] t
  refine X0.ldcInt hx hown (mvT hZ (w1 hw)) (g := (mkF m 9 #[vi n_, vi p_, vi q_, vi r_, vi v_, .val (.int ((n_ &&& (2147483647 : Int32)) % (5 : Int32))), u_, u_, u_, u_, u_, u_, u_] [(.int p_)])) rfl (hb hby at_9) _ ?_
  show S_ p e below s₁ m 11 #[vi n_, vi p_, vi q_, vi r_, vi v_, .val (.int ((n_ &&& (2147483647 : Int32)) % (5 : Int32))), u_, u_, u_, u_, u_, u_, u_] [(ii 65535), (.int p_)] t
  refine XS.iand X0.here hx rfl (hb hby at_11) rfl ?_
  show S_ p e below s₁ m 12 #[vi n_, vi p_, vi q_, vi r_, vi v_, .val (.int ((n_ &&& (2147483647 : Int32)) % (5 : Int32))), u_, u_, u_, u_, u_, u_, u_] [(.int (p_ &&& (65535 : Int32)))] t
  refine XS.i2c X0.here hx rfl (hb hby at_12) rfl ?_
  show S_ p e below s₁ m 13 #[vi n_, vi p_, vi q_, vi r_, vi v_, .val (.int ((n_ &&& (2147483647 : Int32)) % (5 : Int32))), u_, u_, u_, u_, u_, u_, u_] [(.int ((p_ &&& (65535 : Int32)).toUInt32.toUInt16.toUInt32.toInt32))] t
  refine XS.istore X0.here hx rfl (hb hby at_13) rfl (l' := #[vi n_, vi p_, vi q_, vi r_, vi v_, .val (.int ((n_ &&& (2147483647 : Int32)) % (5 : Int32))), .val (.int ((p_ &&& (65535 : Int32)).toUInt32.toUInt16.toUInt32.toInt32)), u_, u_, u_, u_, u_, u_]) rfl ?_
  show S_ p e below s₁ m 15 #[vi n_, vi p_, vi q_, vi r_, vi v_, .val (.int ((n_ &&& (2147483647 : Int32)) % (5 : Int32))), .val (.int ((p_ &&& (65535 : Int32)).toUInt32.toUInt16.toUInt32.toInt32)), u_, u_, u_, u_, u_, u_] [] t
  refine XS.iloadN X0.here hx rfl (hb hby at_15) rfl ?_
  show S_ p e below s₁ m 16 #[vi n_, vi p_, vi q_, vi r_, vi v_, .val (.int ((n_ &&& (2147483647 : Int32)) % (5 : Int32))), .val (.int ((p_ &&& (65535 : Int32)).toUInt32.toUInt16.toUInt32.toInt32)), u_, u_, u_, u_, u_, u_] [(.int q_)] t
  refine X0.ldcInt hx hown (mvT hZ (w1 hw)) (g := (mkF m 16 #[vi n_, vi p_, vi q_, vi r_, vi v_, .val (.int ((n_ &&& (2147483647 : Int32)) % (5 : Int32))), .val (.int ((p_ &&& (65535 : Int32)).toUInt32.toUInt16.toUInt32.toInt32)), u_, u_, u_, u_, u_, u_] [(.int q_)])) rfl (hb hby at_16) _ ?_
  show S_ p e below s₁ m 18 #[vi n_, vi p_, vi q_, vi r_, vi v_, .val (.int ((n_ &&& (2147483647 : Int32)) % (5 : Int32))), .val (.int ((p_ &&& (65535 : Int32)).toUInt32.toUInt16.toUInt32.toInt32)), u_, u_, u_, u_, u_, u_] [(ii 65535), (.int q_)] t
  refine XS.iand X0.here hx rfl (hb hby at_18) rfl ?_
  show S_ p e below s₁ m 19 #[vi n_, vi p_, vi q_, vi r_, vi v_, .val (.int ((n_ &&& (2147483647 : Int32)) % (5 : Int32))), .val (.int ((p_ &&& (65535 : Int32)).toUInt32.toUInt16.toUInt32.toInt32)), u_, u_, u_, u_, u_, u_] [(.int (q_ &&& (65535 : Int32)))] t
  refine XS.i2c X0.here hx rfl (hb hby at_19) rfl ?_
  show S_ p e below s₁ m 20 #[vi n_, vi p_, vi q_, vi r_, vi v_, .val (.int ((n_ &&& (2147483647 : Int32)) % (5 : Int32))), .val (.int ((p_ &&& (65535 : Int32)).toUInt32.toUInt16.toUInt32.toInt32)), u_, u_, u_, u_, u_, u_] [(.int ((q_ &&& (65535 : Int32)).toUInt32.toUInt16.toUInt32.toInt32))] t
  refine XS.istore X0.here hx rfl (hb hby at_20) rfl (l' := #[vi n_, vi p_, vi q_, vi r_, vi v_, .val (.int ((n_ &&& (2147483647 : Int32)) % (5 : Int32))), .val (.int ((p_ &&& (65535 : Int32)).toUInt32.toUInt16.toUInt32.toInt32)), .val (.int ((q_ &&& (65535 : Int32)).toUInt32.toUInt16.toUInt32.toInt32)), u_, u_, u_, u_, u_]) rfl ?_
  show S_ p e below s₁ m 22 #[vi n_, vi p_, vi q_, vi r_, vi v_, .val (.int ((n_ &&& (2147483647 : Int32)) % (5 : Int32))), .val (.int ((p_ &&& (65535 : Int32)).toUInt32.toUInt16.toUInt32.toInt32)), .val (.int ((q_ &&& (65535 : Int32)).toUInt32.toUInt16.toUInt32.toInt32)), u_, u_, u_, u_, u_] [] t
  refine XS.iloadN X0.here hx rfl (hb hby at_22) rfl ?_
  show S_ p e below s₁ m 23 #[vi n_, vi p_, vi q_, vi r_, vi v_, .val (.int ((n_ &&& (2147483647 : Int32)) % (5 : Int32))), .val (.int ((p_ &&& (65535 : Int32)).toUInt32.toUInt16.toUInt32.toInt32)), .val (.int ((q_ &&& (65535 : Int32)).toUInt32.toUInt16.toUInt32.toInt32)), u_, u_, u_, u_, u_] [(.int r_)] t
  refine X0.ldcInt hx hown (mvT hZ (w1 hw)) (g := (mkF m 23 #[vi n_, vi p_, vi q_, vi r_, vi v_, .val (.int ((n_ &&& (2147483647 : Int32)) % (5 : Int32))), .val (.int ((p_ &&& (65535 : Int32)).toUInt32.toUInt16.toUInt32.toInt32)), .val (.int ((q_ &&& (65535 : Int32)).toUInt32.toUInt16.toUInt32.toInt32)), u_, u_, u_, u_, u_] [(.int r_)])) rfl (hb hby at_23) _ ?_
  show S_ p e below s₁ m 25 #[vi n_, vi p_, vi q_, vi r_, vi v_, .val (.int ((n_ &&& (2147483647 : Int32)) % (5 : Int32))), .val (.int ((p_ &&& (65535 : Int32)).toUInt32.toUInt16.toUInt32.toInt32)), .val (.int ((q_ &&& (65535 : Int32)).toUInt32.toUInt16.toUInt32.toInt32)), u_, u_, u_, u_, u_] [(ii 65535), (.int r_)] t
  refine XS.iand X0.here hx rfl (hb hby at_25) rfl ?_
  show S_ p e below s₁ m 26 #[vi n_, vi p_, vi q_, vi r_, vi v_, .val (.int ((n_ &&& (2147483647 : Int32)) % (5 : Int32))), .val (.int ((p_ &&& (65535 : Int32)).toUInt32.toUInt16.toUInt32.toInt32)), .val (.int ((q_ &&& (65535 : Int32)).toUInt32.toUInt16.toUInt32.toInt32)), u_, u_, u_, u_, u_] [(.int (r_ &&& (65535 : Int32)))] t
  refine XS.i2c X0.here hx rfl (hb hby at_26) rfl ?_
  show S_ p e below s₁ m 27 #[vi n_, vi p_, vi q_, vi r_, vi v_, .val (.int ((n_ &&& (2147483647 : Int32)) % (5 : Int32))), .val (.int ((p_ &&& (65535 : Int32)).toUInt32.toUInt16.toUInt32.toInt32)), .val (.int ((q_ &&& (65535 : Int32)).toUInt32.toUInt16.toUInt32.toInt32)), u_, u_, u_, u_, u_] [(.int ((r_ &&& (65535 : Int32)).toUInt32.toUInt16.toUInt32.toInt32))] t
  refine XS.istore X0.here hx rfl (hb hby at_27) rfl (l' := #[vi n_, vi p_, vi q_, vi r_, vi v_, .val (.int ((n_ &&& (2147483647 : Int32)) % (5 : Int32))), .val (.int ((p_ &&& (65535 : Int32)).toUInt32.toUInt16.toUInt32.toInt32)), .val (.int ((q_ &&& (65535 : Int32)).toUInt32.toUInt16.toUInt32.toInt32)), .val (.int ((r_ &&& (65535 : Int32)).toUInt32.toUInt16.toUInt32.toInt32)), u_, u_, u_, u_]) rfl ?_
  show S_ p e below s₁ m 29 #[vi n_, vi p_, vi q_, vi r_, vi v_, .val (.int ((n_ &&& (2147483647 : Int32)) % (5 : Int32))), .val (.int ((p_ &&& (65535 : Int32)).toUInt32.toUInt16.toUInt32.toInt32)), .val (.int ((q_ &&& (65535 : Int32)).toUInt32.toUInt16.toUInt32.toInt32)), .val (.int ((r_ &&& (65535 : Int32)).toUInt32.toUInt16.toUInt32.toInt32)), u_, u_, u_, u_] [] t
  refine XS.iload X0.here hx rfl (hb hby at_29) rfl ?_
  show S_ p e below s₁ m 31 #[vi n_, vi p_, vi q_, vi r_, vi v_, .val (.int ((n_ &&& (2147483647 : Int32)) % (5 : Int32))), .val (.int ((p_ &&& (65535 : Int32)).toUInt32.toUInt16.toUInt32.toInt32)), .val (.int ((q_ &&& (65535 : Int32)).toUInt32.toUInt16.toUInt32.toInt32)), .val (.int ((r_ &&& (65535 : Int32)).toUInt32.toUInt16.toUInt32.toInt32)), u_, u_, u_, u_] [(.int v_)] t
  refine X0.ldcInt hx hown (mvT hZ (w1 hw)) (g := (mkF m 31 #[vi n_, vi p_, vi q_, vi r_, vi v_, .val (.int ((n_ &&& (2147483647 : Int32)) % (5 : Int32))), .val (.int ((p_ &&& (65535 : Int32)).toUInt32.toUInt16.toUInt32.toInt32)), .val (.int ((q_ &&& (65535 : Int32)).toUInt32.toUInt16.toUInt32.toInt32)), .val (.int ((r_ &&& (65535 : Int32)).toUInt32.toUInt16.toUInt32.toInt32)), u_, u_, u_, u_] [(.int v_)])) rfl (hb hby at_31) _ ?_
  show S_ p e below s₁ m 33 #[vi n_, vi p_, vi q_, vi r_, vi v_, .val (.int ((n_ &&& (2147483647 : Int32)) % (5 : Int32))), .val (.int ((p_ &&& (65535 : Int32)).toUInt32.toUInt16.toUInt32.toInt32)), .val (.int ((q_ &&& (65535 : Int32)).toUInt32.toUInt16.toUInt32.toInt32)), .val (.int ((r_ &&& (65535 : Int32)).toUInt32.toUInt16.toUInt32.toInt32)), u_, u_, u_, u_] [(ii 65535), (.int v_)] t
  refine XS.iand X0.here hx rfl (hb hby at_33) rfl ?_
  show S_ p e below s₁ m 34 #[vi n_, vi p_, vi q_, vi r_, vi v_, .val (.int ((n_ &&& (2147483647 : Int32)) % (5 : Int32))), .val (.int ((p_ &&& (65535 : Int32)).toUInt32.toUInt16.toUInt32.toInt32)), .val (.int ((q_ &&& (65535 : Int32)).toUInt32.toUInt16.toUInt32.toInt32)), .val (.int ((r_ &&& (65535 : Int32)).toUInt32.toUInt16.toUInt32.toInt32)), u_, u_, u_, u_] [(.int (v_ &&& (65535 : Int32)))] t
  refine XS.i2c X0.here hx rfl (hb hby at_34) rfl ?_
  show S_ p e below s₁ m 35 #[vi n_, vi p_, vi q_, vi r_, vi v_, .val (.int ((n_ &&& (2147483647 : Int32)) % (5 : Int32))), .val (.int ((p_ &&& (65535 : Int32)).toUInt32.toUInt16.toUInt32.toInt32)), .val (.int ((q_ &&& (65535 : Int32)).toUInt32.toUInt16.toUInt32.toInt32)), .val (.int ((r_ &&& (65535 : Int32)).toUInt32.toUInt16.toUInt32.toInt32)), u_, u_, u_, u_] [(.int ((v_ &&& (65535 : Int32)).toUInt32.toUInt16.toUInt32.toInt32))] t
  refine XS.istore X0.here hx rfl (hb hby at_35) rfl (l' := #[vi n_, vi p_, vi q_, vi r_, vi v_, .val (.int ((n_ &&& (2147483647 : Int32)) % (5 : Int32))), .val (.int ((p_ &&& (65535 : Int32)).toUInt32.toUInt16.toUInt32.toInt32)), .val (.int ((q_ &&& (65535 : Int32)).toUInt32.toUInt16.toUInt32.toInt32)), .val (.int ((r_ &&& (65535 : Int32)).toUInt32.toUInt16.toUInt32.toInt32)), .val (.int ((v_ &&& (65535 : Int32)).toUInt32.toUInt16.toUInt32.toInt32)), u_, u_, u_]) rfl ?_
  exact k
 obtain ⟨ch0, ch0q⟩ : ∃ z, z = ((p_ &&& (65535 : Int32)).toUInt32.toUInt16.toUInt32.toInt32) := ⟨_, rfl⟩
 rw [← ch0q] at c1
 have hg2 : nar .char ch0 = ch0 := by rw [ch0q]; exact own_cc _
 obtain ⟨ch1, ch1q⟩ : ∃ z, z = ((q_ &&& (65535 : Int32)).toUInt32.toUInt16.toUInt32.toInt32) := ⟨_, rfl⟩
 rw [← ch1q] at c1
 have hg3 : nar .char ch1 = ch1 := by rw [ch1q]; exact own_cc _
 obtain ⟨ch2, ch2q⟩ : ∃ z, z = ((r_ &&& (65535 : Int32)).toUInt32.toUInt16.toUInt32.toInt32) := ⟨_, rfl⟩
 rw [← ch2q] at c1
 have hg4 : nar .char ch2 = ch2 := by rw [ch2q]; exact own_cc _
 obtain ⟨ch3, ch3q⟩ : ∃ z, z = ((v_ &&& (65535 : Int32)).toUInt32.toUInt16.toUInt32.toInt32) := ⟨_, rfl⟩
 rw [← ch3q] at c1
 have hg5 : nar .char ch3 = ch3 := by rw [ch3q]; exact own_cc _
 rcases own_rem5 _ with hv6 | hv6 | hv6 | hv6 | hv6
 ·rw [hv6] at c1
  have c7 : Kt p e below s₁ st0 (mkF m 43 #[vi n_, vi p_, vi q_, vi r_, vi v_, vi 0, vi ch0, vi ch1, vi ch2, vi ch3, u_, u_, u_] [(ii 0)]) := fun t k => by
   refine c1 t ?_
   show S_ p e below s₁ m 37 #[vi n_, vi p_, vi q_, vi r_, vi v_, vi 0, vi ch0, vi ch1, vi ch2, vi ch3, u_, u_, u_] [] t
   refine XS.iload X0.here hx rfl (hb hby at_37) rfl ?_
   show S_ p e below s₁ m 39 #[vi n_, vi p_, vi q_, vi r_, vi v_, vi 0, vi ch0, vi ch1, vi ch2, vi ch3, u_, u_, u_] [(ii 0)] t
   refine XS.ifNo X0.here hx rfl (hb hby at_39) rfl rfl ?_
   show S_ p e below s₁ m 42 #[vi n_, vi p_, vi q_, vi r_, vi v_, vi 0, vi ch0, vi ch1, vi ch2, vi ch3, u_, u_, u_] [] t
   refine XS.iconst X0.here hx rfl (hb hby at_42) ?_
   exact k
  obtain ⟨b8, T8, h8, k8, z8, g8, X8, e8, E8, o9, A8, c8⟩ := knewP (aty := .char) X0 hx hZ (w2 hw) e0 c7 rfl (hb hby at_43) rfl (by decide) 0 (by decide) (by decide) (by decide) (by decide) O0
  have kp11 := kp0.ext E8
  have z12 := Nat.le_trans kp0.1 z8
  have f10 : Arv Z h8 b8 k8 .char (0 : Int32) [] (ii 0) := A8
  have c13 : Kt p e below T8 st0 (mkF m 147 #[vi n_, vi p_, vi q_, vi r_, vi v_, vi 0, vi ch0, vi ch1, vi ch2, vi ch3, vr b8, u_, u_] []) := fun t k => by
   refine c8 t ?_
   show S_ p e below T8 m 45 #[vi n_, vi p_, vi q_, vi r_, vi v_, vi 0, vi ch0, vi ch1, vi ch2, vi ch3, u_, u_, u_] [(rr b8)] t
   refine XS.astore X8.here hx rfl (hb hby at_45) rfl rfl (l' := #[vi n_, vi p_, vi q_, vi r_, vi v_, vi 0, vi ch0, vi ch1, vi ch2, vi ch3, vr b8, u_, u_]) rfl ?_
   show S_ p e below T8 m 47 #[vi n_, vi p_, vi q_, vi r_, vi v_, vi 0, vi ch0, vi ch1, vi ch2, vi ch3, vr b8, u_, u_] [] t
   refine yG X8.here hx rfl 47 147 rfl (hb hby at_47) ?_
   exact k
  obtain ⟨b14, T14, h14, z14, g14, X14, e14, E14, o15, A14, D14, U14, c14⟩ := knew X8 hx hZ hown (w3 hw) (w4 hw) (w5 hw) e8 c13 rfl (hb hby at_147) (by decide) (by decide) o9
  have kp16 := kp11.ext E14
  have z17 := Nat.le_trans kp11.1 z14
  have c18 : Kt p e below T14 st0 (mkF m 153 #[vi n_, vi p_, vi q_, vi r_, vi v_, vi 0, vi ch0, vi ch1, vi ch2, vi ch3, vr b8, u_, u_] [(rr b8), (rr b14), (rr b14)]) := fun t k => by
   refine c14 t ?_
   show S_ p e below T14 m 150 #[vi n_, vi p_, vi q_, vi r_, vi v_, vi 0, vi ch0, vi ch1, vi ch2, vi ch3, vr b8, u_, u_] [(rr b14)] t
   refine XS.dup X14.here hx rfl (hb hby at_150) rfl rfl ?_
   show S_ p e below T14 m 151 #[vi n_, vi p_, vi q_, vi r_, vi v_, vi 0, vi ch0, vi ch1, vi ch2, vi ch3, vr b8, u_, u_] [(rr b14), (rr b14)] t
   refine XS.aload X14.here hx rfl (hb hby at_151) rfl rfl ?_
   exact k
  obtain ⟨_, T19, L19, X19, hQ19, hS19, hZ19, hown19, c19⟩ := kspecB X14 hx hZ hown hS0 (Nat.le_trans (Nat.zero_le _) (Nat.le_trans E8.1 E14.1)) (w6 hw) (w7 hw) (w8 hw) (rm := ({ frames := 2, cells := 2, slots := 4, locals := 29 } : Room)) (backOfSI (W := 1) (rm_str1_0 l Z a0 hw [] b14 b8 k8 h14 n0 o15 A14 (show Fld Z h14 b14 nm0 "value" "[B" .null from D14 (Or.inr (w18 hw)) (ty := (.array .byte)) (by decide)) (show Fld Z h14 b14 nm0 "coder" "B" (ii 0) from D14 (Or.inr (w19 hw)) (ty := .byte) (by decide)) g14 (f10.ext E14) hlit_ hcw) hZ hI (w8 hw) (w5 hw) (by decide) (by decide)) e14 c18 hml pd_pACrV b14 [(rr b8)] [(rr b14)] (hb hby at_153) rfl rfl rfl rfl rfl rfl
  obtain ⟨rfl, N20q, K21, p22, p23, b24, k25, p26, p27⟩ := hQ19
  have N20 := Fr.app N0 N20q
  have o28 := o15.keep K21 (allS g14 all0)
  have kp29 := kp16.trans K21 (allS (Or.inr z17) all0)
  have c30 : Kt p e below T19 st0 (mkF m 223 #[vi n_, vi p_, vi q_, vi r_, vi v_, vi 0, vi ch0, vi ch1, vi ch2, vi ch3, vr b8, vr b14, vi 1] [(rr b14)]) := fun t k => by
   refine c19 t ?_
   show S_ p e below T19 m 156 #[vi n_, vi p_, vi q_, vi r_, vi v_, vi 0, vi ch0, vi ch1, vi ch2, vi ch3, vr b8, u_, u_] [(rr b14)] t
   refine XS.astore X19.here hx rfl (hb hby at_156) rfl rfl (l' := #[vi n_, vi p_, vi q_, vi r_, vi v_, vi 0, vi ch0, vi ch1, vi ch2, vi ch3, vr b8, vr b14, u_]) rfl ?_
   show S_ p e below T19 m 158 #[vi n_, vi p_, vi q_, vi r_, vi v_, vi 0, vi ch0, vi ch1, vi ch2, vi ch3, vr b8, vr b14, u_] [] t
   refine XS.iload X19.here hx rfl (hb hby at_158) rfl ?_
   show S_ p e below T19 m 160 #[vi n_, vi p_, vi q_, vi r_, vi v_, vi 0, vi ch0, vi ch1, vi ch2, vi ch3, vr b8, vr b14, u_] [(ii 0)] t
   refine XS.iconst X19.here hx rfl (hb hby at_160) ?_
   show S_ p e below T19 m 161 #[vi n_, vi p_, vi q_, vi r_, vi v_, vi 0, vi ch0, vi ch1, vi ch2, vi ch3, vr b8, vr b14, u_] [(ii 1), (ii 0)] t
   refine yC X19.here hx rfl 161 172 rfl (hb hby at_161) rfl rfl ?_
   show S_ p e below T19 m 172 #[vi n_, vi p_, vi q_, vi r_, vi v_, vi 0, vi ch0, vi ch1, vi ch2, vi ch3, vr b8, vr b14, u_] [] t
   refine XS.iload X19.here hx rfl (hb hby at_172) rfl ?_
   show S_ p e below T19 m 174 #[vi n_, vi p_, vi q_, vi r_, vi v_, vi 0, vi ch0, vi ch1, vi ch2, vi ch3, vr b8, vr b14, u_] [(ii 0)] t
   refine XS.iconst X19.here hx rfl (hb hby at_174) ?_
   show S_ p e below T19 m 175 #[vi n_, vi p_, vi q_, vi r_, vi v_, vi 0, vi ch0, vi ch1, vi ch2, vi ch3, vr b8, vr b14, u_] [(ii 2), (ii 0)] t
   refine yC X19.here hx rfl 175 186 rfl (hb hby at_175) rfl rfl ?_
   show S_ p e below T19 m 186 #[vi n_, vi p_, vi q_, vi r_, vi v_, vi 0, vi ch0, vi ch1, vi ch2, vi ch3, vr b8, vr b14, u_] [] t
   refine XS.iload X19.here hx rfl (hb hby at_186) rfl ?_
   show S_ p e below T19 m 188 #[vi n_, vi p_, vi q_, vi r_, vi v_, vi 0, vi ch0, vi ch1, vi ch2, vi ch3, vr b8, vr b14, u_] [(ii 0)] t
   refine XS.iconst X19.here hx rfl (hb hby at_188) ?_
   show S_ p e below T19 m 189 #[vi n_, vi p_, vi q_, vi r_, vi v_, vi 0, vi ch0, vi ch1, vi ch2, vi ch3, vr b8, vr b14, u_] [(ii 3), (ii 0)] t
   refine yC X19.here hx rfl 189 200 rfl (hb hby at_189) rfl rfl ?_
   show S_ p e below T19 m 200 #[vi n_, vi p_, vi q_, vi r_, vi v_, vi 0, vi ch0, vi ch1, vi ch2, vi ch3, vr b8, vr b14, u_] [] t
   refine XS.iload X19.here hx rfl (hb hby at_200) rfl ?_
   show S_ p e below T19 m 202 #[vi n_, vi p_, vi q_, vi r_, vi v_, vi 0, vi ch0, vi ch1, vi ch2, vi ch3, vr b8, vr b14, u_] [(ii 0)] t
   refine XS.iconst X19.here hx rfl (hb hby at_202) ?_
   show S_ p e below T19 m 203 #[vi n_, vi p_, vi q_, vi r_, vi v_, vi 0, vi ch0, vi ch1, vi ch2, vi ch3, vr b8, vr b14, u_] [(ii 4), (ii 0)] t
   refine yC X19.here hx rfl 203 214 rfl (hb hby at_203) rfl rfl ?_
   show S_ p e below T19 m 214 #[vi n_, vi p_, vi q_, vi r_, vi v_, vi 0, vi ch0, vi ch1, vi ch2, vi ch3, vr b8, vr b14, u_] [] t
   refine XS.iconst X19.here hx rfl (hb hby at_214) ?_
   show S_ p e below T19 m 215 #[vi n_, vi p_, vi q_, vi r_, vi v_, vi 0, vi ch0, vi ch1, vi ch2, vi ch3, vr b8, vr b14, u_] [(ii 1)] t
   refine yG X19.here hx rfl 215 219 rfl (hb hby at_215) ?_
   show S_ p e below T19 m 219 #[vi n_, vi p_, vi q_, vi r_, vi v_, vi 0, vi ch0, vi ch1, vi ch2, vi ch3, vr b8, vr b14, u_] [(ii 1)] t
   refine XS.istore X19.here hx rfl (hb hby at_219) rfl (l' := #[vi n_, vi p_, vi q_, vi r_, vi v_, vi 0, vi ch0, vi ch1, vi ch2, vi ch3, vr b8, vr b14, vi 1]) rfl ?_
   show S_ p e below T19 m 221 #[vi n_, vi p_, vi q_, vi r_, vi v_, vi 0, vi ch0, vi ch1, vi ch2, vi ch3, vr b8, vr b14, vi 1] [] t
   refine XS.aload X19.here hx rfl (hb hby at_221) rfl rfl ?_
   exact k
  obtain ⟨_, T31, L31, X31, hQ31, c31⟩ := kstat X19 hx hZ19 hown19 (w24 hw) (w25 hw) (w26 hw) (w27 hw) (rm_ascL_0 l Z a0 hw [] b14 b24 k25 si1_ sv12_ T19.heap n0 o28 p22 p23 p26 p27 ZS0_ sn4_ ZS6_ sv12_r) rfl c30 hml pd_pLjava_lang_String_rZ [(rr b14)] [] 0 (hb hby at_223) rfl rfl rfl rfl rfl rfl
  obtain ⟨rfl, N32q, K33⟩ := hQ31
  have N32 := Fr.app N20 N32q
  obtain ⟨fs, hr, hrun, hended, hRW⟩ := X31.leaveW hS19 (by first | exact (Nat.le_refl _) | (rw [K33]; exact (Nat.le_refl _))) (v := some (ii 1)) (fun h => by rw [Bd.returns] at h; cases h)
  refine ⟨_, _, c31 _ ?_, hrun, hended, _, _, rfl, ?_, hRW.1, hRW.2.1, hRW.2.2.1, hRW.2.2.2.mono (by decide) (by decide)⟩
  ·show S_ p e below T31 m 226 #[vi n_, vi p_, vi q_, vi r_, vi v_, vi 0, vi ch0, vi ch1, vi ch2, vi ch3, vr b8, vr b14, vi 1] [(ii 1)] _
   refine XS.iload X31.here hx rfl (hb hby at_226) rfl ?_
   show S_ p e below T31 m 228 #[vi n_, vi p_, vi q_, vi r_, vi v_, vi 0, vi ch0, vi ch1, vi ch2, vi ch3, vr b8, vr b14, vi 1] [(ii 1), (ii 1)] _
   refine XS.icmpNo X31.here hx rfl (hb hby at_228) rfl rfl ?_
   show S_ p e below T31 m 231 #[vi n_, vi p_, vi q_, vi r_, vi v_, vi 0, vi ch0, vi ch1, vi ch2, vi ch3, vr b8, vr b14, vi 1] [] _
   refine XS.iconst X31.here hx rfl (hb hby at_231) ?_
   show S_ p e below T31 m 232 #[vi n_, vi p_, vi q_, vi r_, vi v_, vi 0, vi ch0, vi ch1, vi ch2, vi ch3, vr b8, vr b14, vi 1] [(ii 1)] _
   refine yG X31.here hx rfl 232 236 rfl (hb hby at_232) ?_
   show S_ p e below T31 m 236 #[vi n_, vi p_, vi q_, vi r_, vi v_, vi 0, vi ch0, vi ch1, vi ch2, vi ch3, vr b8, vr b14, vi 1] [(ii 1)] _
   exact retN X31 hx (t := .boolean) Bd.returns (by simp) (hb hby at_236) hr
  ·show Q_law Z n_ p_ q_ r_ v_ si1_ sv12_ h0 n0 _ T31.heap _
   rw [K33]
   exact ⟨rfl, N32, kp29⟩
 ·rw [hv6] at c1
  have c34 : Kt p e below s₁ st0 (mkF m 57 #[vi n_, vi p_, vi q_, vi r_, vi v_, vi 1, vi ch0, vi ch1, vi ch2, vi ch3, u_, u_, u_] [(ii 1)]) := fun t k => by
   refine c1 t ?_
   show S_ p e below s₁ m 37 #[vi n_, vi p_, vi q_, vi r_, vi v_, vi 1, vi ch0, vi ch1, vi ch2, vi ch3, u_, u_, u_] [] t
   refine XS.iload X0.here hx rfl (hb hby at_37) rfl ?_
   show S_ p e below s₁ m 39 #[vi n_, vi p_, vi q_, vi r_, vi v_, vi 1, vi ch0, vi ch1, vi ch2, vi ch3, u_, u_, u_] [(ii 1)] t
   refine yI X0.here hx rfl 39 50 rfl (hb hby at_39) rfl rfl ?_
   show S_ p e below s₁ m 50 #[vi n_, vi p_, vi q_, vi r_, vi v_, vi 1, vi ch0, vi ch1, vi ch2, vi ch3, u_, u_, u_] [] t
   refine XS.iload X0.here hx rfl (hb hby at_50) rfl ?_
   show S_ p e below s₁ m 52 #[vi n_, vi p_, vi q_, vi r_, vi v_, vi 1, vi ch0, vi ch1, vi ch2, vi ch3, u_, u_, u_] [(ii 1)] t
   refine XS.iconst X0.here hx rfl (hb hby at_52) ?_
   show S_ p e below s₁ m 53 #[vi n_, vi p_, vi q_, vi r_, vi v_, vi 1, vi ch0, vi ch1, vi ch2, vi ch3, u_, u_, u_] [(ii 1), (ii 1)] t
   refine XS.icmpNo X0.here hx rfl (hb hby at_53) rfl rfl ?_
   show S_ p e below s₁ m 56 #[vi n_, vi p_, vi q_, vi r_, vi v_, vi 1, vi ch0, vi ch1, vi ch2, vi ch3, u_, u_, u_] [] t
   refine XS.iconst X0.here hx rfl (hb hby at_56) ?_
   exact k
  obtain ⟨b35, T35, h35, k35, z35, g35, X35, e35, E35, o36, A35, c35⟩ := knewP (aty := .char) X0 hx hZ (w2 hw) e0 c34 rfl (hb hby at_57) rfl (by decide) 1 (by decide) (by decide) (by decide) (by decide) O0
  have kp38 := kp0.ext E35
  have z39 := Nat.le_trans kp0.1 z35
  have f37 : Arv Z h35 b35 k35 .char (1 : Int32) [(ii 0)] (ii 0) := A35.pad (pad_rep [] (ii 0) 1)
  have c40 : Kt p e below T35 st0 (mkF m 63 #[vi n_, vi p_, vi q_, vi r_, vi v_, vi 1, vi ch0, vi ch1, vi ch2, vi ch3, u_, u_, u_] [(.int ch0), (ii 0), (rr b35), (rr b35)]) := fun t k => by
   refine c35 t ?_
   show S_ p e below T35 m 59 #[vi n_, vi p_, vi q_, vi r_, vi v_, vi 1, vi ch0, vi ch1, vi ch2, vi ch3, u_, u_, u_] [(rr b35)] t
   refine XS.dup X35.here hx rfl (hb hby at_59) rfl rfl ?_
   show S_ p e below T35 m 60 #[vi n_, vi p_, vi q_, vi r_, vi v_, vi 1, vi ch0, vi ch1, vi ch2, vi ch3, u_, u_, u_] [(rr b35), (rr b35)] t
   refine XS.iconst X35.here hx rfl (hb hby at_60) ?_
   show S_ p e below T35 m 61 #[vi n_, vi p_, vi q_, vi r_, vi v_, vi 1, vi ch0, vi ch1, vi ch2, vi ch3, u_, u_, u_] [(ii 0), (rr b35), (rr b35)] t
   refine XS.iload X35.here hx rfl (hb hby at_61) rfl ?_
   exact k
  obtain ⟨T41, h41, X41, e41, W41, f44, o42, N43, c41⟩ := kstC X35 hx hZ e35 f37 (j := (0 : Int32)) (by decide) (by decide) 0 rfl (Nat.le_of_ble_eq_true rfl) c40 rfl rfl (hb hby at_63) o36 N0 g35
  rw [hg2] at W41 f44
  have f45 : Arv Z h41 b35 k35 .char (1 : Int32) [(.int ch0)] (ii 0) := f44
  have kp46 := kp38.wr W41 (Or.inr z39)
  have c47 : Kt p e below T41 st0 (mkF m 147 #[vi n_, vi p_, vi q_, vi r_, vi v_, vi 1, vi ch0, vi ch1, vi ch2, vi ch3, vr b35, u_, u_] []) := fun t k => by
   refine c41 t ?_
   show S_ p e below T41 m 64 #[vi n_, vi p_, vi q_, vi r_, vi v_, vi 1, vi ch0, vi ch1, vi ch2, vi ch3, u_, u_, u_] [(rr b35)] t
   refine XS.astore X41.here hx rfl (hb hby at_64) rfl rfl (l' := #[vi n_, vi p_, vi q_, vi r_, vi v_, vi 1, vi ch0, vi ch1, vi ch2, vi ch3, vr b35, u_, u_]) rfl ?_
   show S_ p e below T41 m 66 #[vi n_, vi p_, vi q_, vi r_, vi v_, vi 1, vi ch0, vi ch1, vi ch2, vi ch3, vr b35, u_, u_] [] t
   refine yG X41.here hx rfl 66 147 rfl (hb hby at_66) ?_
   exact k
  obtain ⟨b48, T48, h48, z48, g48, X48, e48, E48, o49, A48, D48, U48, c48⟩ := knew X41 hx hZ hown (w3 hw) (w4 hw) (w5 hw) e41 c47 rfl (hb hby at_147) (by decide) (by decide) o42
  have kp50 := kp46.ext E48
  have z51 := Nat.le_trans kp46.1 z48
  have c52 : Kt p e below T48 st0 (mkF m 153 #[vi n_, vi p_, vi q_, vi r_, vi v_, vi 1, vi ch0, vi ch1, vi ch2, vi ch3, vr b35, u_, u_] [(rr b35), (rr b48), (rr b48)]) := fun t k => by
   refine c48 t ?_
   show S_ p e below T48 m 150 #[vi n_, vi p_, vi q_, vi r_, vi v_, vi 1, vi ch0, vi ch1, vi ch2, vi ch3, vr b35, u_, u_] [(rr b48)] t
   refine XS.dup X48.here hx rfl (hb hby at_150) rfl rfl ?_
   show S_ p e below T48 m 151 #[vi n_, vi p_, vi q_, vi r_, vi v_, vi 1, vi ch0, vi ch1, vi ch2, vi ch3, vr b35, u_, u_] [(rr b48), (rr b48)] t
   refine XS.aload X48.here hx rfl (hb hby at_151) rfl rfl ?_
   exact k
  obtain ⟨_, T53, L53, X53, hQ53, c53⟩ := kspec X48 hx hZ hown (w6 hw) (w7 hw) (w5 hw) (w8 hw) (rm_str1a_1 l Z a0 hw [] b48 b35 k35 si1_ ch0 h48 n0 o49 A48 (show Fld Z h48 b48 nm0 "value" "[B" .null from D48 (Or.inr (w18 hw)) (ty := (.array .byte)) (by decide)) (show Fld Z h48 b48 nm0 "coder" "B" (ii 0) from D48 (Or.inr (w19 hw)) (ty := .byte) (by decide)) g48 (f45.ext E48) ZS0_ sn4_ ZS2_ ZS3_ ZS4_ hg2) e48 c52 hml pd_pACrV b48 [(rr b35)] [(rr b48)] 1 (hb hby at_153) rfl rfl rfl rfl rfl rfl
  rcases hQ53 with hQ53 | hQ53
  ·obtain ⟨rfl, N54q, K55, p56, p57, b58, k59, p60, p61, p62, p63, p64⟩ := hQ53
   have N54 := Fr.app N43 N54q
   have o65 := o49.keep K55 (allS g48 all0)
   have kp66 := kp50.trans K55 (allS (Or.inr z51) all0)
   have z67 := Nat.le_trans kp50.1 p63
   have g68 := Nat.le_trans (Nat.le_trans (Nat.le_of_eq o49.1.symm) o49.2.1) p63
   have c69 : Kt p e below T53 st0 (mkF m 169 #[vi n_, vi p_, vi q_, vi r_, vi v_, vi 1, vi ch0, vi ch1, vi ch2, vi ch3, vr b35, vr b48, u_] [(ii 128), (.int ch0)]) := fun t k => by
    refine c53 t ?_
    show S_ p e below T53 m 156 #[vi n_, vi p_, vi q_, vi r_, vi v_, vi 1, vi ch0, vi ch1, vi ch2, vi ch3, vr b35, u_, u_] [(rr b48)] t
    refine XS.astore X53.here hx rfl (hb hby at_156) rfl rfl (l' := #[vi n_, vi p_, vi q_, vi r_, vi v_, vi 1, vi ch0, vi ch1, vi ch2, vi ch3, vr b35, vr b48, u_]) rfl ?_
    show S_ p e below T53 m 158 #[vi n_, vi p_, vi q_, vi r_, vi v_, vi 1, vi ch0, vi ch1, vi ch2, vi ch3, vr b35, vr b48, u_] [] t
    refine XS.iload X53.here hx rfl (hb hby at_158) rfl ?_
    show S_ p e below T53 m 160 #[vi n_, vi p_, vi q_, vi r_, vi v_, vi 1, vi ch0, vi ch1, vi ch2, vi ch3, vr b35, vr b48, u_] [(ii 1)] t
    refine XS.iconst X53.here hx rfl (hb hby at_160) ?_
    show S_ p e below T53 m 161 #[vi n_, vi p_, vi q_, vi r_, vi v_, vi 1, vi ch0, vi ch1, vi ch2, vi ch3, vr b35, vr b48, u_] [(ii 1), (ii 1)] t
    refine XS.icmpNo X53.here hx rfl (hb hby at_161) rfl rfl ?_
    show S_ p e below T53 m 164 #[vi n_, vi p_, vi q_, vi r_, vi v_, vi 1, vi ch0, vi ch1, vi ch2, vi ch3, vr b35, vr b48, u_] [] t
    refine XS.iload X53.here hx rfl (hb hby at_164) rfl ?_
    show S_ p e below T53 m 166 #[vi n_, vi p_, vi q_, vi r_, vi v_, vi 1, vi ch0, vi ch1, vi ch2, vi ch3, vr b35, vr b48, u_] [(.int ch0)] t
    refine XS.sipush X53.here hx rfl (hb hby at_166) ?_
    exact k
   by_cases hc70 : ch0 < (128 : Int32)
   ·have c71 : Kt p e below T53 st0 (mkF m 223 #[vi n_, vi p_, vi q_, vi r_, vi v_, vi 1, vi ch0, vi ch1, vi ch2, vi ch3, vr b35, vr b48, vi 1] [(rr b48)]) := fun t k => by
     refine c69 t ?_
     show S_ p e below T53 m 169 #[vi n_, vi p_, vi q_, vi r_, vi v_, vi 1, vi ch0, vi ch1, vi ch2, vi ch3, vr b35, vr b48, u_] [(ii 128), (.int ch0)] t
     refine XS.icmpNo X53.here hx rfl (hb hby at_169) rfl (tlt hc70).2.1 ?_
     show S_ p e below T53 m 172 #[vi n_, vi p_, vi q_, vi r_, vi v_, vi 1, vi ch0, vi ch1, vi ch2, vi ch3, vr b35, vr b48, u_] [] t
     refine XS.iload X53.here hx rfl (hb hby at_172) rfl ?_
     show S_ p e below T53 m 174 #[vi n_, vi p_, vi q_, vi r_, vi v_, vi 1, vi ch0, vi ch1, vi ch2, vi ch3, vr b35, vr b48, u_] [(ii 1)] t
     refine XS.iconst X53.here hx rfl (hb hby at_174) ?_
     show S_ p e below T53 m 175 #[vi n_, vi p_, vi q_, vi r_, vi v_, vi 1, vi ch0, vi ch1, vi ch2, vi ch3, vr b35, vr b48, u_] [(ii 2), (ii 1)] t
     refine yC X53.here hx rfl 175 186 rfl (hb hby at_175) rfl rfl ?_
     show S_ p e below T53 m 186 #[vi n_, vi p_, vi q_, vi r_, vi v_, vi 1, vi ch0, vi ch1, vi ch2, vi ch3, vr b35, vr b48, u_] [] t
     refine XS.iload X53.here hx rfl (hb hby at_186) rfl ?_
     show S_ p e below T53 m 188 #[vi n_, vi p_, vi q_, vi r_, vi v_, vi 1, vi ch0, vi ch1, vi ch2, vi ch3, vr b35, vr b48, u_] [(ii 1)] t
     refine XS.iconst X53.here hx rfl (hb hby at_188) ?_
     show S_ p e below T53 m 189 #[vi n_, vi p_, vi q_, vi r_, vi v_, vi 1, vi ch0, vi ch1, vi ch2, vi ch3, vr b35, vr b48, u_] [(ii 3), (ii 1)] t
     refine yC X53.here hx rfl 189 200 rfl (hb hby at_189) rfl rfl ?_
     show S_ p e below T53 m 200 #[vi n_, vi p_, vi q_, vi r_, vi v_, vi 1, vi ch0, vi ch1, vi ch2, vi ch3, vr b35, vr b48, u_] [] t
     refine XS.iload X53.here hx rfl (hb hby at_200) rfl ?_
     show S_ p e below T53 m 202 #[vi n_, vi p_, vi q_, vi r_, vi v_, vi 1, vi ch0, vi ch1, vi ch2, vi ch3, vr b35, vr b48, u_] [(ii 1)] t
     refine XS.iconst X53.here hx rfl (hb hby at_202) ?_
     show S_ p e below T53 m 203 #[vi n_, vi p_, vi q_, vi r_, vi v_, vi 1, vi ch0, vi ch1, vi ch2, vi ch3, vr b35, vr b48, u_] [(ii 4), (ii 1)] t
     refine yC X53.here hx rfl 203 214 rfl (hb hby at_203) rfl rfl ?_
     show S_ p e below T53 m 214 #[vi n_, vi p_, vi q_, vi r_, vi v_, vi 1, vi ch0, vi ch1, vi ch2, vi ch3, vr b35, vr b48, u_] [] t
     refine XS.iconst X53.here hx rfl (hb hby at_214) ?_
     show S_ p e below T53 m 215 #[vi n_, vi p_, vi q_, vi r_, vi v_, vi 1, vi ch0, vi ch1, vi ch2, vi ch3, vr b35, vr b48, u_] [(ii 1)] t
     refine yG X53.here hx rfl 215 219 rfl (hb hby at_215) ?_
     show S_ p e below T53 m 219 #[vi n_, vi p_, vi q_, vi r_, vi v_, vi 1, vi ch0, vi ch1, vi ch2, vi ch3, vr b35, vr b48, u_] [(ii 1)] t
     refine XS.istore X53.here hx rfl (hb hby at_219) rfl (l' := #[vi n_, vi p_, vi q_, vi r_, vi v_, vi 1, vi ch0, vi ch1, vi ch2, vi ch3, vr b35, vr b48, vi 1]) rfl ?_
     show S_ p e below T53 m 221 #[vi n_, vi p_, vi q_, vi r_, vi v_, vi 1, vi ch0, vi ch1, vi ch2, vi ch3, vr b35, vr b48, vi 1] [] t
     refine XS.aload X53.here hx rfl (hb hby at_221) rfl rfl ?_
     exact k
    obtain ⟨_, T72, L72, X72, hQ72, c72⟩ := kstat X53 hx hZ hown (w24 hw) (w25 hw) (w26 hw) (w27 hw) (rm_ascL_1 l Z a0 hw [] b48 b58 k59 si1_ sv12_ ch0 T53.heap n0 o65 p56 p57 p60 p61 ZS0_ sn4_ ZS6_ sv12_r hg2 p64) rfl c71 hml pd_pLjava_lang_String_rZ [(rr b48)] [] 0 (hb hby at_223) rfl rfl rfl rfl rfl rfl
    rcases hQ72 with hQ72 | hQ72
    ·obtain ⟨rfl, N73q, K74, p75⟩ := hQ72
     have N73 := Fr.app N54 N73q
     obtain ⟨fs, hr, hrun, hended, hRW⟩ := X72.leaveW hS0 (by first | exact (Nat.le_trans (Nat.zero_le _) (Nat.le_trans (Nat.le_trans (Nat.le_trans E35.1 (Keep.of_wr W41).1) E48.1) K55.1)) | (rw [K74]; exact (Nat.le_trans (Nat.zero_le _) (Nat.le_trans (Nat.le_trans (Nat.le_trans E35.1 (Keep.of_wr W41).1) E48.1) K55.1)))) (v := some (ii 1)) (fun h => by rw [Bd.returns] at h; cases h)
     refine ⟨_, _, c72 _ ?_, hrun, hended, _, _, rfl, ?_, hRW.1, hRW.2.1, hRW.2.2.1, hRW.2.2.2.mono (by decide) (by decide)⟩
     ·show S_ p e below T72 m 226 #[vi n_, vi p_, vi q_, vi r_, vi v_, vi 1, vi ch0, vi ch1, vi ch2, vi ch3, vr b35, vr b48, vi 1] [(ii 1)] _
      refine XS.iload X72.here hx rfl (hb hby at_226) rfl ?_
      show S_ p e below T72 m 228 #[vi n_, vi p_, vi q_, vi r_, vi v_, vi 1, vi ch0, vi ch1, vi ch2, vi ch3, vr b35, vr b48, vi 1] [(ii 1), (ii 1)] _
      refine XS.icmpNo X72.here hx rfl (hb hby at_228) rfl rfl ?_
      show S_ p e below T72 m 231 #[vi n_, vi p_, vi q_, vi r_, vi v_, vi 1, vi ch0, vi ch1, vi ch2, vi ch3, vr b35, vr b48, vi 1] [] _
      refine XS.iconst X72.here hx rfl (hb hby at_231) ?_
      show S_ p e below T72 m 232 #[vi n_, vi p_, vi q_, vi r_, vi v_, vi 1, vi ch0, vi ch1, vi ch2, vi ch3, vr b35, vr b48, vi 1] [(ii 1)] _
      refine yG X72.here hx rfl 232 236 rfl (hb hby at_232) ?_
      show S_ p e below T72 m 236 #[vi n_, vi p_, vi q_, vi r_, vi v_, vi 1, vi ch0, vi ch1, vi ch2, vi ch3, vr b35, vr b48, vi 1] [(ii 1)] _
      exact retN X72 hx (t := .boolean) Bd.returns (by simp) (hb hby at_236) hr
     ·show Q_law Z n_ p_ q_ r_ v_ si1_ sv12_ h0 n0 _ T72.heap _
      rw [K74]
      exact ⟨rfl, N73, kp66⟩
    ·obtain ⟨rfl, N76q, K77, p78⟩ := hQ72
     have N76 := Fr.app N54 N76q
     exact absurd hc70 p78
   ·have c79 : Kt p e below T53 st0 (mkF m 223 #[vi n_, vi p_, vi q_, vi r_, vi v_, vi 1, vi ch0, vi ch1, vi ch2, vi ch3, vr b35, vr b48, vi 0] [(rr b48)]) := fun t k => by
     refine c69 t ?_
     show S_ p e below T53 m 169 #[vi n_, vi p_, vi q_, vi r_, vi v_, vi 1, vi ch0, vi ch1, vi ch2, vi ch3, vr b35, vr b48, u_] [(ii 128), (.int ch0)] t
     refine yC X53.here hx rfl 169 218 rfl (hb hby at_169) rfl (flt hc70).2.1 ?_
     show S_ p e below T53 m 218 #[vi n_, vi p_, vi q_, vi r_, vi v_, vi 1, vi ch0, vi ch1, vi ch2, vi ch3, vr b35, vr b48, u_] [] t
     refine XS.iconst X53.here hx rfl (hb hby at_218) ?_
     show S_ p e below T53 m 219 #[vi n_, vi p_, vi q_, vi r_, vi v_, vi 1, vi ch0, vi ch1, vi ch2, vi ch3, vr b35, vr b48, u_] [(ii 0)] t
     refine XS.istore X53.here hx rfl (hb hby at_219) rfl (l' := #[vi n_, vi p_, vi q_, vi r_, vi v_, vi 1, vi ch0, vi ch1, vi ch2, vi ch3, vr b35, vr b48, vi 0]) rfl ?_
     show S_ p e below T53 m 221 #[vi n_, vi p_, vi q_, vi r_, vi v_, vi 1, vi ch0, vi ch1, vi ch2, vi ch3, vr b35, vr b48, vi 0] [] t
     refine XS.aload X53.here hx rfl (hb hby at_221) rfl rfl ?_
     exact k
    obtain ⟨_, T80, L80, X80, hQ80, c80⟩ := kstat X53 hx hZ hown (w24 hw) (w25 hw) (w26 hw) (w27 hw) (rm_ascL_1 l Z a0 hw [] b48 b58 k59 si1_ sv12_ ch0 T53.heap n0 o65 p56 p57 p60 p61 ZS0_ sn4_ ZS6_ sv12_r hg2 p64) rfl c79 hml pd_pLjava_lang_String_rZ [(rr b48)] [] 0 (hb hby at_223) rfl rfl rfl rfl rfl rfl
    rcases hQ80 with hQ80 | hQ80
    ·obtain ⟨rfl, N81q, K82, p83⟩ := hQ80
     have N81 := Fr.app N54 N81q
     exact absurd p83 hc70
    ·obtain ⟨rfl, N84q, K85, p86⟩ := hQ80
     have N84 := Fr.app N54 N84q
     obtain ⟨fs, hr, hrun, hended, hRW⟩ := X80.leaveW hS0 (by first | exact (Nat.le_trans (Nat.zero_le _) (Nat.le_trans (Nat.le_trans (Nat.le_trans E35.1 (Keep.of_wr W41).1) E48.1) K55.1)) | (rw [K85]; exact (Nat.le_trans (Nat.zero_le _) (Nat.le_trans (Nat.le_trans (Nat.le_trans E35.1 (Keep.of_wr W41).1) E48.1) K55.1)))) (v := some (ii 1)) (fun h => by rw [Bd.returns] at h; cases h)
     refine ⟨_, _, c80 _ ?_, hrun, hended, _, _, rfl, ?_, hRW.1, hRW.2.1, hRW.2.2.1, hRW.2.2.2.mono (by decide) (by decide)⟩
     ·show S_ p e below T80 m 226 #[vi n_, vi p_, vi q_, vi r_, vi v_, vi 1, vi ch0, vi ch1, vi ch2, vi ch3, vr b35, vr b48, vi 0] [(ii 0)] _
      refine XS.iload X80.here hx rfl (hb hby at_226) rfl ?_
      show S_ p e below T80 m 228 #[vi n_, vi p_, vi q_, vi r_, vi v_, vi 1, vi ch0, vi ch1, vi ch2, vi ch3, vr b35, vr b48, vi 0] [(ii 0), (ii 0)] _
      refine XS.icmpNo X80.here hx rfl (hb hby at_228) rfl rfl ?_
      show S_ p e below T80 m 231 #[vi n_, vi p_, vi q_, vi r_, vi v_, vi 1, vi ch0, vi ch1, vi ch2, vi ch3, vr b35, vr b48, vi 0] [] _
      refine XS.iconst X80.here hx rfl (hb hby at_231) ?_
      show S_ p e below T80 m 232 #[vi n_, vi p_, vi q_, vi r_, vi v_, vi 1, vi ch0, vi ch1, vi ch2, vi ch3, vr b35, vr b48, vi 0] [(ii 1)] _
      refine yG X80.here hx rfl 232 236 rfl (hb hby at_232) ?_
      show S_ p e below T80 m 236 #[vi n_, vi p_, vi q_, vi r_, vi v_, vi 1, vi ch0, vi ch1, vi ch2, vi ch3, vr b35, vr b48, vi 0] [(ii 1)] _
      exact retN X80 hx (t := .boolean) Bd.returns (by simp) (hb hby at_236) hr
     ·show Q_law Z n_ p_ q_ r_ v_ si1_ sv12_ h0 n0 _ T80.heap _
      rw [K85]
      exact ⟨rfl, N84, kp66⟩
  ·obtain ⟨rfl, N87q, K88, p89, p90, b91, k92, p93, p94, p95, p96⟩ := hQ53
   have N87 := Fr.app N43 N87q
   have o97 := o49.keep K88 (allS g48 all0)
   have kp98 := kp50.trans K88 (allS (Or.inr z51) all0)
   have z99 := Nat.le_trans kp50.1 p96
   have g100 := Nat.le_trans (Nat.le_trans (Nat.le_of_eq o49.1.symm) o49.2.1) p96
   have c101 : Kt p e below T53 st0 (mkF m 169 #[vi n_, vi p_, vi q_, vi r_, vi v_, vi 1, vi ch0, vi ch1, vi ch2, vi ch3, vr b35, vr b48, u_] [(ii 128), (.int ch0)]) := fun t k => by
    refine c53 t ?_
    show S_ p e below T53 m 156 #[vi n_, vi p_, vi q_, vi r_, vi v_, vi 1, vi ch0, vi ch1, vi ch2, vi ch3, vr b35, u_, u_] [(rr b48)] t
    refine XS.astore X53.here hx rfl (hb hby at_156) rfl rfl (l' := #[vi n_, vi p_, vi q_, vi r_, vi v_, vi 1, vi ch0, vi ch1, vi ch2, vi ch3, vr b35, vr b48, u_]) rfl ?_
    show S_ p e below T53 m 158 #[vi n_, vi p_, vi q_, vi r_, vi v_, vi 1, vi ch0, vi ch1, vi ch2, vi ch3, vr b35, vr b48, u_] [] t
    refine XS.iload X53.here hx rfl (hb hby at_158) rfl ?_
    show S_ p e below T53 m 160 #[vi n_, vi p_, vi q_, vi r_, vi v_, vi 1, vi ch0, vi ch1, vi ch2, vi ch3, vr b35, vr b48, u_] [(ii 1)] t
    refine XS.iconst X53.here hx rfl (hb hby at_160) ?_
    show S_ p e below T53 m 161 #[vi n_, vi p_, vi q_, vi r_, vi v_, vi 1, vi ch0, vi ch1, vi ch2, vi ch3, vr b35, vr b48, u_] [(ii 1), (ii 1)] t
    refine XS.icmpNo X53.here hx rfl (hb hby at_161) rfl rfl ?_
    show S_ p e below T53 m 164 #[vi n_, vi p_, vi q_, vi r_, vi v_, vi 1, vi ch0, vi ch1, vi ch2, vi ch3, vr b35, vr b48, u_] [] t
    refine XS.iload X53.here hx rfl (hb hby at_164) rfl ?_
    show S_ p e below T53 m 166 #[vi n_, vi p_, vi q_, vi r_, vi v_, vi 1, vi ch0, vi ch1, vi ch2, vi ch3, vr b35, vr b48, u_] [(.int ch0)] t
    refine XS.sipush X53.here hx rfl (hb hby at_166) ?_
    exact k
   by_cases hc102 : ch0 < (128 : Int32)
   ·have c103 : Kt p e below T53 st0 (mkF m 223 #[vi n_, vi p_, vi q_, vi r_, vi v_, vi 1, vi ch0, vi ch1, vi ch2, vi ch3, vr b35, vr b48, vi 1] [(rr b48)]) := fun t k => by
     refine c101 t ?_
     show S_ p e below T53 m 169 #[vi n_, vi p_, vi q_, vi r_, vi v_, vi 1, vi ch0, vi ch1, vi ch2, vi ch3, vr b35, vr b48, u_] [(ii 128), (.int ch0)] t
     refine XS.icmpNo X53.here hx rfl (hb hby at_169) rfl (tlt hc102).2.1 ?_
     show S_ p e below T53 m 172 #[vi n_, vi p_, vi q_, vi r_, vi v_, vi 1, vi ch0, vi ch1, vi ch2, vi ch3, vr b35, vr b48, u_] [] t
     refine XS.iload X53.here hx rfl (hb hby at_172) rfl ?_
     show S_ p e below T53 m 174 #[vi n_, vi p_, vi q_, vi r_, vi v_, vi 1, vi ch0, vi ch1, vi ch2, vi ch3, vr b35, vr b48, u_] [(ii 1)] t
     refine XS.iconst X53.here hx rfl (hb hby at_174) ?_
     show S_ p e below T53 m 175 #[vi n_, vi p_, vi q_, vi r_, vi v_, vi 1, vi ch0, vi ch1, vi ch2, vi ch3, vr b35, vr b48, u_] [(ii 2), (ii 1)] t
     refine yC X53.here hx rfl 175 186 rfl (hb hby at_175) rfl rfl ?_
     show S_ p e below T53 m 186 #[vi n_, vi p_, vi q_, vi r_, vi v_, vi 1, vi ch0, vi ch1, vi ch2, vi ch3, vr b35, vr b48, u_] [] t
     refine XS.iload X53.here hx rfl (hb hby at_186) rfl ?_
     show S_ p e below T53 m 188 #[vi n_, vi p_, vi q_, vi r_, vi v_, vi 1, vi ch0, vi ch1, vi ch2, vi ch3, vr b35, vr b48, u_] [(ii 1)] t
     refine XS.iconst X53.here hx rfl (hb hby at_188) ?_
     show S_ p e below T53 m 189 #[vi n_, vi p_, vi q_, vi r_, vi v_, vi 1, vi ch0, vi ch1, vi ch2, vi ch3, vr b35, vr b48, u_] [(ii 3), (ii 1)] t
     refine yC X53.here hx rfl 189 200 rfl (hb hby at_189) rfl rfl ?_
     show S_ p e below T53 m 200 #[vi n_, vi p_, vi q_, vi r_, vi v_, vi 1, vi ch0, vi ch1, vi ch2, vi ch3, vr b35, vr b48, u_] [] t
     refine XS.iload X53.here hx rfl (hb hby at_200) rfl ?_
     show S_ p e below T53 m 202 #[vi n_, vi p_, vi q_, vi r_, vi v_, vi 1, vi ch0, vi ch1, vi ch2, vi ch3, vr b35, vr b48, u_] [(ii 1)] t
     refine XS.iconst X53.here hx rfl (hb hby at_202) ?_
     show S_ p e below T53 m 203 #[vi n_, vi p_, vi q_, vi r_, vi v_, vi 1, vi ch0, vi ch1, vi ch2, vi ch3, vr b35, vr b48, u_] [(ii 4), (ii 1)] t
     refine yC X53.here hx rfl 203 214 rfl (hb hby at_203) rfl rfl ?_
     show S_ p e below T53 m 214 #[vi n_, vi p_, vi q_, vi r_, vi v_, vi 1, vi ch0, vi ch1, vi ch2, vi ch3, vr b35, vr b48, u_] [] t
     refine XS.iconst X53.here hx rfl (hb hby at_214) ?_
     show S_ p e below T53 m 215 #[vi n_, vi p_, vi q_, vi r_, vi v_, vi 1, vi ch0, vi ch1, vi ch2, vi ch3, vr b35, vr b48, u_] [(ii 1)] t
     refine yG X53.here hx rfl 215 219 rfl (hb hby at_215) ?_
     show S_ p e below T53 m 219 #[vi n_, vi p_, vi q_, vi r_, vi v_, vi 1, vi ch0, vi ch1, vi ch2, vi ch3, vr b35, vr b48, u_] [(ii 1)] t
     refine XS.istore X53.here hx rfl (hb hby at_219) rfl (l' := #[vi n_, vi p_, vi q_, vi r_, vi v_, vi 1, vi ch0, vi ch1, vi ch2, vi ch3, vr b35, vr b48, vi 1]) rfl ?_
     show S_ p e below T53 m 221 #[vi n_, vi p_, vi q_, vi r_, vi v_, vi 1, vi ch0, vi ch1, vi ch2, vi ch3, vr b35, vr b48, vi 1] [] t
     refine XS.aload X53.here hx rfl (hb hby at_221) rfl rfl ?_
     exact k
    obtain ⟨_, T104, L104, X104, hQ104, c104⟩ := kstat X53 hx hZ hown (w24 hw) (w25 hw) (w26 hw) (w27 hw) (rm_ascU_1 l Z a0 hw [] b48 b91 k92 si1_ sv12_ ch0 T53.heap n0 o97 p89 p90 p93 p94 ZS0_ sn4_ ZS6_ sv12_r hg2 ZS2_ ZS3_ ZS4_) rfl c103 hml pd_pLjava_lang_String_rZ [(rr b48)] [] 0 (hb hby at_223) rfl rfl rfl rfl rfl rfl
    rcases hQ104 with hQ104 | hQ104
    ·obtain ⟨rfl, N105q, K106, p107⟩ := hQ104
     have N105 := Fr.app N87 N105q
     obtain ⟨fs, hr, hrun, hended, hRW⟩ := X104.leaveW hS0 (by first | exact (Nat.le_trans (Nat.zero_le _) (Nat.le_trans (Nat.le_trans (Nat.le_trans E35.1 (Keep.of_wr W41).1) E48.1) K88.1)) | (rw [K106]; exact (Nat.le_trans (Nat.zero_le _) (Nat.le_trans (Nat.le_trans (Nat.le_trans E35.1 (Keep.of_wr W41).1) E48.1) K88.1)))) (v := some (ii 1)) (fun h => by rw [Bd.returns] at h; cases h)
     refine ⟨_, _, c104 _ ?_, hrun, hended, _, _, rfl, ?_, hRW.1, hRW.2.1, hRW.2.2.1, hRW.2.2.2.mono (by decide) (by decide)⟩
     ·show S_ p e below T104 m 226 #[vi n_, vi p_, vi q_, vi r_, vi v_, vi 1, vi ch0, vi ch1, vi ch2, vi ch3, vr b35, vr b48, vi 1] [(ii 1)] _
      refine XS.iload X104.here hx rfl (hb hby at_226) rfl ?_
      show S_ p e below T104 m 228 #[vi n_, vi p_, vi q_, vi r_, vi v_, vi 1, vi ch0, vi ch1, vi ch2, vi ch3, vr b35, vr b48, vi 1] [(ii 1), (ii 1)] _
      refine XS.icmpNo X104.here hx rfl (hb hby at_228) rfl rfl ?_
      show S_ p e below T104 m 231 #[vi n_, vi p_, vi q_, vi r_, vi v_, vi 1, vi ch0, vi ch1, vi ch2, vi ch3, vr b35, vr b48, vi 1] [] _
      refine XS.iconst X104.here hx rfl (hb hby at_231) ?_
      show S_ p e below T104 m 232 #[vi n_, vi p_, vi q_, vi r_, vi v_, vi 1, vi ch0, vi ch1, vi ch2, vi ch3, vr b35, vr b48, vi 1] [(ii 1)] _
      refine yG X104.here hx rfl 232 236 rfl (hb hby at_232) ?_
      show S_ p e below T104 m 236 #[vi n_, vi p_, vi q_, vi r_, vi v_, vi 1, vi ch0, vi ch1, vi ch2, vi ch3, vr b35, vr b48, vi 1] [(ii 1)] _
      exact retN X104 hx (t := .boolean) Bd.returns (by simp) (hb hby at_236) hr
     ·show Q_law Z n_ p_ q_ r_ v_ si1_ sv12_ h0 n0 _ T104.heap _
      rw [K106]
      exact ⟨rfl, N105, kp98⟩
    ·obtain ⟨rfl, N108q, K109, p110⟩ := hQ104
     have N108 := Fr.app N87 N108q
     exact absurd hc102 p110
   ·have c111 : Kt p e below T53 st0 (mkF m 223 #[vi n_, vi p_, vi q_, vi r_, vi v_, vi 1, vi ch0, vi ch1, vi ch2, vi ch3, vr b35, vr b48, vi 0] [(rr b48)]) := fun t k => by
     refine c101 t ?_
     show S_ p e below T53 m 169 #[vi n_, vi p_, vi q_, vi r_, vi v_, vi 1, vi ch0, vi ch1, vi ch2, vi ch3, vr b35, vr b48, u_] [(ii 128), (.int ch0)] t
     refine yC X53.here hx rfl 169 218 rfl (hb hby at_169) rfl (flt hc102).2.1 ?_
     show S_ p e below T53 m 218 #[vi n_, vi p_, vi q_, vi r_, vi v_, vi 1, vi ch0, vi ch1, vi ch2, vi ch3, vr b35, vr b48, u_] [] t
     refine XS.iconst X53.here hx rfl (hb hby at_218) ?_
     show S_ p e below T53 m 219 #[vi n_, vi p_, vi q_, vi r_, vi v_, vi 1, vi ch0, vi ch1, vi ch2, vi ch3, vr b35, vr b48, u_] [(ii 0)] t
     refine XS.istore X53.here hx rfl (hb hby at_219) rfl (l' := #[vi n_, vi p_, vi q_, vi r_, vi v_, vi 1, vi ch0, vi ch1, vi ch2, vi ch3, vr b35, vr b48, vi 0]) rfl ?_
     show S_ p e below T53 m 221 #[vi n_, vi p_, vi q_, vi r_, vi v_, vi 1, vi ch0, vi ch1, vi ch2, vi ch3, vr b35, vr b48, vi 0] [] t
     refine XS.aload X53.here hx rfl (hb hby at_221) rfl rfl ?_
     exact k
    obtain ⟨_, T112, L112, X112, hQ112, c112⟩ := kstat X53 hx hZ hown (w24 hw) (w25 hw) (w26 hw) (w27 hw) (rm_ascU_1 l Z a0 hw [] b48 b91 k92 si1_ sv12_ ch0 T53.heap n0 o97 p89 p90 p93 p94 ZS0_ sn4_ ZS6_ sv12_r hg2 ZS2_ ZS3_ ZS4_) rfl c111 hml pd_pLjava_lang_String_rZ [(rr b48)] [] 0 (hb hby at_223) rfl rfl rfl rfl rfl rfl
    rcases hQ112 with hQ112 | hQ112
    ·obtain ⟨rfl, N113q, K114, p115⟩ := hQ112
     have N113 := Fr.app N87 N113q
     exact absurd p115 hc102
    ·obtain ⟨rfl, N116q, K117, p118⟩ := hQ112
     have N116 := Fr.app N87 N116q
     obtain ⟨fs, hr, hrun, hended, hRW⟩ := X112.leaveW hS0 (by first | exact (Nat.le_trans (Nat.zero_le _) (Nat.le_trans (Nat.le_trans (Nat.le_trans E35.1 (Keep.of_wr W41).1) E48.1) K88.1)) | (rw [K117]; exact (Nat.le_trans (Nat.zero_le _) (Nat.le_trans (Nat.le_trans (Nat.le_trans E35.1 (Keep.of_wr W41).1) E48.1) K88.1)))) (v := some (ii 1)) (fun h => by rw [Bd.returns] at h; cases h)
     refine ⟨_, _, c112 _ ?_, hrun, hended, _, _, rfl, ?_, hRW.1, hRW.2.1, hRW.2.2.1, hRW.2.2.2.mono (by decide) (by decide)⟩
     ·show S_ p e below T112 m 226 #[vi n_, vi p_, vi q_, vi r_, vi v_, vi 1, vi ch0, vi ch1, vi ch2, vi ch3, vr b35, vr b48, vi 0] [(ii 0)] _
      refine XS.iload X112.here hx rfl (hb hby at_226) rfl ?_
      show S_ p e below T112 m 228 #[vi n_, vi p_, vi q_, vi r_, vi v_, vi 1, vi ch0, vi ch1, vi ch2, vi ch3, vr b35, vr b48, vi 0] [(ii 0), (ii 0)] _
      refine XS.icmpNo X112.here hx rfl (hb hby at_228) rfl rfl ?_
      show S_ p e below T112 m 231 #[vi n_, vi p_, vi q_, vi r_, vi v_, vi 1, vi ch0, vi ch1, vi ch2, vi ch3, vr b35, vr b48, vi 0] [] _
      refine XS.iconst X112.here hx rfl (hb hby at_231) ?_
      show S_ p e below T112 m 232 #[vi n_, vi p_, vi q_, vi r_, vi v_, vi 1, vi ch0, vi ch1, vi ch2, vi ch3, vr b35, vr b48, vi 0] [(ii 1)] _
      refine yG X112.here hx rfl 232 236 rfl (hb hby at_232) ?_
      show S_ p e below T112 m 236 #[vi n_, vi p_, vi q_, vi r_, vi v_, vi 1, vi ch0, vi ch1, vi ch2, vi ch3, vr b35, vr b48, vi 0] [(ii 1)] _
      exact retN X112 hx (t := .boolean) Bd.returns (by simp) (hb hby at_236) hr
     ·show Q_law Z n_ p_ q_ r_ v_ si1_ sv12_ h0 n0 _ T112.heap _
      rw [K117]
      exact ⟨rfl, N116, kp98⟩
 ·rw [hv6] at c1
  have c119 : Kt p e below s₁ st0 (mkF m 76 #[vi n_, vi p_, vi q_, vi r_, vi v_, vi 2, vi ch0, vi ch1, vi ch2, vi ch3, u_, u_, u_] [(ii 2)]) := fun t k => by
   refine c1 t ?_
   show S_ p e below s₁ m 37 #[vi n_, vi p_, vi q_, vi r_, vi v_, vi 2, vi ch0, vi ch1, vi ch2, vi ch3, u_, u_, u_] [] t
   refine XS.iload X0.here hx rfl (hb hby at_37) rfl ?_
   show S_ p e below s₁ m 39 #[vi n_, vi p_, vi q_, vi r_, vi v_, vi 2, vi ch0, vi ch1, vi ch2, vi ch3, u_, u_, u_] [(ii 2)] t
   refine yI X0.here hx rfl 39 50 rfl (hb hby at_39) rfl rfl ?_
   show S_ p e below s₁ m 50 #[vi n_, vi p_, vi q_, vi r_, vi v_, vi 2, vi ch0, vi ch1, vi ch2, vi ch3, u_, u_, u_] [] t
   refine XS.iload X0.here hx rfl (hb hby at_50) rfl ?_
   show S_ p e below s₁ m 52 #[vi n_, vi p_, vi q_, vi r_, vi v_, vi 2, vi ch0, vi ch1, vi ch2, vi ch3, u_, u_, u_] [(ii 2)] t
   refine XS.iconst X0.here hx rfl (hb hby at_52) ?_
   show S_ p e below s₁ m 53 #[vi n_, vi p_, vi q_, vi r_, vi v_, vi 2, vi ch0, vi ch1, vi ch2, vi ch3, u_, u_, u_] [(ii 1), (ii 2)] t
   refine yC X0.here hx rfl 53 69 rfl (hb hby at_53) rfl rfl ?_
   show S_ p e below s₁ m 69 #[vi n_, vi p_, vi q_, vi r_, vi v_, vi 2, vi ch0, vi ch1, vi ch2, vi ch3, u_, u_, u_] [] t
   refine XS.iload X0.here hx rfl (hb hby at_69) rfl ?_
   show S_ p e below s₁ m 71 #[vi n_, vi p_, vi q_, vi r_, vi v_, vi 2, vi ch0, vi ch1, vi ch2, vi ch3, u_, u_, u_] [(ii 2)] t
   refine XS.iconst X0.here hx rfl (hb hby at_71) ?_
   show S_ p e below s₁ m 72 #[vi n_, vi p_, vi q_, vi r_, vi v_, vi 2, vi ch0, vi ch1, vi ch2, vi ch3, u_, u_, u_] [(ii 2), (ii 2)] t
   refine XS.icmpNo X0.here hx rfl (hb hby at_72) rfl rfl ?_
   show S_ p e below s₁ m 75 #[vi n_, vi p_, vi q_, vi r_, vi v_, vi 2, vi ch0, vi ch1, vi ch2, vi ch3, u_, u_, u_] [] t
   refine XS.iconst X0.here hx rfl (hb hby at_75) ?_
   exact k
  obtain ⟨b120, T120, h120, k120, z120, g120, X120, e120, E120, o121, A120, c120⟩ := knewP (aty := .char) X0 hx hZ (w2 hw) e0 c119 rfl (hb hby at_76) rfl (by decide) 2 (by decide) (by decide) (by decide) (by decide) O0
  have kp123 := kp0.ext E120
  have z124 := Nat.le_trans kp0.1 z120
  have f122 : Arv Z h120 b120 k120 .char (2 : Int32) [(ii 0), (ii 0)] (ii 0) := A120.pad (pad_rep [] (ii 0) 2)
  have c125 : Kt p e below T120 st0 (mkF m 82 #[vi n_, vi p_, vi q_, vi r_, vi v_, vi 2, vi ch0, vi ch1, vi ch2, vi ch3, u_, u_, u_] [(.int ch0), (ii 0), (rr b120), (rr b120)]) := fun t k => by
   refine c120 t ?_
   show S_ p e below T120 m 78 #[vi n_, vi p_, vi q_, vi r_, vi v_, vi 2, vi ch0, vi ch1, vi ch2, vi ch3, u_, u_, u_] [(rr b120)] t
   refine XS.dup X120.here hx rfl (hb hby at_78) rfl rfl ?_
   show S_ p e below T120 m 79 #[vi n_, vi p_, vi q_, vi r_, vi v_, vi 2, vi ch0, vi ch1, vi ch2, vi ch3, u_, u_, u_] [(rr b120), (rr b120)] t
   refine XS.iconst X120.here hx rfl (hb hby at_79) ?_
   show S_ p e below T120 m 80 #[vi n_, vi p_, vi q_, vi r_, vi v_, vi 2, vi ch0, vi ch1, vi ch2, vi ch3, u_, u_, u_] [(ii 0), (rr b120), (rr b120)] t
   refine XS.iload X120.here hx rfl (hb hby at_80) rfl ?_
   exact k
  obtain ⟨T126, h126, X126, e126, W126, f129, o127, N128, c126⟩ := kstC X120 hx hZ e120 f122 (j := (0 : Int32)) (by decide) (by decide) 0 rfl (Nat.le_of_ble_eq_true rfl) c125 rfl rfl (hb hby at_82) o121 N0 g120
  rw [hg2] at W126 f129
  have f130 : Arv Z h126 b120 k120 .char (2 : Int32) [(.int ch0), (ii 0)] (ii 0) := f129
  have kp131 := kp123.wr W126 (Or.inr z124)
  have c132 : Kt p e below T126 st0 (mkF m 87 #[vi n_, vi p_, vi q_, vi r_, vi v_, vi 2, vi ch0, vi ch1, vi ch2, vi ch3, u_, u_, u_] [(.int ch1), (ii 1), (rr b120), (rr b120)]) := fun t k => by
   refine c126 t ?_
   show S_ p e below T126 m 83 #[vi n_, vi p_, vi q_, vi r_, vi v_, vi 2, vi ch0, vi ch1, vi ch2, vi ch3, u_, u_, u_] [(rr b120)] t
   refine XS.dup X126.here hx rfl (hb hby at_83) rfl rfl ?_
   show S_ p e below T126 m 84 #[vi n_, vi p_, vi q_, vi r_, vi v_, vi 2, vi ch0, vi ch1, vi ch2, vi ch3, u_, u_, u_] [(rr b120), (rr b120)] t
   refine XS.iconst X126.here hx rfl (hb hby at_84) ?_
   show S_ p e below T126 m 85 #[vi n_, vi p_, vi q_, vi r_, vi v_, vi 2, vi ch0, vi ch1, vi ch2, vi ch3, u_, u_, u_] [(ii 1), (rr b120), (rr b120)] t
   refine XS.iload X126.here hx rfl (hb hby at_85) rfl ?_
   exact k
  obtain ⟨T133, h133, X133, e133, W133, f136, o134, N135, c133⟩ := kstC X126 hx hZ e126 f130 (j := (1 : Int32)) (by decide) (by decide) 1 rfl (Nat.le_of_ble_eq_true rfl) c132 rfl rfl (hb hby at_87) o127 N128 g120
  rw [hg3] at W133 f136
  have f137 : Arv Z h133 b120 k120 .char (2 : Int32) [(.int ch0), (.int ch1)] (ii 0) := f136
  have kp138 := kp131.wr W133 (Or.inr z124)
  have c139 : Kt p e below T133 st0 (mkF m 147 #[vi n_, vi p_, vi q_, vi r_, vi v_, vi 2, vi ch0, vi ch1, vi ch2, vi ch3, vr b120, u_, u_] []) := fun t k => by
   refine c133 t ?_
   show S_ p e below T133 m 88 #[vi n_, vi p_, vi q_, vi r_, vi v_, vi 2, vi ch0, vi ch1, vi ch2, vi ch3, u_, u_, u_] [(rr b120)] t
   refine XS.astore X133.here hx rfl (hb hby at_88) rfl rfl (l' := #[vi n_, vi p_, vi q_, vi r_, vi v_, vi 2, vi ch0, vi ch1, vi ch2, vi ch3, vr b120, u_, u_]) rfl ?_
   show S_ p e below T133 m 90 #[vi n_, vi p_, vi q_, vi r_, vi v_, vi 2, vi ch0, vi ch1, vi ch2, vi ch3, vr b120, u_, u_] [] t
   refine yG X133.here hx rfl 90 147 rfl (hb hby at_90) ?_
   exact k
  obtain ⟨b140, T140, h140, z140, g140, X140, e140, E140, o141, A140, D140, U140, c140⟩ := knew X133 hx hZ hown (w3 hw) (w4 hw) (w5 hw) e133 c139 rfl (hb hby at_147) (by decide) (by decide) o134
  have kp142 := kp138.ext E140
  have z143 := Nat.le_trans kp138.1 z140
  have c144 : Kt p e below T140 st0 (mkF m 153 #[vi n_, vi p_, vi q_, vi r_, vi v_, vi 2, vi ch0, vi ch1, vi ch2, vi ch3, vr b120, u_, u_] [(rr b120), (rr b140), (rr b140)]) := fun t k => by
   refine c140 t ?_
   show S_ p e below T140 m 150 #[vi n_, vi p_, vi q_, vi r_, vi v_, vi 2, vi ch0, vi ch1, vi ch2, vi ch3, vr b120, u_, u_] [(rr b140)] t
   refine XS.dup X140.here hx rfl (hb hby at_150) rfl rfl ?_
   show S_ p e below T140 m 151 #[vi n_, vi p_, vi q_, vi r_, vi v_, vi 2, vi ch0, vi ch1, vi ch2, vi ch3, vr b120, u_, u_] [(rr b140), (rr b140)] t
   refine XS.aload X140.here hx rfl (hb hby at_151) rfl rfl ?_
   exact k
  obtain ⟨_, T145, L145, X145, hQ145, c145⟩ := kspec X140 hx hZ hown (w6 hw) (w7 hw) (w5 hw) (w8 hw) (rm_str1a_2 l Z a0 hw [] b140 b120 k120 si1_ ch0 ch1 h140 n0 o141 A140 (show Fld Z h140 b140 nm0 "value" "[B" .null from D140 (Or.inr (w18 hw)) (ty := (.array .byte)) (by decide)) (show Fld Z h140 b140 nm0 "coder" "B" (ii 0) from D140 (Or.inr (w19 hw)) (ty := .byte) (by decide)) g140 (f137.ext E140) ZS0_ sn4_ ZS2_ ZS3_ ZS4_ hg2 hg3) e140 c144 hml pd_pACrV b140 [(rr b120)] [(rr b140)] 1 (hb hby at_153) rfl rfl rfl rfl rfl rfl
  rcases hQ145 with hQ145 | hQ145
  ·obtain ⟨rfl, N146q, K147, p148, p149, b150, k151, p152, p153, p154, p155, p156, p157⟩ := hQ145
   have N146 := Fr.app N135 N146q
   have o158 := o141.keep K147 (allS g140 all0)
   have kp159 := kp142.trans K147 (allS (Or.inr z143) all0)
   have z160 := Nat.le_trans kp142.1 p155
   have g161 := Nat.le_trans (Nat.le_trans (Nat.le_of_eq o141.1.symm) o141.2.1) p155
   have c162 : Kt p e below T145 st0 (mkF m 169 #[vi n_, vi p_, vi q_, vi r_, vi v_, vi 2, vi ch0, vi ch1, vi ch2, vi ch3, vr b120, vr b140, u_] [(ii 128), (.int ch0)]) := fun t k => by
    refine c145 t ?_
    show S_ p e below T145 m 156 #[vi n_, vi p_, vi q_, vi r_, vi v_, vi 2, vi ch0, vi ch1, vi ch2, vi ch3, vr b120, u_, u_] [(rr b140)] t
    refine XS.astore X145.here hx rfl (hb hby at_156) rfl rfl (l' := #[vi n_, vi p_, vi q_, vi r_, vi v_, vi 2, vi ch0, vi ch1, vi ch2, vi ch3, vr b120, vr b140, u_]) rfl ?_
    show S_ p e below T145 m 158 #[vi n_, vi p_, vi q_, vi r_, vi v_, vi 2, vi ch0, vi ch1, vi ch2, vi ch3, vr b120, vr b140, u_] [] t
    refine XS.iload X145.here hx rfl (hb hby at_158) rfl ?_
    show S_ p e below T145 m 160 #[vi n_, vi p_, vi q_, vi r_, vi v_, vi 2, vi ch0, vi ch1, vi ch2, vi ch3, vr b120, vr b140, u_] [(ii 2)] t
    refine XS.iconst X145.here hx rfl (hb hby at_160) ?_
    show S_ p e below T145 m 161 #[vi n_, vi p_, vi q_, vi r_, vi v_, vi 2, vi ch0, vi ch1, vi ch2, vi ch3, vr b120, vr b140, u_] [(ii 1), (ii 2)] t
    refine XS.icmpNo X145.here hx rfl (hb hby at_161) rfl rfl ?_
    show S_ p e below T145 m 164 #[vi n_, vi p_, vi q_, vi r_, vi v_, vi 2, vi ch0, vi ch1, vi ch2, vi ch3, vr b120, vr b140, u_] [] t
    refine XS.iload X145.here hx rfl (hb hby at_164) rfl ?_
    show S_ p e below T145 m 166 #[vi n_, vi p_, vi q_, vi r_, vi v_, vi 2, vi ch0, vi ch1, vi ch2, vi ch3, vr b120, vr b140, u_] [(.int ch0)] t
    refine XS.sipush X145.here hx rfl (hb hby at_166) ?_
    exact k
   by_cases hc163 : ch0 < (128 : Int32)
   ·have c164 : Kt p e below T145 st0 (mkF m 183 #[vi n_, vi p_, vi q_, vi r_, vi v_, vi 2, vi ch0, vi ch1, vi ch2, vi ch3, vr b120, vr b140, u_] [(ii 128), (.int ch1)]) := fun t k => by
     refine c162 t ?_
     show S_ p e below T145 m 169 #[vi n_, vi p_, vi q_, vi r_, vi v_, vi 2, vi ch0, vi ch1, vi ch2, vi ch3, vr b120, vr b140, u_] [(ii 128), (.int ch0)] t
     refine XS.icmpNo X145.here hx rfl (hb hby at_169) rfl (tlt hc163).2.1 ?_
     show S_ p e below T145 m 172 #[vi n_, vi p_, vi q_, vi r_, vi v_, vi 2, vi ch0, vi ch1, vi ch2, vi ch3, vr b120, vr b140, u_] [] t
     refine XS.iload X145.here hx rfl (hb hby at_172) rfl ?_
     show S_ p e below T145 m 174 #[vi n_, vi p_, vi q_, vi r_, vi v_, vi 2, vi ch0, vi ch1, vi ch2, vi ch3, vr b120, vr b140, u_] [(ii 2)] t
     refine XS.iconst X145.here hx rfl (hb hby at_174) ?_
     show S_ p e below T145 m 175 #[vi n_, vi p_, vi q_, vi r_, vi v_, vi 2, vi ch0, vi ch1, vi ch2, vi ch3, vr b120, vr b140, u_] [(ii 2), (ii 2)] t
     refine XS.icmpNo X145.here hx rfl (hb hby at_175) rfl rfl ?_
     show S_ p e below T145 m 178 #[vi n_, vi p_, vi q_, vi r_, vi v_, vi 2, vi ch0, vi ch1, vi ch2, vi ch3, vr b120, vr b140, u_] [] t
     refine XS.iload X145.here hx rfl (hb hby at_178) rfl ?_
     show S_ p e below T145 m 180 #[vi n_, vi p_, vi q_, vi r_, vi v_, vi 2, vi ch0, vi ch1, vi ch2, vi ch3, vr b120, vr b140, u_] [(.int ch1)] t
     refine XS.sipush X145.here hx rfl (hb hby at_180) ?_
     exact k
    by_cases hc165 : ch1 < (128 : Int32)
    ·have c166 : Kt p e below T145 st0 (mkF m 223 #[vi n_, vi p_, vi q_, vi r_, vi v_, vi 2, vi ch0, vi ch1, vi ch2, vi ch3, vr b120, vr b140, vi 1] [(rr b140)]) := fun t k => by
      refine c164 t ?_
      show S_ p e below T145 m 183 #[vi n_, vi p_, vi q_, vi r_, vi v_, vi 2, vi ch0, vi ch1, vi ch2, vi ch3, vr b120, vr b140, u_] [(ii 128), (.int ch1)] t
      refine XS.icmpNo X145.here hx rfl (hb hby at_183) rfl (tlt hc165).2.1 ?_
      show S_ p e below T145 m 186 #[vi n_, vi p_, vi q_, vi r_, vi v_, vi 2, vi ch0, vi ch1, vi ch2, vi ch3, vr b120, vr b140, u_] [] t
      refine XS.iload X145.here hx rfl (hb hby at_186) rfl ?_
      show S_ p e below T145 m 188 #[vi n_, vi p_, vi q_, vi r_, vi v_, vi 2, vi ch0, vi ch1, vi ch2, vi ch3, vr b120, vr b140, u_] [(ii 2)] t
      refine XS.iconst X145.here hx rfl (hb hby at_188) ?_
      show S_ p e below T145 m 189 #[vi n_, vi p_, vi q_, vi r_, vi v_, vi 2, vi ch0, vi ch1, vi ch2, vi ch3, vr b120, vr b140, u_] [(ii 3), (ii 2)] t
      refine yC X145.here hx rfl 189 200 rfl (hb hby at_189) rfl rfl ?_
      show S_ p e below T145 m 200 #[vi n_, vi p_, vi q_, vi r_, vi v_, vi 2, vi ch0, vi ch1, vi ch2, vi ch3, vr b120, vr b140, u_] [] t
      refine XS.iload X145.here hx rfl (hb hby at_200) rfl ?_
      show S_ p e below T145 m 202 #[vi n_, vi p_, vi q_, vi r_, vi v_, vi 2, vi ch0, vi ch1, vi ch2, vi ch3, vr b120, vr b140, u_] [(ii 2)] t
      refine XS.iconst X145.here hx rfl (hb hby at_202) ?_
      show S_ p e below T145 m 203 #[vi n_, vi p_, vi q_, vi r_, vi v_, vi 2, vi ch0, vi ch1, vi ch2, vi ch3, vr b120, vr b140, u_] [(ii 4), (ii 2)] t
      refine yC X145.here hx rfl 203 214 rfl (hb hby at_203) rfl rfl ?_
      show S_ p e below T145 m 214 #[vi n_, vi p_, vi q_, vi r_, vi v_, vi 2, vi ch0, vi ch1, vi ch2, vi ch3, vr b120, vr b140, u_] [] t
      refine XS.iconst X145.here hx rfl (hb hby at_214) ?_
      show S_ p e below T145 m 215 #[vi n_, vi p_, vi q_, vi r_, vi v_, vi 2, vi ch0, vi ch1, vi ch2, vi ch3, vr b120, vr b140, u_] [(ii 1)] t
      refine yG X145.here hx rfl 215 219 rfl (hb hby at_215) ?_
      show S_ p e below T145 m 219 #[vi n_, vi p_, vi q_, vi r_, vi v_, vi 2, vi ch0, vi ch1, vi ch2, vi ch3, vr b120, vr b140, u_] [(ii 1)] t
      refine XS.istore X145.here hx rfl (hb hby at_219) rfl (l' := #[vi n_, vi p_, vi q_, vi r_, vi v_, vi 2, vi ch0, vi ch1, vi ch2, vi ch3, vr b120, vr b140, vi 1]) rfl ?_
      show S_ p e below T145 m 221 #[vi n_, vi p_, vi q_, vi r_, vi v_, vi 2, vi ch0, vi ch1, vi ch2, vi ch3, vr b120, vr b140, vi 1] [] t
      refine XS.aload X145.here hx rfl (hb hby at_221) rfl rfl ?_
      exact k
     obtain ⟨_, T167, L167, X167, hQ167, c167⟩ := kstat X145 hx hZ hown (w24 hw) (w25 hw) (w26 hw) (w27 hw) (rm_ascL_2 l Z a0 hw [] b140 b150 k151 si1_ sv12_ ch0 ch1 T145.heap n0 o158 p148 p149 p152 p153 ZS0_ sn4_ ZS6_ sv12_r hg2 hg3 p156 p157) rfl c166 hml pd_pLjava_lang_String_rZ [(rr b140)] [] 0 (hb hby at_223) rfl rfl rfl rfl rfl rfl
     rcases hQ167 with hQ167 | hQ167
     ·obtain ⟨rfl, N168q, K169, p170, p171⟩ := hQ167
      have N168 := Fr.app N146 N168q
      obtain ⟨fs, hr, hrun, hended, hRW⟩ := X167.leaveW hS0 (by first | exact (Nat.le_trans (Nat.zero_le _) (Nat.le_trans (Nat.le_trans (Nat.le_trans (Nat.le_trans E120.1 (Keep.of_wr W126).1) (Keep.of_wr W133).1) E140.1) K147.1)) | (rw [K169]; exact (Nat.le_trans (Nat.zero_le _) (Nat.le_trans (Nat.le_trans (Nat.le_trans (Nat.le_trans E120.1 (Keep.of_wr W126).1) (Keep.of_wr W133).1) E140.1) K147.1)))) (v := some (ii 1)) (fun h => by rw [Bd.returns] at h; cases h)
      refine ⟨_, _, c167 _ ?_, hrun, hended, _, _, rfl, ?_, hRW.1, hRW.2.1, hRW.2.2.1, hRW.2.2.2.mono (by decide) (by decide)⟩
      ·show S_ p e below T167 m 226 #[vi n_, vi p_, vi q_, vi r_, vi v_, vi 2, vi ch0, vi ch1, vi ch2, vi ch3, vr b120, vr b140, vi 1] [(ii 1)] _
       refine XS.iload X167.here hx rfl (hb hby at_226) rfl ?_
       show S_ p e below T167 m 228 #[vi n_, vi p_, vi q_, vi r_, vi v_, vi 2, vi ch0, vi ch1, vi ch2, vi ch3, vr b120, vr b140, vi 1] [(ii 1), (ii 1)] _
       refine XS.icmpNo X167.here hx rfl (hb hby at_228) rfl rfl ?_
       show S_ p e below T167 m 231 #[vi n_, vi p_, vi q_, vi r_, vi v_, vi 2, vi ch0, vi ch1, vi ch2, vi ch3, vr b120, vr b140, vi 1] [] _
       refine XS.iconst X167.here hx rfl (hb hby at_231) ?_
       show S_ p e below T167 m 232 #[vi n_, vi p_, vi q_, vi r_, vi v_, vi 2, vi ch0, vi ch1, vi ch2, vi ch3, vr b120, vr b140, vi 1] [(ii 1)] _
       refine yG X167.here hx rfl 232 236 rfl (hb hby at_232) ?_
       show S_ p e below T167 m 236 #[vi n_, vi p_, vi q_, vi r_, vi v_, vi 2, vi ch0, vi ch1, vi ch2, vi ch3, vr b120, vr b140, vi 1] [(ii 1)] _
       exact retN X167 hx (t := .boolean) Bd.returns (by simp) (hb hby at_236) hr
      ·show Q_law Z n_ p_ q_ r_ v_ si1_ sv12_ h0 n0 _ T167.heap _
       rw [K169]
       exact ⟨rfl, N168, kp159⟩
     ·obtain ⟨rfl, N172q, K173, p174⟩ := hQ167
      have N172 := Fr.app N146 N172q
      exact absurd ⟨hc163, hc165⟩ p174
    ·have c175 : Kt p e below T145 st0 (mkF m 223 #[vi n_, vi p_, vi q_, vi r_, vi v_, vi 2, vi ch0, vi ch1, vi ch2, vi ch3, vr b120, vr b140, vi 0] [(rr b140)]) := fun t k => by
      refine c164 t ?_
      show S_ p e below T145 m 183 #[vi n_, vi p_, vi q_, vi r_, vi v_, vi 2, vi ch0, vi ch1, vi ch2, vi ch3, vr b120, vr b140, u_] [(ii 128), (.int ch1)] t
      refine yC X145.here hx rfl 183 218 rfl (hb hby at_183) rfl (flt hc165).2.1 ?_
      show S_ p e below T145 m 218 #[vi n_, vi p_, vi q_, vi r_, vi v_, vi 2, vi ch0, vi ch1, vi ch2, vi ch3, vr b120, vr b140, u_] [] t
      refine XS.iconst X145.here hx rfl (hb hby at_218) ?_
      show S_ p e below T145 m 219 #[vi n_, vi p_, vi q_, vi r_, vi v_, vi 2, vi ch0, vi ch1, vi ch2, vi ch3, vr b120, vr b140, u_] [(ii 0)] t
      refine XS.istore X145.here hx rfl (hb hby at_219) rfl (l' := #[vi n_, vi p_, vi q_, vi r_, vi v_, vi 2, vi ch0, vi ch1, vi ch2, vi ch3, vr b120, vr b140, vi 0]) rfl ?_
      show S_ p e below T145 m 221 #[vi n_, vi p_, vi q_, vi r_, vi v_, vi 2, vi ch0, vi ch1, vi ch2, vi ch3, vr b120, vr b140, vi 0] [] t
      refine XS.aload X145.here hx rfl (hb hby at_221) rfl rfl ?_
      exact k
     obtain ⟨_, T176, L176, X176, hQ176, c176⟩ := kstat X145 hx hZ hown (w24 hw) (w25 hw) (w26 hw) (w27 hw) (rm_ascL_2 l Z a0 hw [] b140 b150 k151 si1_ sv12_ ch0 ch1 T145.heap n0 o158 p148 p149 p152 p153 ZS0_ sn4_ ZS6_ sv12_r hg2 hg3 p156 p157) rfl c175 hml pd_pLjava_lang_String_rZ [(rr b140)] [] 0 (hb hby at_223) rfl rfl rfl rfl rfl rfl
     rcases hQ176 with hQ176 | hQ176
     ·obtain ⟨rfl, N177q, K178, p179, p180⟩ := hQ176
      have N177 := Fr.app N146 N177q
      exact absurd p180 hc165
     ·obtain ⟨rfl, N181q, K182, p183⟩ := hQ176
      have N181 := Fr.app N146 N181q
      obtain ⟨fs, hr, hrun, hended, hRW⟩ := X176.leaveW hS0 (by first | exact (Nat.le_trans (Nat.zero_le _) (Nat.le_trans (Nat.le_trans (Nat.le_trans (Nat.le_trans E120.1 (Keep.of_wr W126).1) (Keep.of_wr W133).1) E140.1) K147.1)) | (rw [K182]; exact (Nat.le_trans (Nat.zero_le _) (Nat.le_trans (Nat.le_trans (Nat.le_trans (Nat.le_trans E120.1 (Keep.of_wr W126).1) (Keep.of_wr W133).1) E140.1) K147.1)))) (v := some (ii 1)) (fun h => by rw [Bd.returns] at h; cases h)
      refine ⟨_, _, c176 _ ?_, hrun, hended, _, _, rfl, ?_, hRW.1, hRW.2.1, hRW.2.2.1, hRW.2.2.2.mono (by decide) (by decide)⟩
      ·show S_ p e below T176 m 226 #[vi n_, vi p_, vi q_, vi r_, vi v_, vi 2, vi ch0, vi ch1, vi ch2, vi ch3, vr b120, vr b140, vi 0] [(ii 0)] _
       refine XS.iload X176.here hx rfl (hb hby at_226) rfl ?_
       show S_ p e below T176 m 228 #[vi n_, vi p_, vi q_, vi r_, vi v_, vi 2, vi ch0, vi ch1, vi ch2, vi ch3, vr b120, vr b140, vi 0] [(ii 0), (ii 0)] _
       refine XS.icmpNo X176.here hx rfl (hb hby at_228) rfl rfl ?_
       show S_ p e below T176 m 231 #[vi n_, vi p_, vi q_, vi r_, vi v_, vi 2, vi ch0, vi ch1, vi ch2, vi ch3, vr b120, vr b140, vi 0] [] _
       refine XS.iconst X176.here hx rfl (hb hby at_231) ?_
       show S_ p e below T176 m 232 #[vi n_, vi p_, vi q_, vi r_, vi v_, vi 2, vi ch0, vi ch1, vi ch2, vi ch3, vr b120, vr b140, vi 0] [(ii 1)] _
       refine yG X176.here hx rfl 232 236 rfl (hb hby at_232) ?_
       show S_ p e below T176 m 236 #[vi n_, vi p_, vi q_, vi r_, vi v_, vi 2, vi ch0, vi ch1, vi ch2, vi ch3, vr b120, vr b140, vi 0] [(ii 1)] _
       exact retN X176 hx (t := .boolean) Bd.returns (by simp) (hb hby at_236) hr
      ·show Q_law Z n_ p_ q_ r_ v_ si1_ sv12_ h0 n0 _ T176.heap _
       rw [K182]
       exact ⟨rfl, N181, kp159⟩
   ·have c184 : Kt p e below T145 st0 (mkF m 223 #[vi n_, vi p_, vi q_, vi r_, vi v_, vi 2, vi ch0, vi ch1, vi ch2, vi ch3, vr b120, vr b140, vi 0] [(rr b140)]) := fun t k => by
     refine c162 t ?_
     show S_ p e below T145 m 169 #[vi n_, vi p_, vi q_, vi r_, vi v_, vi 2, vi ch0, vi ch1, vi ch2, vi ch3, vr b120, vr b140, u_] [(ii 128), (.int ch0)] t
     refine yC X145.here hx rfl 169 218 rfl (hb hby at_169) rfl (flt hc163).2.1 ?_
     show S_ p e below T145 m 218 #[vi n_, vi p_, vi q_, vi r_, vi v_, vi 2, vi ch0, vi ch1, vi ch2, vi ch3, vr b120, vr b140, u_] [] t
     refine XS.iconst X145.here hx rfl (hb hby at_218) ?_
     show S_ p e below T145 m 219 #[vi n_, vi p_, vi q_, vi r_, vi v_, vi 2, vi ch0, vi ch1, vi ch2, vi ch3, vr b120, vr b140, u_] [(ii 0)] t
     refine XS.istore X145.here hx rfl (hb hby at_219) rfl (l' := #[vi n_, vi p_, vi q_, vi r_, vi v_, vi 2, vi ch0, vi ch1, vi ch2, vi ch3, vr b120, vr b140, vi 0]) rfl ?_
     show S_ p e below T145 m 221 #[vi n_, vi p_, vi q_, vi r_, vi v_, vi 2, vi ch0, vi ch1, vi ch2, vi ch3, vr b120, vr b140, vi 0] [] t
     refine XS.aload X145.here hx rfl (hb hby at_221) rfl rfl ?_
     exact k
    obtain ⟨_, T185, L185, X185, hQ185, c185⟩ := kstat X145 hx hZ hown (w24 hw) (w25 hw) (w26 hw) (w27 hw) (rm_ascL_2 l Z a0 hw [] b140 b150 k151 si1_ sv12_ ch0 ch1 T145.heap n0 o158 p148 p149 p152 p153 ZS0_ sn4_ ZS6_ sv12_r hg2 hg3 p156 p157) rfl c184 hml pd_pLjava_lang_String_rZ [(rr b140)] [] 0 (hb hby at_223) rfl rfl rfl rfl rfl rfl
    rcases hQ185 with hQ185 | hQ185
    ·obtain ⟨rfl, N186q, K187, p188, p189⟩ := hQ185
     have N186 := Fr.app N146 N186q
     exact absurd p188 hc163
    ·obtain ⟨rfl, N190q, K191, p192⟩ := hQ185
     have N190 := Fr.app N146 N190q
     obtain ⟨fs, hr, hrun, hended, hRW⟩ := X185.leaveW hS0 (by first | exact (Nat.le_trans (Nat.zero_le _) (Nat.le_trans (Nat.le_trans (Nat.le_trans (Nat.le_trans E120.1 (Keep.of_wr W126).1) (Keep.of_wr W133).1) E140.1) K147.1)) | (rw [K191]; exact (Nat.le_trans (Nat.zero_le _) (Nat.le_trans (Nat.le_trans (Nat.le_trans (Nat.le_trans E120.1 (Keep.of_wr W126).1) (Keep.of_wr W133).1) E140.1) K147.1)))) (v := some (ii 1)) (fun h => by rw [Bd.returns] at h; cases h)
     refine ⟨_, _, c185 _ ?_, hrun, hended, _, _, rfl, ?_, hRW.1, hRW.2.1, hRW.2.2.1, hRW.2.2.2.mono (by decide) (by decide)⟩
     ·show S_ p e below T185 m 226 #[vi n_, vi p_, vi q_, vi r_, vi v_, vi 2, vi ch0, vi ch1, vi ch2, vi ch3, vr b120, vr b140, vi 0] [(ii 0)] _
      refine XS.iload X185.here hx rfl (hb hby at_226) rfl ?_
      show S_ p e below T185 m 228 #[vi n_, vi p_, vi q_, vi r_, vi v_, vi 2, vi ch0, vi ch1, vi ch2, vi ch3, vr b120, vr b140, vi 0] [(ii 0), (ii 0)] _
      refine XS.icmpNo X185.here hx rfl (hb hby at_228) rfl rfl ?_
      show S_ p e below T185 m 231 #[vi n_, vi p_, vi q_, vi r_, vi v_, vi 2, vi ch0, vi ch1, vi ch2, vi ch3, vr b120, vr b140, vi 0] [] _
      refine XS.iconst X185.here hx rfl (hb hby at_231) ?_
      show S_ p e below T185 m 232 #[vi n_, vi p_, vi q_, vi r_, vi v_, vi 2, vi ch0, vi ch1, vi ch2, vi ch3, vr b120, vr b140, vi 0] [(ii 1)] _
      refine yG X185.here hx rfl 232 236 rfl (hb hby at_232) ?_
      show S_ p e below T185 m 236 #[vi n_, vi p_, vi q_, vi r_, vi v_, vi 2, vi ch0, vi ch1, vi ch2, vi ch3, vr b120, vr b140, vi 0] [(ii 1)] _
      exact retN X185 hx (t := .boolean) Bd.returns (by simp) (hb hby at_236) hr
     ·show Q_law Z n_ p_ q_ r_ v_ si1_ sv12_ h0 n0 _ T185.heap _
      rw [K191]
      exact ⟨rfl, N190, kp159⟩
  ·obtain ⟨rfl, N193q, K194, p195, p196, b197, k198, p199, p200, p201, p202⟩ := hQ145
   have N193 := Fr.app N135 N193q
   have o203 := o141.keep K194 (allS g140 all0)
   have kp204 := kp142.trans K194 (allS (Or.inr z143) all0)
   have z205 := Nat.le_trans kp142.1 p202
   have g206 := Nat.le_trans (Nat.le_trans (Nat.le_of_eq o141.1.symm) o141.2.1) p202
   have c207 : Kt p e below T145 st0 (mkF m 169 #[vi n_, vi p_, vi q_, vi r_, vi v_, vi 2, vi ch0, vi ch1, vi ch2, vi ch3, vr b120, vr b140, u_] [(ii 128), (.int ch0)]) := fun t k => by
    refine c145 t ?_
    show S_ p e below T145 m 156 #[vi n_, vi p_, vi q_, vi r_, vi v_, vi 2, vi ch0, vi ch1, vi ch2, vi ch3, vr b120, u_, u_] [(rr b140)] t
    refine XS.astore X145.here hx rfl (hb hby at_156) rfl rfl (l' := #[vi n_, vi p_, vi q_, vi r_, vi v_, vi 2, vi ch0, vi ch1, vi ch2, vi ch3, vr b120, vr b140, u_]) rfl ?_
    show S_ p e below T145 m 158 #[vi n_, vi p_, vi q_, vi r_, vi v_, vi 2, vi ch0, vi ch1, vi ch2, vi ch3, vr b120, vr b140, u_] [] t
    refine XS.iload X145.here hx rfl (hb hby at_158) rfl ?_
    show S_ p e below T145 m 160 #[vi n_, vi p_, vi q_, vi r_, vi v_, vi 2, vi ch0, vi ch1, vi ch2, vi ch3, vr b120, vr b140, u_] [(ii 2)] t
    refine XS.iconst X145.here hx rfl (hb hby at_160) ?_
    show S_ p e below T145 m 161 #[vi n_, vi p_, vi q_, vi r_, vi v_, vi 2, vi ch0, vi ch1, vi ch2, vi ch3, vr b120, vr b140, u_] [(ii 1), (ii 2)] t
    refine XS.icmpNo X145.here hx rfl (hb hby at_161) rfl rfl ?_
    show S_ p e below T145 m 164 #[vi n_, vi p_, vi q_, vi r_, vi v_, vi 2, vi ch0, vi ch1, vi ch2, vi ch3, vr b120, vr b140, u_] [] t
    refine XS.iload X145.here hx rfl (hb hby at_164) rfl ?_
    show S_ p e below T145 m 166 #[vi n_, vi p_, vi q_, vi r_, vi v_, vi 2, vi ch0, vi ch1, vi ch2, vi ch3, vr b120, vr b140, u_] [(.int ch0)] t
    refine XS.sipush X145.here hx rfl (hb hby at_166) ?_
    exact k
   by_cases hc208 : ch0 < (128 : Int32)
   ·have c209 : Kt p e below T145 st0 (mkF m 183 #[vi n_, vi p_, vi q_, vi r_, vi v_, vi 2, vi ch0, vi ch1, vi ch2, vi ch3, vr b120, vr b140, u_] [(ii 128), (.int ch1)]) := fun t k => by
     refine c207 t ?_
     show S_ p e below T145 m 169 #[vi n_, vi p_, vi q_, vi r_, vi v_, vi 2, vi ch0, vi ch1, vi ch2, vi ch3, vr b120, vr b140, u_] [(ii 128), (.int ch0)] t
     refine XS.icmpNo X145.here hx rfl (hb hby at_169) rfl (tlt hc208).2.1 ?_
     show S_ p e below T145 m 172 #[vi n_, vi p_, vi q_, vi r_, vi v_, vi 2, vi ch0, vi ch1, vi ch2, vi ch3, vr b120, vr b140, u_] [] t
     refine XS.iload X145.here hx rfl (hb hby at_172) rfl ?_
     show S_ p e below T145 m 174 #[vi n_, vi p_, vi q_, vi r_, vi v_, vi 2, vi ch0, vi ch1, vi ch2, vi ch3, vr b120, vr b140, u_] [(ii 2)] t
     refine XS.iconst X145.here hx rfl (hb hby at_174) ?_
     show S_ p e below T145 m 175 #[vi n_, vi p_, vi q_, vi r_, vi v_, vi 2, vi ch0, vi ch1, vi ch2, vi ch3, vr b120, vr b140, u_] [(ii 2), (ii 2)] t
     refine XS.icmpNo X145.here hx rfl (hb hby at_175) rfl rfl ?_
     show S_ p e below T145 m 178 #[vi n_, vi p_, vi q_, vi r_, vi v_, vi 2, vi ch0, vi ch1, vi ch2, vi ch3, vr b120, vr b140, u_] [] t
     refine XS.iload X145.here hx rfl (hb hby at_178) rfl ?_
     show S_ p e below T145 m 180 #[vi n_, vi p_, vi q_, vi r_, vi v_, vi 2, vi ch0, vi ch1, vi ch2, vi ch3, vr b120, vr b140, u_] [(.int ch1)] t
     refine XS.sipush X145.here hx rfl (hb hby at_180) ?_
     exact k
    by_cases hc210 : ch1 < (128 : Int32)
    ·have c211 : Kt p e below T145 st0 (mkF m 223 #[vi n_, vi p_, vi q_, vi r_, vi v_, vi 2, vi ch0, vi ch1, vi ch2, vi ch3, vr b120, vr b140, vi 1] [(rr b140)]) := fun t k => by
      refine c209 t ?_
      show S_ p e below T145 m 183 #[vi n_, vi p_, vi q_, vi r_, vi v_, vi 2, vi ch0, vi ch1, vi ch2, vi ch3, vr b120, vr b140, u_] [(ii 128), (.int ch1)] t
      refine XS.icmpNo X145.here hx rfl (hb hby at_183) rfl (tlt hc210).2.1 ?_
      show S_ p e below T145 m 186 #[vi n_, vi p_, vi q_, vi r_, vi v_, vi 2, vi ch0, vi ch1, vi ch2, vi ch3, vr b120, vr b140, u_] [] t
      refine XS.iload X145.here hx rfl (hb hby at_186) rfl ?_
      show S_ p e below T145 m 188 #[vi n_, vi p_, vi q_, vi r_, vi v_, vi 2, vi ch0, vi ch1, vi ch2, vi ch3, vr b120, vr b140, u_] [(ii 2)] t
      refine XS.iconst X145.here hx rfl (hb hby at_188) ?_
      show S_ p e below T145 m 189 #[vi n_, vi p_, vi q_, vi r_, vi v_, vi 2, vi ch0, vi ch1, vi ch2, vi ch3, vr b120, vr b140, u_] [(ii 3), (ii 2)] t
      refine yC X145.here hx rfl 189 200 rfl (hb hby at_189) rfl rfl ?_
      show S_ p e below T145 m 200 #[vi n_, vi p_, vi q_, vi r_, vi v_, vi 2, vi ch0, vi ch1, vi ch2, vi ch3, vr b120, vr b140, u_] [] t
      refine XS.iload X145.here hx rfl (hb hby at_200) rfl ?_
      show S_ p e below T145 m 202 #[vi n_, vi p_, vi q_, vi r_, vi v_, vi 2, vi ch0, vi ch1, vi ch2, vi ch3, vr b120, vr b140, u_] [(ii 2)] t
      refine XS.iconst X145.here hx rfl (hb hby at_202) ?_
      show S_ p e below T145 m 203 #[vi n_, vi p_, vi q_, vi r_, vi v_, vi 2, vi ch0, vi ch1, vi ch2, vi ch3, vr b120, vr b140, u_] [(ii 4), (ii 2)] t
      refine yC X145.here hx rfl 203 214 rfl (hb hby at_203) rfl rfl ?_
      show S_ p e below T145 m 214 #[vi n_, vi p_, vi q_, vi r_, vi v_, vi 2, vi ch0, vi ch1, vi ch2, vi ch3, vr b120, vr b140, u_] [] t
      refine XS.iconst X145.here hx rfl (hb hby at_214) ?_
      show S_ p e below T145 m 215 #[vi n_, vi p_, vi q_, vi r_, vi v_, vi 2, vi ch0, vi ch1, vi ch2, vi ch3, vr b120, vr b140, u_] [(ii 1)] t
      refine yG X145.here hx rfl 215 219 rfl (hb hby at_215) ?_
      show S_ p e below T145 m 219 #[vi n_, vi p_, vi q_, vi r_, vi v_, vi 2, vi ch0, vi ch1, vi ch2, vi ch3, vr b120, vr b140, u_] [(ii 1)] t
      refine XS.istore X145.here hx rfl (hb hby at_219) rfl (l' := #[vi n_, vi p_, vi q_, vi r_, vi v_, vi 2, vi ch0, vi ch1, vi ch2, vi ch3, vr b120, vr b140, vi 1]) rfl ?_
      show S_ p e below T145 m 221 #[vi n_, vi p_, vi q_, vi r_, vi v_, vi 2, vi ch0, vi ch1, vi ch2, vi ch3, vr b120, vr b140, vi 1] [] t
      refine XS.aload X145.here hx rfl (hb hby at_221) rfl rfl ?_
      exact k
     obtain ⟨_, T212, L212, X212, hQ212, c212⟩ := kstat X145 hx hZ hown (w24 hw) (w25 hw) (w26 hw) (w27 hw) (rm_ascU_2 l Z a0 hw [] b140 b197 k198 si1_ sv12_ ch0 ch1 T145.heap n0 o203 p195 p196 p199 p200 ZS0_ sn4_ ZS6_ sv12_r hg2 hg3 ZS2_ ZS3_ ZS4_) rfl c211 hml pd_pLjava_lang_String_rZ [(rr b140)] [] 0 (hb hby at_223) rfl rfl rfl rfl rfl rfl
     rcases hQ212 with hQ212 | hQ212
     ·obtain ⟨rfl, N213q, K214, p215, p216⟩ := hQ212
      have N213 := Fr.app N193 N213q
      obtain ⟨fs, hr, hrun, hended, hRW⟩ := X212.leaveW hS0 (by first | exact (Nat.le_trans (Nat.zero_le _) (Nat.le_trans (Nat.le_trans (Nat.le_trans (Nat.le_trans E120.1 (Keep.of_wr W126).1) (Keep.of_wr W133).1) E140.1) K194.1)) | (rw [K214]; exact (Nat.le_trans (Nat.zero_le _) (Nat.le_trans (Nat.le_trans (Nat.le_trans (Nat.le_trans E120.1 (Keep.of_wr W126).1) (Keep.of_wr W133).1) E140.1) K194.1)))) (v := some (ii 1)) (fun h => by rw [Bd.returns] at h; cases h)
      refine ⟨_, _, c212 _ ?_, hrun, hended, _, _, rfl, ?_, hRW.1, hRW.2.1, hRW.2.2.1, hRW.2.2.2.mono (by decide) (by decide)⟩
      ·show S_ p e below T212 m 226 #[vi n_, vi p_, vi q_, vi r_, vi v_, vi 2, vi ch0, vi ch1, vi ch2, vi ch3, vr b120, vr b140, vi 1] [(ii 1)] _
       refine XS.iload X212.here hx rfl (hb hby at_226) rfl ?_
       show S_ p e below T212 m 228 #[vi n_, vi p_, vi q_, vi r_, vi v_, vi 2, vi ch0, vi ch1, vi ch2, vi ch3, vr b120, vr b140, vi 1] [(ii 1), (ii 1)] _
       refine XS.icmpNo X212.here hx rfl (hb hby at_228) rfl rfl ?_
       show S_ p e below T212 m 231 #[vi n_, vi p_, vi q_, vi r_, vi v_, vi 2, vi ch0, vi ch1, vi ch2, vi ch3, vr b120, vr b140, vi 1] [] _
       refine XS.iconst X212.here hx rfl (hb hby at_231) ?_
       show S_ p e below T212 m 232 #[vi n_, vi p_, vi q_, vi r_, vi v_, vi 2, vi ch0, vi ch1, vi ch2, vi ch3, vr b120, vr b140, vi 1] [(ii 1)] _
       refine yG X212.here hx rfl 232 236 rfl (hb hby at_232) ?_
       show S_ p e below T212 m 236 #[vi n_, vi p_, vi q_, vi r_, vi v_, vi 2, vi ch0, vi ch1, vi ch2, vi ch3, vr b120, vr b140, vi 1] [(ii 1)] _
       exact retN X212 hx (t := .boolean) Bd.returns (by simp) (hb hby at_236) hr
      ·show Q_law Z n_ p_ q_ r_ v_ si1_ sv12_ h0 n0 _ T212.heap _
       rw [K214]
       exact ⟨rfl, N213, kp204⟩
     ·obtain ⟨rfl, N217q, K218, p219⟩ := hQ212
      have N217 := Fr.app N193 N217q
      exact absurd ⟨hc208, hc210⟩ p219
    ·have c220 : Kt p e below T145 st0 (mkF m 223 #[vi n_, vi p_, vi q_, vi r_, vi v_, vi 2, vi ch0, vi ch1, vi ch2, vi ch3, vr b120, vr b140, vi 0] [(rr b140)]) := fun t k => by
      refine c209 t ?_
      show S_ p e below T145 m 183 #[vi n_, vi p_, vi q_, vi r_, vi v_, vi 2, vi ch0, vi ch1, vi ch2, vi ch3, vr b120, vr b140, u_] [(ii 128), (.int ch1)] t
      refine yC X145.here hx rfl 183 218 rfl (hb hby at_183) rfl (flt hc210).2.1 ?_
      show S_ p e below T145 m 218 #[vi n_, vi p_, vi q_, vi r_, vi v_, vi 2, vi ch0, vi ch1, vi ch2, vi ch3, vr b120, vr b140, u_] [] t
      refine XS.iconst X145.here hx rfl (hb hby at_218) ?_
      show S_ p e below T145 m 219 #[vi n_, vi p_, vi q_, vi r_, vi v_, vi 2, vi ch0, vi ch1, vi ch2, vi ch3, vr b120, vr b140, u_] [(ii 0)] t
      refine XS.istore X145.here hx rfl (hb hby at_219) rfl (l' := #[vi n_, vi p_, vi q_, vi r_, vi v_, vi 2, vi ch0, vi ch1, vi ch2, vi ch3, vr b120, vr b140, vi 0]) rfl ?_
      show S_ p e below T145 m 221 #[vi n_, vi p_, vi q_, vi r_, vi v_, vi 2, vi ch0, vi ch1, vi ch2, vi ch3, vr b120, vr b140, vi 0] [] t
      refine XS.aload X145.here hx rfl (hb hby at_221) rfl rfl ?_
      exact k
     obtain ⟨_, T221, L221, X221, hQ221, c221⟩ := kstat X145 hx hZ hown (w24 hw) (w25 hw) (w26 hw) (w27 hw) (rm_ascU_2 l Z a0 hw [] b140 b197 k198 si1_ sv12_ ch0 ch1 T145.heap n0 o203 p195 p196 p199 p200 ZS0_ sn4_ ZS6_ sv12_r hg2 hg3 ZS2_ ZS3_ ZS4_) rfl c220 hml pd_pLjava_lang_String_rZ [(rr b140)] [] 0 (hb hby at_223) rfl rfl rfl rfl rfl rfl
     rcases hQ221 with hQ221 | hQ221
     ·obtain ⟨rfl, N222q, K223, p224, p225⟩ := hQ221
      have N222 := Fr.app N193 N222q
      exact absurd p225 hc210
     ·obtain ⟨rfl, N226q, K227, p228⟩ := hQ221
      have N226 := Fr.app N193 N226q
      obtain ⟨fs, hr, hrun, hended, hRW⟩ := X221.leaveW hS0 (by first | exact (Nat.le_trans (Nat.zero_le _) (Nat.le_trans (Nat.le_trans (Nat.le_trans (Nat.le_trans E120.1 (Keep.of_wr W126).1) (Keep.of_wr W133).1) E140.1) K194.1)) | (rw [K227]; exact (Nat.le_trans (Nat.zero_le _) (Nat.le_trans (Nat.le_trans (Nat.le_trans (Nat.le_trans E120.1 (Keep.of_wr W126).1) (Keep.of_wr W133).1) E140.1) K194.1)))) (v := some (ii 1)) (fun h => by rw [Bd.returns] at h; cases h)
      refine ⟨_, _, c221 _ ?_, hrun, hended, _, _, rfl, ?_, hRW.1, hRW.2.1, hRW.2.2.1, hRW.2.2.2.mono (by decide) (by decide)⟩
      ·show S_ p e below T221 m 226 #[vi n_, vi p_, vi q_, vi r_, vi v_, vi 2, vi ch0, vi ch1, vi ch2, vi ch3, vr b120, vr b140, vi 0] [(ii 0)] _
       refine XS.iload X221.here hx rfl (hb hby at_226) rfl ?_
       show S_ p e below T221 m 228 #[vi n_, vi p_, vi q_, vi r_, vi v_, vi 2, vi ch0, vi ch1, vi ch2, vi ch3, vr b120, vr b140, vi 0] [(ii 0), (ii 0)] _
       refine XS.icmpNo X221.here hx rfl (hb hby at_228) rfl rfl ?_
       show S_ p e below T221 m 231 #[vi n_, vi p_, vi q_, vi r_, vi v_, vi 2, vi ch0, vi ch1, vi ch2, vi ch3, vr b120, vr b140, vi 0] [] _
       refine XS.iconst X221.here hx rfl (hb hby at_231) ?_
       show S_ p e below T221 m 232 #[vi n_, vi p_, vi q_, vi r_, vi v_, vi 2, vi ch0, vi ch1, vi ch2, vi ch3, vr b120, vr b140, vi 0] [(ii 1)] _
       refine yG X221.here hx rfl 232 236 rfl (hb hby at_232) ?_
       show S_ p e below T221 m 236 #[vi n_, vi p_, vi q_, vi r_, vi v_, vi 2, vi ch0, vi ch1, vi ch2, vi ch3, vr b120, vr b140, vi 0] [(ii 1)] _
       exact retN X221 hx (t := .boolean) Bd.returns (by simp) (hb hby at_236) hr
      ·show Q_law Z n_ p_ q_ r_ v_ si1_ sv12_ h0 n0 _ T221.heap _
       rw [K227]
       exact ⟨rfl, N226, kp204⟩
   ·have c229 : Kt p e below T145 st0 (mkF m 223 #[vi n_, vi p_, vi q_, vi r_, vi v_, vi 2, vi ch0, vi ch1, vi ch2, vi ch3, vr b120, vr b140, vi 0] [(rr b140)]) := fun t k => by
     refine c207 t ?_
     show S_ p e below T145 m 169 #[vi n_, vi p_, vi q_, vi r_, vi v_, vi 2, vi ch0, vi ch1, vi ch2, vi ch3, vr b120, vr b140, u_] [(ii 128), (.int ch0)] t
     refine yC X145.here hx rfl 169 218 rfl (hb hby at_169) rfl (flt hc208).2.1 ?_
     show S_ p e below T145 m 218 #[vi n_, vi p_, vi q_, vi r_, vi v_, vi 2, vi ch0, vi ch1, vi ch2, vi ch3, vr b120, vr b140, u_] [] t
     refine XS.iconst X145.here hx rfl (hb hby at_218) ?_
     show S_ p e below T145 m 219 #[vi n_, vi p_, vi q_, vi r_, vi v_, vi 2, vi ch0, vi ch1, vi ch2, vi ch3, vr b120, vr b140, u_] [(ii 0)] t
     refine XS.istore X145.here hx rfl (hb hby at_219) rfl (l' := #[vi n_, vi p_, vi q_, vi r_, vi v_, vi 2, vi ch0, vi ch1, vi ch2, vi ch3, vr b120, vr b140, vi 0]) rfl ?_
     show S_ p e below T145 m 221 #[vi n_, vi p_, vi q_, vi r_, vi v_, vi 2, vi ch0, vi ch1, vi ch2, vi ch3, vr b120, vr b140, vi 0] [] t
     refine XS.aload X145.here hx rfl (hb hby at_221) rfl rfl ?_
     exact k
    obtain ⟨_, T230, L230, X230, hQ230, c230⟩ := kstat X145 hx hZ hown (w24 hw) (w25 hw) (w26 hw) (w27 hw) (rm_ascU_2 l Z a0 hw [] b140 b197 k198 si1_ sv12_ ch0 ch1 T145.heap n0 o203 p195 p196 p199 p200 ZS0_ sn4_ ZS6_ sv12_r hg2 hg3 ZS2_ ZS3_ ZS4_) rfl c229 hml pd_pLjava_lang_String_rZ [(rr b140)] [] 0 (hb hby at_223) rfl rfl rfl rfl rfl rfl
    rcases hQ230 with hQ230 | hQ230
    ·obtain ⟨rfl, N231q, K232, p233, p234⟩ := hQ230
     have N231 := Fr.app N193 N231q
     exact absurd p233 hc208
    ·obtain ⟨rfl, N235q, K236, p237⟩ := hQ230
     have N235 := Fr.app N193 N235q
     obtain ⟨fs, hr, hrun, hended, hRW⟩ := X230.leaveW hS0 (by first | exact (Nat.le_trans (Nat.zero_le _) (Nat.le_trans (Nat.le_trans (Nat.le_trans (Nat.le_trans E120.1 (Keep.of_wr W126).1) (Keep.of_wr W133).1) E140.1) K194.1)) | (rw [K236]; exact (Nat.le_trans (Nat.zero_le _) (Nat.le_trans (Nat.le_trans (Nat.le_trans (Nat.le_trans E120.1 (Keep.of_wr W126).1) (Keep.of_wr W133).1) E140.1) K194.1)))) (v := some (ii 1)) (fun h => by rw [Bd.returns] at h; cases h)
     refine ⟨_, _, c230 _ ?_, hrun, hended, _, _, rfl, ?_, hRW.1, hRW.2.1, hRW.2.2.1, hRW.2.2.2.mono (by decide) (by decide)⟩
     ·show S_ p e below T230 m 226 #[vi n_, vi p_, vi q_, vi r_, vi v_, vi 2, vi ch0, vi ch1, vi ch2, vi ch3, vr b120, vr b140, vi 0] [(ii 0)] _
      refine XS.iload X230.here hx rfl (hb hby at_226) rfl ?_
      show S_ p e below T230 m 228 #[vi n_, vi p_, vi q_, vi r_, vi v_, vi 2, vi ch0, vi ch1, vi ch2, vi ch3, vr b120, vr b140, vi 0] [(ii 0), (ii 0)] _
      refine XS.icmpNo X230.here hx rfl (hb hby at_228) rfl rfl ?_
      show S_ p e below T230 m 231 #[vi n_, vi p_, vi q_, vi r_, vi v_, vi 2, vi ch0, vi ch1, vi ch2, vi ch3, vr b120, vr b140, vi 0] [] _
      refine XS.iconst X230.here hx rfl (hb hby at_231) ?_
      show S_ p e below T230 m 232 #[vi n_, vi p_, vi q_, vi r_, vi v_, vi 2, vi ch0, vi ch1, vi ch2, vi ch3, vr b120, vr b140, vi 0] [(ii 1)] _
      refine yG X230.here hx rfl 232 236 rfl (hb hby at_232) ?_
      show S_ p e below T230 m 236 #[vi n_, vi p_, vi q_, vi r_, vi v_, vi 2, vi ch0, vi ch1, vi ch2, vi ch3, vr b120, vr b140, vi 0] [(ii 1)] _
      exact retN X230 hx (t := .boolean) Bd.returns (by simp) (hb hby at_236) hr
     ·show Q_law Z n_ p_ q_ r_ v_ si1_ sv12_ h0 n0 _ T230.heap _
      rw [K236]
      exact ⟨rfl, N235, kp204⟩
 ·rw [hv6] at c1
  have c238 : Kt p e below s₁ st0 (mkF m 100 #[vi n_, vi p_, vi q_, vi r_, vi v_, vi 3, vi ch0, vi ch1, vi ch2, vi ch3, u_, u_, u_] [(ii 3)]) := fun t k => by
   refine c1 t ?_
   show S_ p e below s₁ m 37 #[vi n_, vi p_, vi q_, vi r_, vi v_, vi 3, vi ch0, vi ch1, vi ch2, vi ch3, u_, u_, u_] [] t
   refine XS.iload X0.here hx rfl (hb hby at_37) rfl ?_
   show S_ p e below s₁ m 39 #[vi n_, vi p_, vi q_, vi r_, vi v_, vi 3, vi ch0, vi ch1, vi ch2, vi ch3, u_, u_, u_] [(ii 3)] t
   refine yI X0.here hx rfl 39 50 rfl (hb hby at_39) rfl rfl ?_
   show S_ p e below s₁ m 50 #[vi n_, vi p_, vi q_, vi r_, vi v_, vi 3, vi ch0, vi ch1, vi ch2, vi ch3, u_, u_, u_] [] t
   refine XS.iload X0.here hx rfl (hb hby at_50) rfl ?_
   show S_ p e below s₁ m 52 #[vi n_, vi p_, vi q_, vi r_, vi v_, vi 3, vi ch0, vi ch1, vi ch2, vi ch3, u_, u_, u_] [(ii 3)] t
   refine XS.iconst X0.here hx rfl (hb hby at_52) ?_
   show S_ p e below s₁ m 53 #[vi n_, vi p_, vi q_, vi r_, vi v_, vi 3, vi ch0, vi ch1, vi ch2, vi ch3, u_, u_, u_] [(ii 1), (ii 3)] t
   refine yC X0.here hx rfl 53 69 rfl (hb hby at_53) rfl rfl ?_
   show S_ p e below s₁ m 69 #[vi n_, vi p_, vi q_, vi r_, vi v_, vi 3, vi ch0, vi ch1, vi ch2, vi ch3, u_, u_, u_] [] t
   refine XS.iload X0.here hx rfl (hb hby at_69) rfl ?_
   show S_ p e below s₁ m 71 #[vi n_, vi p_, vi q_, vi r_, vi v_, vi 3, vi ch0, vi ch1, vi ch2, vi ch3, u_, u_, u_] [(ii 3)] t
   refine XS.iconst X0.here hx rfl (hb hby at_71) ?_
   show S_ p e below s₁ m 72 #[vi n_, vi p_, vi q_, vi r_, vi v_, vi 3, vi ch0, vi ch1, vi ch2, vi ch3, u_, u_, u_] [(ii 2), (ii 3)] t
   refine yC X0.here hx rfl 72 93 rfl (hb hby at_72) rfl rfl ?_
   show S_ p e below s₁ m 93 #[vi n_, vi p_, vi q_, vi r_, vi v_, vi 3, vi ch0, vi ch1, vi ch2, vi ch3, u_, u_, u_] [] t
   refine XS.iload X0.here hx rfl (hb hby at_93) rfl ?_
   show S_ p e below s₁ m 95 #[vi n_, vi p_, vi q_, vi r_, vi v_, vi 3, vi ch0, vi ch1, vi ch2, vi ch3, u_, u_, u_] [(ii 3)] t
   refine XS.iconst X0.here hx rfl (hb hby at_95) ?_
   show S_ p e below s₁ m 96 #[vi n_, vi p_, vi q_, vi r_, vi v_, vi 3, vi ch0, vi ch1, vi ch2, vi ch3, u_, u_, u_] [(ii 3), (ii 3)] t
   refine XS.icmpNo X0.here hx rfl (hb hby at_96) rfl rfl ?_
   show S_ p e below s₁ m 99 #[vi n_, vi p_, vi q_, vi r_, vi v_, vi 3, vi ch0, vi ch1, vi ch2, vi ch3, u_, u_, u_] [] t
   refine XS.iconst X0.here hx rfl (hb hby at_99) ?_
   exact k
  obtain ⟨b239, T239, h239, k239, z239, g239, X239, e239, E239, o240, A239, c239⟩ := knewP (aty := .char) X0 hx hZ (w2 hw) e0 c238 rfl (hb hby at_100) rfl (by decide) 3 (by decide) (by decide) (by decide) (by decide) O0
  have kp242 := kp0.ext E239
  have z243 := Nat.le_trans kp0.1 z239
  have f241 : Arv Z h239 b239 k239 .char (3 : Int32) [(ii 0), (ii 0), (ii 0)] (ii 0) := A239.pad (pad_rep [] (ii 0) 3)
  have c244 : Kt p e below T239 st0 (mkF m 106 #[vi n_, vi p_, vi q_, vi r_, vi v_, vi 3, vi ch0, vi ch1, vi ch2, vi ch3, u_, u_, u_] [(.int ch0), (ii 0), (rr b239), (rr b239)]) := fun t k => by
   refine c239 t ?_
   show S_ p e below T239 m 102 #[vi n_, vi p_, vi q_, vi r_, vi v_, vi 3, vi ch0, vi ch1, vi ch2, vi ch3, u_, u_, u_] [(rr b239)] t
   refine XS.dup X239.here hx rfl (hb hby at_102) rfl rfl ?_
   show S_ p e below T239 m 103 #[vi n_, vi p_, vi q_, vi r_, vi v_, vi 3, vi ch0, vi ch1, vi ch2, vi ch3, u_, u_, u_] [(rr b239), (rr b239)] t
   refine XS.iconst X239.here hx rfl (hb hby at_103) ?_
   show S_ p e below T239 m 104 #[vi n_, vi p_, vi q_, vi r_, vi v_, vi 3, vi ch0, vi ch1, vi ch2, vi ch3, u_, u_, u_] [(ii 0), (rr b239), (rr b239)] t
   refine XS.iload X239.here hx rfl (hb hby at_104) rfl ?_
   exact k
  obtain ⟨T245, h245, X245, e245, W245, f248, o246, N247, c245⟩ := kstC X239 hx hZ e239 f241 (j := (0 : Int32)) (by decide) (by decide) 0 rfl (Nat.le_of_ble_eq_true rfl) c244 rfl rfl (hb hby at_106) o240 N0 g239
  rw [hg2] at W245 f248
  have f249 : Arv Z h245 b239 k239 .char (3 : Int32) [(.int ch0), (ii 0), (ii 0)] (ii 0) := f248
  have kp250 := kp242.wr W245 (Or.inr z243)
  have c251 : Kt p e below T245 st0 (mkF m 111 #[vi n_, vi p_, vi q_, vi r_, vi v_, vi 3, vi ch0, vi ch1, vi ch2, vi ch3, u_, u_, u_] [(.int ch1), (ii 1), (rr b239), (rr b239)]) := fun t k => by
   refine c245 t ?_
   show S_ p e below T245 m 107 #[vi n_, vi p_, vi q_, vi r_, vi v_, vi 3, vi ch0, vi ch1, vi ch2, vi ch3, u_, u_, u_] [(rr b239)] t
   refine XS.dup X245.here hx rfl (hb hby at_107) rfl rfl ?_
   show S_ p e below T245 m 108 #[vi n_, vi p_, vi q_, vi r_, vi v_, vi 3, vi ch0, vi ch1, vi ch2, vi ch3, u_, u_, u_] [(rr b239), (rr b239)] t
   refine XS.iconst X245.here hx rfl (hb hby at_108) ?_
   show S_ p e below T245 m 109 #[vi n_, vi p_, vi q_, vi r_, vi v_, vi 3, vi ch0, vi ch1, vi ch2, vi ch3, u_, u_, u_] [(ii 1), (rr b239), (rr b239)] t
   refine XS.iload X245.here hx rfl (hb hby at_109) rfl ?_
   exact k
  obtain ⟨T252, h252, X252, e252, W252, f255, o253, N254, c252⟩ := kstC X245 hx hZ e245 f249 (j := (1 : Int32)) (by decide) (by decide) 1 rfl (Nat.le_of_ble_eq_true rfl) c251 rfl rfl (hb hby at_111) o246 N247 g239
  rw [hg3] at W252 f255
  have f256 : Arv Z h252 b239 k239 .char (3 : Int32) [(.int ch0), (.int ch1), (ii 0)] (ii 0) := f255
  have kp257 := kp250.wr W252 (Or.inr z243)
  have c258 : Kt p e below T252 st0 (mkF m 116 #[vi n_, vi p_, vi q_, vi r_, vi v_, vi 3, vi ch0, vi ch1, vi ch2, vi ch3, u_, u_, u_] [(.int ch2), (ii 2), (rr b239), (rr b239)]) := fun t k => by
   refine c252 t ?_
   show S_ p e below T252 m 112 #[vi n_, vi p_, vi q_, vi r_, vi v_, vi 3, vi ch0, vi ch1, vi ch2, vi ch3, u_, u_, u_] [(rr b239)] t
   refine XS.dup X252.here hx rfl (hb hby at_112) rfl rfl ?_
   show S_ p e below T252 m 113 #[vi n_, vi p_, vi q_, vi r_, vi v_, vi 3, vi ch0, vi ch1, vi ch2, vi ch3, u_, u_, u_] [(rr b239), (rr b239)] t
   refine XS.iconst X252.here hx rfl (hb hby at_113) ?_
   show S_ p e below T252 m 114 #[vi n_, vi p_, vi q_, vi r_, vi v_, vi 3, vi ch0, vi ch1, vi ch2, vi ch3, u_, u_, u_] [(ii 2), (rr b239), (rr b239)] t
   refine XS.iload X252.here hx rfl (hb hby at_114) rfl ?_
   exact k
  obtain ⟨T259, h259, X259, e259, W259, f262, o260, N261, c259⟩ := kstC X252 hx hZ e252 f256 (j := (2 : Int32)) (by decide) (by decide) 2 rfl (Nat.le_of_ble_eq_true rfl) c258 rfl rfl (hb hby at_116) o253 N254 g239
  rw [hg4] at W259 f262
  have f263 : Arv Z h259 b239 k239 .char (3 : Int32) [(.int ch0), (.int ch1), (.int ch2)] (ii 0) := f262
  have kp264 := kp257.wr W259 (Or.inr z243)
  have c265 : Kt p e below T259 st0 (mkF m 147 #[vi n_, vi p_, vi q_, vi r_, vi v_, vi 3, vi ch0, vi ch1, vi ch2, vi ch3, vr b239, u_, u_] []) := fun t k => by
   refine c259 t ?_
   show S_ p e below T259 m 117 #[vi n_, vi p_, vi q_, vi r_, vi v_, vi 3, vi ch0, vi ch1, vi ch2, vi ch3, u_, u_, u_] [(rr b239)] t
   refine XS.astore X259.here hx rfl (hb hby at_117) rfl rfl (l' := #[vi n_, vi p_, vi q_, vi r_, vi v_, vi 3, vi ch0, vi ch1, vi ch2, vi ch3, vr b239, u_, u_]) rfl ?_
   show S_ p e below T259 m 119 #[vi n_, vi p_, vi q_, vi r_, vi v_, vi 3, vi ch0, vi ch1, vi ch2, vi ch3, vr b239, u_, u_] [] t
   refine yG X259.here hx rfl 119 147 rfl (hb hby at_119) ?_
   exact k
  obtain ⟨b266, T266, h266, z266, g266, X266, e266, E266, o267, A266, D266, U266, c266⟩ := knew X259 hx hZ hown (w3 hw) (w4 hw) (w5 hw) e259 c265 rfl (hb hby at_147) (by decide) (by decide) o260
  have kp268 := kp264.ext E266
  have z269 := Nat.le_trans kp264.1 z266
  have c270 : Kt p e below T266 st0 (mkF m 153 #[vi n_, vi p_, vi q_, vi r_, vi v_, vi 3, vi ch0, vi ch1, vi ch2, vi ch3, vr b239, u_, u_] [(rr b239), (rr b266), (rr b266)]) := fun t k => by
   refine c266 t ?_
   show S_ p e below T266 m 150 #[vi n_, vi p_, vi q_, vi r_, vi v_, vi 3, vi ch0, vi ch1, vi ch2, vi ch3, vr b239, u_, u_] [(rr b266)] t
   refine XS.dup X266.here hx rfl (hb hby at_150) rfl rfl ?_
   show S_ p e below T266 m 151 #[vi n_, vi p_, vi q_, vi r_, vi v_, vi 3, vi ch0, vi ch1, vi ch2, vi ch3, vr b239, u_, u_] [(rr b266), (rr b266)] t
   refine XS.aload X266.here hx rfl (hb hby at_151) rfl rfl ?_
   exact k
  obtain ⟨_, T271, L271, X271, hQ271, c271⟩ := kspec X266 hx hZ hown (w6 hw) (w7 hw) (w5 hw) (w8 hw) (rm_str1a_3 l Z a0 hw [] b266 b239 k239 si1_ ch0 ch1 ch2 h266 n0 o267 A266 (show Fld Z h266 b266 nm0 "value" "[B" .null from D266 (Or.inr (w18 hw)) (ty := (.array .byte)) (by decide)) (show Fld Z h266 b266 nm0 "coder" "B" (ii 0) from D266 (Or.inr (w19 hw)) (ty := .byte) (by decide)) g266 (f263.ext E266) ZS0_ sn4_ ZS2_ ZS3_ ZS4_ hg2 hg3 hg4) e266 c270 hml pd_pACrV b266 [(rr b239)] [(rr b266)] 1 (hb hby at_153) rfl rfl rfl rfl rfl rfl
  rcases hQ271 with hQ271 | hQ271
  ·obtain ⟨rfl, N272q, K273, p274, p275, b276, k277, p278, p279, p280, p281, p282, p283, p284⟩ := hQ271
   have N272 := Fr.app N261 N272q
   have o285 := o267.keep K273 (allS g266 all0)
   have kp286 := kp268.trans K273 (allS (Or.inr z269) all0)
   have z287 := Nat.le_trans kp268.1 p281
   have g288 := Nat.le_trans (Nat.le_trans (Nat.le_of_eq o267.1.symm) o267.2.1) p281
   have c289 : Kt p e below T271 st0 (mkF m 169 #[vi n_, vi p_, vi q_, vi r_, vi v_, vi 3, vi ch0, vi ch1, vi ch2, vi ch3, vr b239, vr b266, u_] [(ii 128), (.int ch0)]) := fun t k => by
    refine c271 t ?_
    show S_ p e below T271 m 156 #[vi n_, vi p_, vi q_, vi r_, vi v_, vi 3, vi ch0, vi ch1, vi ch2, vi ch3, vr b239, u_, u_] [(rr b266)] t
    refine XS.astore X271.here hx rfl (hb hby at_156) rfl rfl (l' := #[vi n_, vi p_, vi q_, vi r_, vi v_, vi 3, vi ch0, vi ch1, vi ch2, vi ch3, vr b239, vr b266, u_]) rfl ?_
    show S_ p e below T271 m 158 #[vi n_, vi p_, vi q_, vi r_, vi v_, vi 3, vi ch0, vi ch1, vi ch2, vi ch3, vr b239, vr b266, u_] [] t
    refine XS.iload X271.here hx rfl (hb hby at_158) rfl ?_
    show S_ p e below T271 m 160 #[vi n_, vi p_, vi q_, vi r_, vi v_, vi 3, vi ch0, vi ch1, vi ch2, vi ch3, vr b239, vr b266, u_] [(ii 3)] t
    refine XS.iconst X271.here hx rfl (hb hby at_160) ?_
    show S_ p e below T271 m 161 #[vi n_, vi p_, vi q_, vi r_, vi v_, vi 3, vi ch0, vi ch1, vi ch2, vi ch3, vr b239, vr b266, u_] [(ii 1), (ii 3)] t
    refine XS.icmpNo X271.here hx rfl (hb hby at_161) rfl rfl ?_
    show S_ p e below T271 m 164 #[vi n_, vi p_, vi q_, vi r_, vi v_, vi 3, vi ch0, vi ch1, vi ch2, vi ch3, vr b239, vr b266, u_] [] t
    refine XS.iload X271.here hx rfl (hb hby at_164) rfl ?_
    show S_ p e below T271 m 166 #[vi n_, vi p_, vi q_, vi r_, vi v_, vi 3, vi ch0, vi ch1, vi ch2, vi ch3, vr b239, vr b266, u_] [(.int ch0)] t
    refine XS.sipush X271.here hx rfl (hb hby at_166) ?_
    exact k
   by_cases hc290 : ch0 < (128 : Int32)
   ·have c291 : Kt p e below T271 st0 (mkF m 183 #[vi n_, vi p_, vi q_, vi r_, vi v_, vi 3, vi ch0, vi ch1, vi ch2, vi ch3, vr b239, vr b266, u_] [(ii 128), (.int ch1)]) := fun t k => by
     refine c289 t ?_
     show S_ p e below T271 m 169 #[vi n_, vi p_, vi q_, vi r_, vi v_, vi 3, vi ch0, vi ch1, vi ch2, vi ch3, vr b239, vr b266, u_] [(ii 128), (.int ch0)] t
     refine XS.icmpNo X271.here hx rfl (hb hby at_169) rfl (tlt hc290).2.1 ?_
     show S_ p e below T271 m 172 #[vi n_, vi p_, vi q_, vi r_, vi v_, vi 3, vi ch0, vi ch1, vi ch2, vi ch3, vr b239, vr b266, u_] [] t
     refine XS.iload X271.here hx rfl (hb hby at_172) rfl ?_
     show S_ p e below T271 m 174 #[vi n_, vi p_, vi q_, vi r_, vi v_, vi 3, vi ch0, vi ch1, vi ch2, vi ch3, vr b239, vr b266, u_] [(ii 3)] t
     refine XS.iconst X271.here hx rfl (hb hby at_174) ?_
     show S_ p e below T271 m 175 #[vi n_, vi p_, vi q_, vi r_, vi v_, vi 3, vi ch0, vi ch1, vi ch2, vi ch3, vr b239, vr b266, u_] [(ii 2), (ii 3)] t
     refine XS.icmpNo X271.here hx rfl (hb hby at_175) rfl rfl ?_
     show S_ p e below T271 m 178 #[vi n_, vi p_, vi q_, vi r_, vi v_, vi 3, vi ch0, vi ch1, vi ch2, vi ch3, vr b239, vr b266, u_] [] t
     refine XS.iload X271.here hx rfl (hb hby at_178) rfl ?_
     show S_ p e below T271 m 180 #[vi n_, vi p_, vi q_, vi r_, vi v_, vi 3, vi ch0, vi ch1, vi ch2, vi ch3, vr b239, vr b266, u_] [(.int ch1)] t
     refine XS.sipush X271.here hx rfl (hb hby at_180) ?_
     exact k
    by_cases hc292 : ch1 < (128 : Int32)
    ·have c293 : Kt p e below T271 st0 (mkF m 197 #[vi n_, vi p_, vi q_, vi r_, vi v_, vi 3, vi ch0, vi ch1, vi ch2, vi ch3, vr b239, vr b266, u_] [(ii 128), (.int ch2)]) := fun t k => by
      refine c291 t ?_
      show S_ p e below T271 m 183 #[vi n_, vi p_, vi q_, vi r_, vi v_, vi 3, vi ch0, vi ch1, vi ch2, vi ch3, vr b239, vr b266, u_] [(ii 128), (.int ch1)] t
      refine XS.icmpNo X271.here hx rfl (hb hby at_183) rfl (tlt hc292).2.1 ?_
      show S_ p e below T271 m 186 #[vi n_, vi p_, vi q_, vi r_, vi v_, vi 3, vi ch0, vi ch1, vi ch2, vi ch3, vr b239, vr b266, u_] [] t
      refine XS.iload X271.here hx rfl (hb hby at_186) rfl ?_
      show S_ p e below T271 m 188 #[vi n_, vi p_, vi q_, vi r_, vi v_, vi 3, vi ch0, vi ch1, vi ch2, vi ch3, vr b239, vr b266, u_] [(ii 3)] t
      refine XS.iconst X271.here hx rfl (hb hby at_188) ?_
      show S_ p e below T271 m 189 #[vi n_, vi p_, vi q_, vi r_, vi v_, vi 3, vi ch0, vi ch1, vi ch2, vi ch3, vr b239, vr b266, u_] [(ii 3), (ii 3)] t
      refine XS.icmpNo X271.here hx rfl (hb hby at_189) rfl rfl ?_
      show S_ p e below T271 m 192 #[vi n_, vi p_, vi q_, vi r_, vi v_, vi 3, vi ch0, vi ch1, vi ch2, vi ch3, vr b239, vr b266, u_] [] t
      refine XS.iload X271.here hx rfl (hb hby at_192) rfl ?_
      show S_ p e below T271 m 194 #[vi n_, vi p_, vi q_, vi r_, vi v_, vi 3, vi ch0, vi ch1, vi ch2, vi ch3, vr b239, vr b266, u_] [(.int ch2)] t
      refine XS.sipush X271.here hx rfl (hb hby at_194) ?_
      exact k
     by_cases hc294 : ch2 < (128 : Int32)
     ·have c295 : Kt p e below T271 st0 (mkF m 223 #[vi n_, vi p_, vi q_, vi r_, vi v_, vi 3, vi ch0, vi ch1, vi ch2, vi ch3, vr b239, vr b266, vi 1] [(rr b266)]) := fun t k => by
       refine c293 t ?_
       show S_ p e below T271 m 197 #[vi n_, vi p_, vi q_, vi r_, vi v_, vi 3, vi ch0, vi ch1, vi ch2, vi ch3, vr b239, vr b266, u_] [(ii 128), (.int ch2)] t
       refine XS.icmpNo X271.here hx rfl (hb hby at_197) rfl (tlt hc294).2.1 ?_
       show S_ p e below T271 m 200 #[vi n_, vi p_, vi q_, vi r_, vi v_, vi 3, vi ch0, vi ch1, vi ch2, vi ch3, vr b239, vr b266, u_] [] t
       refine XS.iload X271.here hx rfl (hb hby at_200) rfl ?_
       show S_ p e below T271 m 202 #[vi n_, vi p_, vi q_, vi r_, vi v_, vi 3, vi ch0, vi ch1, vi ch2, vi ch3, vr b239, vr b266, u_] [(ii 3)] t
       refine XS.iconst X271.here hx rfl (hb hby at_202) ?_
       show S_ p e below T271 m 203 #[vi n_, vi p_, vi q_, vi r_, vi v_, vi 3, vi ch0, vi ch1, vi ch2, vi ch3, vr b239, vr b266, u_] [(ii 4), (ii 3)] t
       refine yC X271.here hx rfl 203 214 rfl (hb hby at_203) rfl rfl ?_
       show S_ p e below T271 m 214 #[vi n_, vi p_, vi q_, vi r_, vi v_, vi 3, vi ch0, vi ch1, vi ch2, vi ch3, vr b239, vr b266, u_] [] t
       refine XS.iconst X271.here hx rfl (hb hby at_214) ?_
       show S_ p e below T271 m 215 #[vi n_, vi p_, vi q_, vi r_, vi v_, vi 3, vi ch0, vi ch1, vi ch2, vi ch3, vr b239, vr b266, u_] [(ii 1)] t
       refine yG X271.here hx rfl 215 219 rfl (hb hby at_215) ?_
       show S_ p e below T271 m 219 #[vi n_, vi p_, vi q_, vi r_, vi v_, vi 3, vi ch0, vi ch1, vi ch2, vi ch3, vr b239, vr b266, u_] [(ii 1)] t
       refine XS.istore X271.here hx rfl (hb hby at_219) rfl (l' := #[vi n_, vi p_, vi q_, vi r_, vi v_, vi 3, vi ch0, vi ch1, vi ch2, vi ch3, vr b239, vr b266, vi 1]) rfl ?_
       show S_ p e below T271 m 221 #[vi n_, vi p_, vi q_, vi r_, vi v_, vi 3, vi ch0, vi ch1, vi ch2, vi ch3, vr b239, vr b266, vi 1] [] t
       refine XS.aload X271.here hx rfl (hb hby at_221) rfl rfl ?_
       exact k
      obtain ⟨_, T296, L296, X296, hQ296, c296⟩ := kstat X271 hx hZ hown (w24 hw) (w25 hw) (w26 hw) (w27 hw) (rm_ascL_3 l Z a0 hw [] b266 b276 k277 si1_ sv12_ ch0 ch1 ch2 T271.heap n0 o285 p274 p275 p278 p279 ZS0_ sn4_ ZS6_ sv12_r hg2 hg3 hg4 p282 p283 p284) rfl c295 hml pd_pLjava_lang_String_rZ [(rr b266)] [] 0 (hb hby at_223) rfl rfl rfl rfl rfl rfl
      rcases hQ296 with hQ296 | hQ296
      ·obtain ⟨rfl, N297q, K298, p299, p300, p301⟩ := hQ296
       have N297 := Fr.app N272 N297q
       obtain ⟨fs, hr, hrun, hended, hRW⟩ := X296.leaveW hS0 (by first | exact (Nat.le_trans (Nat.zero_le _) (Nat.le_trans (Nat.le_trans (Nat.le_trans (Nat.le_trans (Nat.le_trans E239.1 (Keep.of_wr W245).1) (Keep.of_wr W252).1) (Keep.of_wr W259).1) E266.1) K273.1)) | (rw [K298]; exact (Nat.le_trans (Nat.zero_le _) (Nat.le_trans (Nat.le_trans (Nat.le_trans (Nat.le_trans (Nat.le_trans E239.1 (Keep.of_wr W245).1) (Keep.of_wr W252).1) (Keep.of_wr W259).1) E266.1) K273.1)))) (v := some (ii 1)) (fun h => by rw [Bd.returns] at h; cases h)
       refine ⟨_, _, c296 _ ?_, hrun, hended, _, _, rfl, ?_, hRW.1, hRW.2.1, hRW.2.2.1, hRW.2.2.2.mono (by decide) (by decide)⟩
       ·show S_ p e below T296 m 226 #[vi n_, vi p_, vi q_, vi r_, vi v_, vi 3, vi ch0, vi ch1, vi ch2, vi ch3, vr b239, vr b266, vi 1] [(ii 1)] _
        refine XS.iload X296.here hx rfl (hb hby at_226) rfl ?_
        show S_ p e below T296 m 228 #[vi n_, vi p_, vi q_, vi r_, vi v_, vi 3, vi ch0, vi ch1, vi ch2, vi ch3, vr b239, vr b266, vi 1] [(ii 1), (ii 1)] _
        refine XS.icmpNo X296.here hx rfl (hb hby at_228) rfl rfl ?_
        show S_ p e below T296 m 231 #[vi n_, vi p_, vi q_, vi r_, vi v_, vi 3, vi ch0, vi ch1, vi ch2, vi ch3, vr b239, vr b266, vi 1] [] _
        refine XS.iconst X296.here hx rfl (hb hby at_231) ?_
        show S_ p e below T296 m 232 #[vi n_, vi p_, vi q_, vi r_, vi v_, vi 3, vi ch0, vi ch1, vi ch2, vi ch3, vr b239, vr b266, vi 1] [(ii 1)] _
        refine yG X296.here hx rfl 232 236 rfl (hb hby at_232) ?_
        show S_ p e below T296 m 236 #[vi n_, vi p_, vi q_, vi r_, vi v_, vi 3, vi ch0, vi ch1, vi ch2, vi ch3, vr b239, vr b266, vi 1] [(ii 1)] _
        exact retN X296 hx (t := .boolean) Bd.returns (by simp) (hb hby at_236) hr
       ·show Q_law Z n_ p_ q_ r_ v_ si1_ sv12_ h0 n0 _ T296.heap _
        rw [K298]
        exact ⟨rfl, N297, kp286⟩
      ·obtain ⟨rfl, N302q, K303, p304⟩ := hQ296
       have N302 := Fr.app N272 N302q
       exact absurd ⟨hc290, hc292, hc294⟩ p304
     ·have c305 : Kt p e below T271 st0 (mkF m 223 #[vi n_, vi p_, vi q_, vi r_, vi v_, vi 3, vi ch0, vi ch1, vi ch2, vi ch3, vr b239, vr b266, vi 0] [(rr b266)]) := fun t k => by
       refine c293 t ?_
       show S_ p e below T271 m 197 #[vi n_, vi p_, vi q_, vi r_, vi v_, vi 3, vi ch0, vi ch1, vi ch2, vi ch3, vr b239, vr b266, u_] [(ii 128), (.int ch2)] t
       refine yC X271.here hx rfl 197 218 rfl (hb hby at_197) rfl (flt hc294).2.1 ?_
       show S_ p e below T271 m 218 #[vi n_, vi p_, vi q_, vi r_, vi v_, vi 3, vi ch0, vi ch1, vi ch2, vi ch3, vr b239, vr b266, u_] [] t
       refine XS.iconst X271.here hx rfl (hb hby at_218) ?_
       show S_ p e below T271 m 219 #[vi n_, vi p_, vi q_, vi r_, vi v_, vi 3, vi ch0, vi ch1, vi ch2, vi ch3, vr b239, vr b266, u_] [(ii 0)] t
       refine XS.istore X271.here hx rfl (hb hby at_219) rfl (l' := #[vi n_, vi p_, vi q_, vi r_, vi v_, vi 3, vi ch0, vi ch1, vi ch2, vi ch3, vr b239, vr b266, vi 0]) rfl ?_
       show S_ p e below T271 m 221 #[vi n_, vi p_, vi q_, vi r_, vi v_, vi 3, vi ch0, vi ch1, vi ch2, vi ch3, vr b239, vr b266, vi 0] [] t
       refine XS.aload X271.here hx rfl (hb hby at_221) rfl rfl ?_
       exact k
      obtain ⟨_, T306, L306, X306, hQ306, c306⟩ := kstat X271 hx hZ hown (w24 hw) (w25 hw) (w26 hw) (w27 hw) (rm_ascL_3 l Z a0 hw [] b266 b276 k277 si1_ sv12_ ch0 ch1 ch2 T271.heap n0 o285 p274 p275 p278 p279 ZS0_ sn4_ ZS6_ sv12_r hg2 hg3 hg4 p282 p283 p284) rfl c305 hml pd_pLjava_lang_String_rZ [(rr b266)] [] 0 (hb hby at_223) rfl rfl rfl rfl rfl rfl
      rcases hQ306 with hQ306 | hQ306
      ·obtain ⟨rfl, N307q, K308, p309, p310, p311⟩ := hQ306
       have N307 := Fr.app N272 N307q
       exact absurd p311 hc294
      ·obtain ⟨rfl, N312q, K313, p314⟩ := hQ306
       have N312 := Fr.app N272 N312q
       obtain ⟨fs, hr, hrun, hended, hRW⟩ := X306.leaveW hS0 (by first | exact (Nat.le_trans (Nat.zero_le _) (Nat.le_trans (Nat.le_trans (Nat.le_trans (Nat.le_trans (Nat.le_trans E239.1 (Keep.of_wr W245).1) (Keep.of_wr W252).1) (Keep.of_wr W259).1) E266.1) K273.1)) | (rw [K313]; exact (Nat.le_trans (Nat.zero_le _) (Nat.le_trans (Nat.le_trans (Nat.le_trans (Nat.le_trans (Nat.le_trans E239.1 (Keep.of_wr W245).1) (Keep.of_wr W252).1) (Keep.of_wr W259).1) E266.1) K273.1)))) (v := some (ii 1)) (fun h => by rw [Bd.returns] at h; cases h)
       refine ⟨_, _, c306 _ ?_, hrun, hended, _, _, rfl, ?_, hRW.1, hRW.2.1, hRW.2.2.1, hRW.2.2.2.mono (by decide) (by decide)⟩
       ·show S_ p e below T306 m 226 #[vi n_, vi p_, vi q_, vi r_, vi v_, vi 3, vi ch0, vi ch1, vi ch2, vi ch3, vr b239, vr b266, vi 0] [(ii 0)] _
        refine XS.iload X306.here hx rfl (hb hby at_226) rfl ?_
        show S_ p e below T306 m 228 #[vi n_, vi p_, vi q_, vi r_, vi v_, vi 3, vi ch0, vi ch1, vi ch2, vi ch3, vr b239, vr b266, vi 0] [(ii 0), (ii 0)] _
        refine XS.icmpNo X306.here hx rfl (hb hby at_228) rfl rfl ?_
        show S_ p e below T306 m 231 #[vi n_, vi p_, vi q_, vi r_, vi v_, vi 3, vi ch0, vi ch1, vi ch2, vi ch3, vr b239, vr b266, vi 0] [] _
        refine XS.iconst X306.here hx rfl (hb hby at_231) ?_
        show S_ p e below T306 m 232 #[vi n_, vi p_, vi q_, vi r_, vi v_, vi 3, vi ch0, vi ch1, vi ch2, vi ch3, vr b239, vr b266, vi 0] [(ii 1)] _
        refine yG X306.here hx rfl 232 236 rfl (hb hby at_232) ?_
        show S_ p e below T306 m 236 #[vi n_, vi p_, vi q_, vi r_, vi v_, vi 3, vi ch0, vi ch1, vi ch2, vi ch3, vr b239, vr b266, vi 0] [(ii 1)] _
        exact retN X306 hx (t := .boolean) Bd.returns (by simp) (hb hby at_236) hr
       ·show Q_law Z n_ p_ q_ r_ v_ si1_ sv12_ h0 n0 _ T306.heap _
        rw [K313]
        exact ⟨rfl, N312, kp286⟩
    ·have c315 : Kt p e below T271 st0 (mkF m 223 #[vi n_, vi p_, vi q_, vi r_, vi v_, vi 3, vi ch0, vi ch1, vi ch2, vi ch3, vr b239, vr b266, vi 0] [(rr b266)]) := fun t k => by
      refine c291 t ?_
      show S_ p e below T271 m 183 #[vi n_, vi p_, vi q_, vi r_, vi v_, vi 3, vi ch0, vi ch1, vi ch2, vi ch3, vr b239, vr b266, u_] [(ii 128), (.int ch1)] t
      refine yC X271.here hx rfl 183 218 rfl (hb hby at_183) rfl (flt hc292).2.1 ?_
      show S_ p e below T271 m 218 #[vi n_, vi p_, vi q_, vi r_, vi v_, vi 3, vi ch0, vi ch1, vi ch2, vi ch3, vr b239, vr b266, u_] [] t
      refine XS.iconst X271.here hx rfl (hb hby at_218) ?_
      show S_ p e below T271 m 219 #[vi n_, vi p_, vi q_, vi r_, vi v_, vi 3, vi ch0, vi ch1, vi ch2, vi ch3, vr b239, vr b266, u_] [(ii 0)] t
      refine XS.istore X271.here hx rfl (hb hby at_219) rfl (l' := #[vi n_, vi p_, vi q_, vi r_, vi v_, vi 3, vi ch0, vi ch1, vi ch2, vi ch3, vr b239, vr b266, vi 0]) rfl ?_
      show S_ p e below T271 m 221 #[vi n_, vi p_, vi q_, vi r_, vi v_, vi 3, vi ch0, vi ch1, vi ch2, vi ch3, vr b239, vr b266, vi 0] [] t
      refine XS.aload X271.here hx rfl (hb hby at_221) rfl rfl ?_
      exact k
     obtain ⟨_, T316, L316, X316, hQ316, c316⟩ := kstat X271 hx hZ hown (w24 hw) (w25 hw) (w26 hw) (w27 hw) (rm_ascL_3 l Z a0 hw [] b266 b276 k277 si1_ sv12_ ch0 ch1 ch2 T271.heap n0 o285 p274 p275 p278 p279 ZS0_ sn4_ ZS6_ sv12_r hg2 hg3 hg4 p282 p283 p284) rfl c315 hml pd_pLjava_lang_String_rZ [(rr b266)] [] 0 (hb hby at_223) rfl rfl rfl rfl rfl rfl
     rcases hQ316 with hQ316 | hQ316
     ·obtain ⟨rfl, N317q, K318, p319, p320, p321⟩ := hQ316
      have N317 := Fr.app N272 N317q
      exact absurd p320 hc292
     ·obtain ⟨rfl, N322q, K323, p324⟩ := hQ316
      have N322 := Fr.app N272 N322q
      obtain ⟨fs, hr, hrun, hended, hRW⟩ := X316.leaveW hS0 (by first | exact (Nat.le_trans (Nat.zero_le _) (Nat.le_trans (Nat.le_trans (Nat.le_trans (Nat.le_trans (Nat.le_trans E239.1 (Keep.of_wr W245).1) (Keep.of_wr W252).1) (Keep.of_wr W259).1) E266.1) K273.1)) | (rw [K323]; exact (Nat.le_trans (Nat.zero_le _) (Nat.le_trans (Nat.le_trans (Nat.le_trans (Nat.le_trans (Nat.le_trans E239.1 (Keep.of_wr W245).1) (Keep.of_wr W252).1) (Keep.of_wr W259).1) E266.1) K273.1)))) (v := some (ii 1)) (fun h => by rw [Bd.returns] at h; cases h)
      refine ⟨_, _, c316 _ ?_, hrun, hended, _, _, rfl, ?_, hRW.1, hRW.2.1, hRW.2.2.1, hRW.2.2.2.mono (by decide) (by decide)⟩
      ·show S_ p e below T316 m 226 #[vi n_, vi p_, vi q_, vi r_, vi v_, vi 3, vi ch0, vi ch1, vi ch2, vi ch3, vr b239, vr b266, vi 0] [(ii 0)] _
       refine XS.iload X316.here hx rfl (hb hby at_226) rfl ?_
       show S_ p e below T316 m 228 #[vi n_, vi p_, vi q_, vi r_, vi v_, vi 3, vi ch0, vi ch1, vi ch2, vi ch3, vr b239, vr b266, vi 0] [(ii 0), (ii 0)] _
       refine XS.icmpNo X316.here hx rfl (hb hby at_228) rfl rfl ?_
       show S_ p e below T316 m 231 #[vi n_, vi p_, vi q_, vi r_, vi v_, vi 3, vi ch0, vi ch1, vi ch2, vi ch3, vr b239, vr b266, vi 0] [] _
       refine XS.iconst X316.here hx rfl (hb hby at_231) ?_
       show S_ p e below T316 m 232 #[vi n_, vi p_, vi q_, vi r_, vi v_, vi 3, vi ch0, vi ch1, vi ch2, vi ch3, vr b239, vr b266, vi 0] [(ii 1)] _
       refine yG X316.here hx rfl 232 236 rfl (hb hby at_232) ?_
       show S_ p e below T316 m 236 #[vi n_, vi p_, vi q_, vi r_, vi v_, vi 3, vi ch0, vi ch1, vi ch2, vi ch3, vr b239, vr b266, vi 0] [(ii 1)] _
       exact retN X316 hx (t := .boolean) Bd.returns (by simp) (hb hby at_236) hr
      ·show Q_law Z n_ p_ q_ r_ v_ si1_ sv12_ h0 n0 _ T316.heap _
       rw [K323]
       exact ⟨rfl, N322, kp286⟩
   ·have c325 : Kt p e below T271 st0 (mkF m 223 #[vi n_, vi p_, vi q_, vi r_, vi v_, vi 3, vi ch0, vi ch1, vi ch2, vi ch3, vr b239, vr b266, vi 0] [(rr b266)]) := fun t k => by
     refine c289 t ?_
     show S_ p e below T271 m 169 #[vi n_, vi p_, vi q_, vi r_, vi v_, vi 3, vi ch0, vi ch1, vi ch2, vi ch3, vr b239, vr b266, u_] [(ii 128), (.int ch0)] t
     refine yC X271.here hx rfl 169 218 rfl (hb hby at_169) rfl (flt hc290).2.1 ?_
     show S_ p e below T271 m 218 #[vi n_, vi p_, vi q_, vi r_, vi v_, vi 3, vi ch0, vi ch1, vi ch2, vi ch3, vr b239, vr b266, u_] [] t
     refine XS.iconst X271.here hx rfl (hb hby at_218) ?_
     show S_ p e below T271 m 219 #[vi n_, vi p_, vi q_, vi r_, vi v_, vi 3, vi ch0, vi ch1, vi ch2, vi ch3, vr b239, vr b266, u_] [(ii 0)] t
     refine XS.istore X271.here hx rfl (hb hby at_219) rfl (l' := #[vi n_, vi p_, vi q_, vi r_, vi v_, vi 3, vi ch0, vi ch1, vi ch2, vi ch3, vr b239, vr b266, vi 0]) rfl ?_
     show S_ p e below T271 m 221 #[vi n_, vi p_, vi q_, vi r_, vi v_, vi 3, vi ch0, vi ch1, vi ch2, vi ch3, vr b239, vr b266, vi 0] [] t
     refine XS.aload X271.here hx rfl (hb hby at_221) rfl rfl ?_
     exact k
    obtain ⟨_, T326, L326, X326, hQ326, c326⟩ := kstat X271 hx hZ hown (w24 hw) (w25 hw) (w26 hw) (w27 hw) (rm_ascL_3 l Z a0 hw [] b266 b276 k277 si1_ sv12_ ch0 ch1 ch2 T271.heap n0 o285 p274 p275 p278 p279 ZS0_ sn4_ ZS6_ sv12_r hg2 hg3 hg4 p282 p283 p284) rfl c325 hml pd_pLjava_lang_String_rZ [(rr b266)] [] 0 (hb hby at_223) rfl rfl rfl rfl rfl rfl
    rcases hQ326 with hQ326 | hQ326
    ·obtain ⟨rfl, N327q, K328, p329, p330, p331⟩ := hQ326
     have N327 := Fr.app N272 N327q
     exact absurd p329 hc290
    ·obtain ⟨rfl, N332q, K333, p334⟩ := hQ326
     have N332 := Fr.app N272 N332q
     obtain ⟨fs, hr, hrun, hended, hRW⟩ := X326.leaveW hS0 (by first | exact (Nat.le_trans (Nat.zero_le _) (Nat.le_trans (Nat.le_trans (Nat.le_trans (Nat.le_trans (Nat.le_trans E239.1 (Keep.of_wr W245).1) (Keep.of_wr W252).1) (Keep.of_wr W259).1) E266.1) K273.1)) | (rw [K333]; exact (Nat.le_trans (Nat.zero_le _) (Nat.le_trans (Nat.le_trans (Nat.le_trans (Nat.le_trans (Nat.le_trans E239.1 (Keep.of_wr W245).1) (Keep.of_wr W252).1) (Keep.of_wr W259).1) E266.1) K273.1)))) (v := some (ii 1)) (fun h => by rw [Bd.returns] at h; cases h)
     refine ⟨_, _, c326 _ ?_, hrun, hended, _, _, rfl, ?_, hRW.1, hRW.2.1, hRW.2.2.1, hRW.2.2.2.mono (by decide) (by decide)⟩
     ·show S_ p e below T326 m 226 #[vi n_, vi p_, vi q_, vi r_, vi v_, vi 3, vi ch0, vi ch1, vi ch2, vi ch3, vr b239, vr b266, vi 0] [(ii 0)] _
      refine XS.iload X326.here hx rfl (hb hby at_226) rfl ?_
      show S_ p e below T326 m 228 #[vi n_, vi p_, vi q_, vi r_, vi v_, vi 3, vi ch0, vi ch1, vi ch2, vi ch3, vr b239, vr b266, vi 0] [(ii 0), (ii 0)] _
      refine XS.icmpNo X326.here hx rfl (hb hby at_228) rfl rfl ?_
      show S_ p e below T326 m 231 #[vi n_, vi p_, vi q_, vi r_, vi v_, vi 3, vi ch0, vi ch1, vi ch2, vi ch3, vr b239, vr b266, vi 0] [] _
      refine XS.iconst X326.here hx rfl (hb hby at_231) ?_
      show S_ p e below T326 m 232 #[vi n_, vi p_, vi q_, vi r_, vi v_, vi 3, vi ch0, vi ch1, vi ch2, vi ch3, vr b239, vr b266, vi 0] [(ii 1)] _
      refine yG X326.here hx rfl 232 236 rfl (hb hby at_232) ?_
      show S_ p e below T326 m 236 #[vi n_, vi p_, vi q_, vi r_, vi v_, vi 3, vi ch0, vi ch1, vi ch2, vi ch3, vr b239, vr b266, vi 0] [(ii 1)] _
      exact retN X326 hx (t := .boolean) Bd.returns (by simp) (hb hby at_236) hr
     ·show Q_law Z n_ p_ q_ r_ v_ si1_ sv12_ h0 n0 _ T326.heap _
      rw [K333]
      exact ⟨rfl, N332, kp286⟩
  ·obtain ⟨rfl, N335q, K336, p337, p338, b339, k340, p341, p342, p343, p344⟩ := hQ271
   have N335 := Fr.app N261 N335q
   have o345 := o267.keep K336 (allS g266 all0)
   have kp346 := kp268.trans K336 (allS (Or.inr z269) all0)
   have z347 := Nat.le_trans kp268.1 p344
   have g348 := Nat.le_trans (Nat.le_trans (Nat.le_of_eq o267.1.symm) o267.2.1) p344
   have c349 : Kt p e below T271 st0 (mkF m 169 #[vi n_, vi p_, vi q_, vi r_, vi v_, vi 3, vi ch0, vi ch1, vi ch2, vi ch3, vr b239, vr b266, u_] [(ii 128), (.int ch0)]) := fun t k => by
    refine c271 t ?_
    show S_ p e below T271 m 156 #[vi n_, vi p_, vi q_, vi r_, vi v_, vi 3, vi ch0, vi ch1, vi ch2, vi ch3, vr b239, u_, u_] [(rr b266)] t
    refine XS.astore X271.here hx rfl (hb hby at_156) rfl rfl (l' := #[vi n_, vi p_, vi q_, vi r_, vi v_, vi 3, vi ch0, vi ch1, vi ch2, vi ch3, vr b239, vr b266, u_]) rfl ?_
    show S_ p e below T271 m 158 #[vi n_, vi p_, vi q_, vi r_, vi v_, vi 3, vi ch0, vi ch1, vi ch2, vi ch3, vr b239, vr b266, u_] [] t
    refine XS.iload X271.here hx rfl (hb hby at_158) rfl ?_
    show S_ p e below T271 m 160 #[vi n_, vi p_, vi q_, vi r_, vi v_, vi 3, vi ch0, vi ch1, vi ch2, vi ch3, vr b239, vr b266, u_] [(ii 3)] t
    refine XS.iconst X271.here hx rfl (hb hby at_160) ?_
    show S_ p e below T271 m 161 #[vi n_, vi p_, vi q_, vi r_, vi v_, vi 3, vi ch0, vi ch1, vi ch2, vi ch3, vr b239, vr b266, u_] [(ii 1), (ii 3)] t
    refine XS.icmpNo X271.here hx rfl (hb hby at_161) rfl rfl ?_
    show S_ p e below T271 m 164 #[vi n_, vi p_, vi q_, vi r_, vi v_, vi 3, vi ch0, vi ch1, vi ch2, vi ch3, vr b239, vr b266, u_] [] t
    refine XS.iload X271.here hx rfl (hb hby at_164) rfl ?_
    show S_ p e below T271 m 166 #[vi n_, vi p_, vi q_, vi r_, vi v_, vi 3, vi ch0, vi ch1, vi ch2, vi ch3, vr b239, vr b266, u_] [(.int ch0)] t
    refine XS.sipush X271.here hx rfl (hb hby at_166) ?_
    exact k
   by_cases hc350 : ch0 < (128 : Int32)
   ·have c351 : Kt p e below T271 st0 (mkF m 183 #[vi n_, vi p_, vi q_, vi r_, vi v_, vi 3, vi ch0, vi ch1, vi ch2, vi ch3, vr b239, vr b266, u_] [(ii 128), (.int ch1)]) := fun t k => by
     refine c349 t ?_
     show S_ p e below T271 m 169 #[vi n_, vi p_, vi q_, vi r_, vi v_, vi 3, vi ch0, vi ch1, vi ch2, vi ch3, vr b239, vr b266, u_] [(ii 128), (.int ch0)] t
     refine XS.icmpNo X271.here hx rfl (hb hby at_169) rfl (tlt hc350).2.1 ?_
     show S_ p e below T271 m 172 #[vi n_, vi p_, vi q_, vi r_, vi v_, vi 3, vi ch0, vi ch1, vi ch2, vi ch3, vr b239, vr b266, u_] [] t
     refine XS.iload X271.here hx rfl (hb hby at_172) rfl ?_
     show S_ p e below T271 m 174 #[vi n_, vi p_, vi q_, vi r_, vi v_, vi 3, vi ch0, vi ch1, vi ch2, vi ch3, vr b239, vr b266, u_] [(ii 3)] t
     refine XS.iconst X271.here hx rfl (hb hby at_174) ?_
     show S_ p e below T271 m 175 #[vi n_, vi p_, vi q_, vi r_, vi v_, vi 3, vi ch0, vi ch1, vi ch2, vi ch3, vr b239, vr b266, u_] [(ii 2), (ii 3)] t
     refine XS.icmpNo X271.here hx rfl (hb hby at_175) rfl rfl ?_
     show S_ p e below T271 m 178 #[vi n_, vi p_, vi q_, vi r_, vi v_, vi 3, vi ch0, vi ch1, vi ch2, vi ch3, vr b239, vr b266, u_] [] t
     refine XS.iload X271.here hx rfl (hb hby at_178) rfl ?_
     show S_ p e below T271 m 180 #[vi n_, vi p_, vi q_, vi r_, vi v_, vi 3, vi ch0, vi ch1, vi ch2, vi ch3, vr b239, vr b266, u_] [(.int ch1)] t
     refine XS.sipush X271.here hx rfl (hb hby at_180) ?_
     exact k
    by_cases hc352 : ch1 < (128 : Int32)
    ·have c353 : Kt p e below T271 st0 (mkF m 197 #[vi n_, vi p_, vi q_, vi r_, vi v_, vi 3, vi ch0, vi ch1, vi ch2, vi ch3, vr b239, vr b266, u_] [(ii 128), (.int ch2)]) := fun t k => by
      refine c351 t ?_
      show S_ p e below T271 m 183 #[vi n_, vi p_, vi q_, vi r_, vi v_, vi 3, vi ch0, vi ch1, vi ch2, vi ch3, vr b239, vr b266, u_] [(ii 128), (.int ch1)] t
      refine XS.icmpNo X271.here hx rfl (hb hby at_183) rfl (tlt hc352).2.1 ?_
      show S_ p e below T271 m 186 #[vi n_, vi p_, vi q_, vi r_, vi v_, vi 3, vi ch0, vi ch1, vi ch2, vi ch3, vr b239, vr b266, u_] [] t
      refine XS.iload X271.here hx rfl (hb hby at_186) rfl ?_
      show S_ p e below T271 m 188 #[vi n_, vi p_, vi q_, vi r_, vi v_, vi 3, vi ch0, vi ch1, vi ch2, vi ch3, vr b239, vr b266, u_] [(ii 3)] t
      refine XS.iconst X271.here hx rfl (hb hby at_188) ?_
      show S_ p e below T271 m 189 #[vi n_, vi p_, vi q_, vi r_, vi v_, vi 3, vi ch0, vi ch1, vi ch2, vi ch3, vr b239, vr b266, u_] [(ii 3), (ii 3)] t
      refine XS.icmpNo X271.here hx rfl (hb hby at_189) rfl rfl ?_
      show S_ p e below T271 m 192 #[vi n_, vi p_, vi q_, vi r_, vi v_, vi 3, vi ch0, vi ch1, vi ch2, vi ch3, vr b239, vr b266, u_] [] t
      refine XS.iload X271.here hx rfl (hb hby at_192) rfl ?_
      show S_ p e below T271 m 194 #[vi n_, vi p_, vi q_, vi r_, vi v_, vi 3, vi ch0, vi ch1, vi ch2, vi ch3, vr b239, vr b266, u_] [(.int ch2)] t
      refine XS.sipush X271.here hx rfl (hb hby at_194) ?_
      exact k
     by_cases hc354 : ch2 < (128 : Int32)
     ·have c355 : Kt p e below T271 st0 (mkF m 223 #[vi n_, vi p_, vi q_, vi r_, vi v_, vi 3, vi ch0, vi ch1, vi ch2, vi ch3, vr b239, vr b266, vi 1] [(rr b266)]) := fun t k => by
       refine c353 t ?_
       show S_ p e below T271 m 197 #[vi n_, vi p_, vi q_, vi r_, vi v_, vi 3, vi ch0, vi ch1, vi ch2, vi ch3, vr b239, vr b266, u_] [(ii 128), (.int ch2)] t
       refine XS.icmpNo X271.here hx rfl (hb hby at_197) rfl (tlt hc354).2.1 ?_
       show S_ p e below T271 m 200 #[vi n_, vi p_, vi q_, vi r_, vi v_, vi 3, vi ch0, vi ch1, vi ch2, vi ch3, vr b239, vr b266, u_] [] t
       refine XS.iload X271.here hx rfl (hb hby at_200) rfl ?_
       show S_ p e below T271 m 202 #[vi n_, vi p_, vi q_, vi r_, vi v_, vi 3, vi ch0, vi ch1, vi ch2, vi ch3, vr b239, vr b266, u_] [(ii 3)] t
       refine XS.iconst X271.here hx rfl (hb hby at_202) ?_
       show S_ p e below T271 m 203 #[vi n_, vi p_, vi q_, vi r_, vi v_, vi 3, vi ch0, vi ch1, vi ch2, vi ch3, vr b239, vr b266, u_] [(ii 4), (ii 3)] t
       refine yC X271.here hx rfl 203 214 rfl (hb hby at_203) rfl rfl ?_
       show S_ p e below T271 m 214 #[vi n_, vi p_, vi q_, vi r_, vi v_, vi 3, vi ch0, vi ch1, vi ch2, vi ch3, vr b239, vr b266, u_] [] t
       refine XS.iconst X271.here hx rfl (hb hby at_214) ?_
       show S_ p e below T271 m 215 #[vi n_, vi p_, vi q_, vi r_, vi v_, vi 3, vi ch0, vi ch1, vi ch2, vi ch3, vr b239, vr b266, u_] [(ii 1)] t
       refine yG X271.here hx rfl 215 219 rfl (hb hby at_215) ?_
       show S_ p e below T271 m 219 #[vi n_, vi p_, vi q_, vi r_, vi v_, vi 3, vi ch0, vi ch1, vi ch2, vi ch3, vr b239, vr b266, u_] [(ii 1)] t
       refine XS.istore X271.here hx rfl (hb hby at_219) rfl (l' := #[vi n_, vi p_, vi q_, vi r_, vi v_, vi 3, vi ch0, vi ch1, vi ch2, vi ch3, vr b239, vr b266, vi 1]) rfl ?_
       show S_ p e below T271 m 221 #[vi n_, vi p_, vi q_, vi r_, vi v_, vi 3, vi ch0, vi ch1, vi ch2, vi ch3, vr b239, vr b266, vi 1] [] t
       refine XS.aload X271.here hx rfl (hb hby at_221) rfl rfl ?_
       exact k
      obtain ⟨_, T356, L356, X356, hQ356, c356⟩ := kstat X271 hx hZ hown (w24 hw) (w25 hw) (w26 hw) (w27 hw) (rm_ascU_3 l Z a0 hw [] b266 b339 k340 si1_ sv12_ ch0 ch1 ch2 T271.heap n0 o345 p337 p338 p341 p342 ZS0_ sn4_ ZS6_ sv12_r hg2 hg3 hg4 ZS2_ ZS3_ ZS4_) rfl c355 hml pd_pLjava_lang_String_rZ [(rr b266)] [] 0 (hb hby at_223) rfl rfl rfl rfl rfl rfl
      rcases hQ356 with hQ356 | hQ356
      ·obtain ⟨rfl, N357q, K358, p359, p360, p361⟩ := hQ356
       have N357 := Fr.app N335 N357q
       obtain ⟨fs, hr, hrun, hended, hRW⟩ := X356.leaveW hS0 (by first | exact (Nat.le_trans (Nat.zero_le _) (Nat.le_trans (Nat.le_trans (Nat.le_trans (Nat.le_trans (Nat.le_trans E239.1 (Keep.of_wr W245).1) (Keep.of_wr W252).1) (Keep.of_wr W259).1) E266.1) K336.1)) | (rw [K358]; exact (Nat.le_trans (Nat.zero_le _) (Nat.le_trans (Nat.le_trans (Nat.le_trans (Nat.le_trans (Nat.le_trans E239.1 (Keep.of_wr W245).1) (Keep.of_wr W252).1) (Keep.of_wr W259).1) E266.1) K336.1)))) (v := some (ii 1)) (fun h => by rw [Bd.returns] at h; cases h)
       refine ⟨_, _, c356 _ ?_, hrun, hended, _, _, rfl, ?_, hRW.1, hRW.2.1, hRW.2.2.1, hRW.2.2.2.mono (by decide) (by decide)⟩
       ·show S_ p e below T356 m 226 #[vi n_, vi p_, vi q_, vi r_, vi v_, vi 3, vi ch0, vi ch1, vi ch2, vi ch3, vr b239, vr b266, vi 1] [(ii 1)] _
        refine XS.iload X356.here hx rfl (hb hby at_226) rfl ?_
        show S_ p e below T356 m 228 #[vi n_, vi p_, vi q_, vi r_, vi v_, vi 3, vi ch0, vi ch1, vi ch2, vi ch3, vr b239, vr b266, vi 1] [(ii 1), (ii 1)] _
        refine XS.icmpNo X356.here hx rfl (hb hby at_228) rfl rfl ?_
        show S_ p e below T356 m 231 #[vi n_, vi p_, vi q_, vi r_, vi v_, vi 3, vi ch0, vi ch1, vi ch2, vi ch3, vr b239, vr b266, vi 1] [] _
        refine XS.iconst X356.here hx rfl (hb hby at_231) ?_
        show S_ p e below T356 m 232 #[vi n_, vi p_, vi q_, vi r_, vi v_, vi 3, vi ch0, vi ch1, vi ch2, vi ch3, vr b239, vr b266, vi 1] [(ii 1)] _
        refine yG X356.here hx rfl 232 236 rfl (hb hby at_232) ?_
        show S_ p e below T356 m 236 #[vi n_, vi p_, vi q_, vi r_, vi v_, vi 3, vi ch0, vi ch1, vi ch2, vi ch3, vr b239, vr b266, vi 1] [(ii 1)] _
        exact retN X356 hx (t := .boolean) Bd.returns (by simp) (hb hby at_236) hr
       ·show Q_law Z n_ p_ q_ r_ v_ si1_ sv12_ h0 n0 _ T356.heap _
        rw [K358]
        exact ⟨rfl, N357, kp346⟩
      ·obtain ⟨rfl, N362q, K363, p364⟩ := hQ356
       have N362 := Fr.app N335 N362q
       exact absurd ⟨hc350, hc352, hc354⟩ p364
     ·have c365 : Kt p e below T271 st0 (mkF m 223 #[vi n_, vi p_, vi q_, vi r_, vi v_, vi 3, vi ch0, vi ch1, vi ch2, vi ch3, vr b239, vr b266, vi 0] [(rr b266)]) := fun t k => by
       refine c353 t ?_
       show S_ p e below T271 m 197 #[vi n_, vi p_, vi q_, vi r_, vi v_, vi 3, vi ch0, vi ch1, vi ch2, vi ch3, vr b239, vr b266, u_] [(ii 128), (.int ch2)] t
       refine yC X271.here hx rfl 197 218 rfl (hb hby at_197) rfl (flt hc354).2.1 ?_
       show S_ p e below T271 m 218 #[vi n_, vi p_, vi q_, vi r_, vi v_, vi 3, vi ch0, vi ch1, vi ch2, vi ch3, vr b239, vr b266, u_] [] t
       refine XS.iconst X271.here hx rfl (hb hby at_218) ?_
       show S_ p e below T271 m 219 #[vi n_, vi p_, vi q_, vi r_, vi v_, vi 3, vi ch0, vi ch1, vi ch2, vi ch3, vr b239, vr b266, u_] [(ii 0)] t
       refine XS.istore X271.here hx rfl (hb hby at_219) rfl (l' := #[vi n_, vi p_, vi q_, vi r_, vi v_, vi 3, vi ch0, vi ch1, vi ch2, vi ch3, vr b239, vr b266, vi 0]) rfl ?_
       show S_ p e below T271 m 221 #[vi n_, vi p_, vi q_, vi r_, vi v_, vi 3, vi ch0, vi ch1, vi ch2, vi ch3, vr b239, vr b266, vi 0] [] t
       refine XS.aload X271.here hx rfl (hb hby at_221) rfl rfl ?_
       exact k
      obtain ⟨_, T366, L366, X366, hQ366, c366⟩ := kstat X271 hx hZ hown (w24 hw) (w25 hw) (w26 hw) (w27 hw) (rm_ascU_3 l Z a0 hw [] b266 b339 k340 si1_ sv12_ ch0 ch1 ch2 T271.heap n0 o345 p337 p338 p341 p342 ZS0_ sn4_ ZS6_ sv12_r hg2 hg3 hg4 ZS2_ ZS3_ ZS4_) rfl c365 hml pd_pLjava_lang_String_rZ [(rr b266)] [] 0 (hb hby at_223) rfl rfl rfl rfl rfl rfl
      rcases hQ366 with hQ366 | hQ366
      ·obtain ⟨rfl, N367q, K368, p369, p370, p371⟩ := hQ366
       have N367 := Fr.app N335 N367q
       exact absurd p371 hc354
      ·obtain ⟨rfl, N372q, K373, p374⟩ := hQ366
       have N372 := Fr.app N335 N372q
       obtain ⟨fs, hr, hrun, hended, hRW⟩ := X366.leaveW hS0 (by first | exact (Nat.le_trans (Nat.zero_le _) (Nat.le_trans (Nat.le_trans (Nat.le_trans (Nat.le_trans (Nat.le_trans E239.1 (Keep.of_wr W245).1) (Keep.of_wr W252).1) (Keep.of_wr W259).1) E266.1) K336.1)) | (rw [K373]; exact (Nat.le_trans (Nat.zero_le _) (Nat.le_trans (Nat.le_trans (Nat.le_trans (Nat.le_trans (Nat.le_trans E239.1 (Keep.of_wr W245).1) (Keep.of_wr W252).1) (Keep.of_wr W259).1) E266.1) K336.1)))) (v := some (ii 1)) (fun h => by rw [Bd.returns] at h; cases h)
       refine ⟨_, _, c366 _ ?_, hrun, hended, _, _, rfl, ?_, hRW.1, hRW.2.1, hRW.2.2.1, hRW.2.2.2.mono (by decide) (by decide)⟩
       ·show S_ p e below T366 m 226 #[vi n_, vi p_, vi q_, vi r_, vi v_, vi 3, vi ch0, vi ch1, vi ch2, vi ch3, vr b239, vr b266, vi 0] [(ii 0)] _
        refine XS.iload X366.here hx rfl (hb hby at_226) rfl ?_
        show S_ p e below T366 m 228 #[vi n_, vi p_, vi q_, vi r_, vi v_, vi 3, vi ch0, vi ch1, vi ch2, vi ch3, vr b239, vr b266, vi 0] [(ii 0), (ii 0)] _
        refine XS.icmpNo X366.here hx rfl (hb hby at_228) rfl rfl ?_
        show S_ p e below T366 m 231 #[vi n_, vi p_, vi q_, vi r_, vi v_, vi 3, vi ch0, vi ch1, vi ch2, vi ch3, vr b239, vr b266, vi 0] [] _
        refine XS.iconst X366.here hx rfl (hb hby at_231) ?_
        show S_ p e below T366 m 232 #[vi n_, vi p_, vi q_, vi r_, vi v_, vi 3, vi ch0, vi ch1, vi ch2, vi ch3, vr b239, vr b266, vi 0] [(ii 1)] _
        refine yG X366.here hx rfl 232 236 rfl (hb hby at_232) ?_
        show S_ p e below T366 m 236 #[vi n_, vi p_, vi q_, vi r_, vi v_, vi 3, vi ch0, vi ch1, vi ch2, vi ch3, vr b239, vr b266, vi 0] [(ii 1)] _
        exact retN X366 hx (t := .boolean) Bd.returns (by simp) (hb hby at_236) hr
       ·show Q_law Z n_ p_ q_ r_ v_ si1_ sv12_ h0 n0 _ T366.heap _
        rw [K373]
        exact ⟨rfl, N372, kp346⟩
    ·have c375 : Kt p e below T271 st0 (mkF m 223 #[vi n_, vi p_, vi q_, vi r_, vi v_, vi 3, vi ch0, vi ch1, vi ch2, vi ch3, vr b239, vr b266, vi 0] [(rr b266)]) := fun t k => by
      refine c351 t ?_
      show S_ p e below T271 m 183 #[vi n_, vi p_, vi q_, vi r_, vi v_, vi 3, vi ch0, vi ch1, vi ch2, vi ch3, vr b239, vr b266, u_] [(ii 128), (.int ch1)] t
      refine yC X271.here hx rfl 183 218 rfl (hb hby at_183) rfl (flt hc352).2.1 ?_
      show S_ p e below T271 m 218 #[vi n_, vi p_, vi q_, vi r_, vi v_, vi 3, vi ch0, vi ch1, vi ch2, vi ch3, vr b239, vr b266, u_] [] t
      refine XS.iconst X271.here hx rfl (hb hby at_218) ?_
      show S_ p e below T271 m 219 #[vi n_, vi p_, vi q_, vi r_, vi v_, vi 3, vi ch0, vi ch1, vi ch2, vi ch3, vr b239, vr b266, u_] [(ii 0)] t
      refine XS.istore X271.here hx rfl (hb hby at_219) rfl (l' := #[vi n_, vi p_, vi q_, vi r_, vi v_, vi 3, vi ch0, vi ch1, vi ch2, vi ch3, vr b239, vr b266, vi 0]) rfl ?_
      show S_ p e below T271 m 221 #[vi n_, vi p_, vi q_, vi r_, vi v_, vi 3, vi ch0, vi ch1, vi ch2, vi ch3, vr b239, vr b266, vi 0] [] t
      refine XS.aload X271.here hx rfl (hb hby at_221) rfl rfl ?_
      exact k
     obtain ⟨_, T376, L376, X376, hQ376, c376⟩ := kstat X271 hx hZ hown (w24 hw) (w25 hw) (w26 hw) (w27 hw) (rm_ascU_3 l Z a0 hw [] b266 b339 k340 si1_ sv12_ ch0 ch1 ch2 T271.heap n0 o345 p337 p338 p341 p342 ZS0_ sn4_ ZS6_ sv12_r hg2 hg3 hg4 ZS2_ ZS3_ ZS4_) rfl c375 hml pd_pLjava_lang_String_rZ [(rr b266)] [] 0 (hb hby at_223) rfl rfl rfl rfl rfl rfl
     rcases hQ376 with hQ376 | hQ376
     ·obtain ⟨rfl, N377q, K378, p379, p380, p381⟩ := hQ376
      have N377 := Fr.app N335 N377q
      exact absurd p380 hc352
     ·obtain ⟨rfl, N382q, K383, p384⟩ := hQ376
      have N382 := Fr.app N335 N382q
      obtain ⟨fs, hr, hrun, hended, hRW⟩ := X376.leaveW hS0 (by first | exact (Nat.le_trans (Nat.zero_le _) (Nat.le_trans (Nat.le_trans (Nat.le_trans (Nat.le_trans (Nat.le_trans E239.1 (Keep.of_wr W245).1) (Keep.of_wr W252).1) (Keep.of_wr W259).1) E266.1) K336.1)) | (rw [K383]; exact (Nat.le_trans (Nat.zero_le _) (Nat.le_trans (Nat.le_trans (Nat.le_trans (Nat.le_trans (Nat.le_trans E239.1 (Keep.of_wr W245).1) (Keep.of_wr W252).1) (Keep.of_wr W259).1) E266.1) K336.1)))) (v := some (ii 1)) (fun h => by rw [Bd.returns] at h; cases h)
      refine ⟨_, _, c376 _ ?_, hrun, hended, _, _, rfl, ?_, hRW.1, hRW.2.1, hRW.2.2.1, hRW.2.2.2.mono (by decide) (by decide)⟩
      ·show S_ p e below T376 m 226 #[vi n_, vi p_, vi q_, vi r_, vi v_, vi 3, vi ch0, vi ch1, vi ch2, vi ch3, vr b239, vr b266, vi 0] [(ii 0)] _
       refine XS.iload X376.here hx rfl (hb hby at_226) rfl ?_
       show S_ p e below T376 m 228 #[vi n_, vi p_, vi q_, vi r_, vi v_, vi 3, vi ch0, vi ch1, vi ch2, vi ch3, vr b239, vr b266, vi 0] [(ii 0), (ii 0)] _
       refine XS.icmpNo X376.here hx rfl (hb hby at_228) rfl rfl ?_
       show S_ p e below T376 m 231 #[vi n_, vi p_, vi q_, vi r_, vi v_, vi 3, vi ch0, vi ch1, vi ch2, vi ch3, vr b239, vr b266, vi 0] [] _
       refine XS.iconst X376.here hx rfl (hb hby at_231) ?_
       show S_ p e below T376 m 232 #[vi n_, vi p_, vi q_, vi r_, vi v_, vi 3, vi ch0, vi ch1, vi ch2, vi ch3, vr b239, vr b266, vi 0] [(ii 1)] _
       refine yG X376.here hx rfl 232 236 rfl (hb hby at_232) ?_
       show S_ p e below T376 m 236 #[vi n_, vi p_, vi q_, vi r_, vi v_, vi 3, vi ch0, vi ch1, vi ch2, vi ch3, vr b239, vr b266, vi 0] [(ii 1)] _
       exact retN X376 hx (t := .boolean) Bd.returns (by simp) (hb hby at_236) hr
      ·show Q_law Z n_ p_ q_ r_ v_ si1_ sv12_ h0 n0 _ T376.heap _
       rw [K383]
       exact ⟨rfl, N382, kp346⟩
   ·have c385 : Kt p e below T271 st0 (mkF m 223 #[vi n_, vi p_, vi q_, vi r_, vi v_, vi 3, vi ch0, vi ch1, vi ch2, vi ch3, vr b239, vr b266, vi 0] [(rr b266)]) := fun t k => by
     refine c349 t ?_
     show S_ p e below T271 m 169 #[vi n_, vi p_, vi q_, vi r_, vi v_, vi 3, vi ch0, vi ch1, vi ch2, vi ch3, vr b239, vr b266, u_] [(ii 128), (.int ch0)] t
     refine yC X271.here hx rfl 169 218 rfl (hb hby at_169) rfl (flt hc350).2.1 ?_
     show S_ p e below T271 m 218 #[vi n_, vi p_, vi q_, vi r_, vi v_, vi 3, vi ch0, vi ch1, vi ch2, vi ch3, vr b239, vr b266, u_] [] t
     refine XS.iconst X271.here hx rfl (hb hby at_218) ?_
     show S_ p e below T271 m 219 #[vi n_, vi p_, vi q_, vi r_, vi v_, vi 3, vi ch0, vi ch1, vi ch2, vi ch3, vr b239, vr b266, u_] [(ii 0)] t
     refine XS.istore X271.here hx rfl (hb hby at_219) rfl (l' := #[vi n_, vi p_, vi q_, vi r_, vi v_, vi 3, vi ch0, vi ch1, vi ch2, vi ch3, vr b239, vr b266, vi 0]) rfl ?_
     show S_ p e below T271 m 221 #[vi n_, vi p_, vi q_, vi r_, vi v_, vi 3, vi ch0, vi ch1, vi ch2, vi ch3, vr b239, vr b266, vi 0] [] t
     refine XS.aload X271.here hx rfl (hb hby at_221) rfl rfl ?_
     exact k
    obtain ⟨_, T386, L386, X386, hQ386, c386⟩ := kstat X271 hx hZ hown (w24 hw) (w25 hw) (w26 hw) (w27 hw) (rm_ascU_3 l Z a0 hw [] b266 b339 k340 si1_ sv12_ ch0 ch1 ch2 T271.heap n0 o345 p337 p338 p341 p342 ZS0_ sn4_ ZS6_ sv12_r hg2 hg3 hg4 ZS2_ ZS3_ ZS4_) rfl c385 hml pd_pLjava_lang_String_rZ [(rr b266)] [] 0 (hb hby at_223) rfl rfl rfl rfl rfl rfl
    rcases hQ386 with hQ386 | hQ386
    ·obtain ⟨rfl, N387q, K388, p389, p390, p391⟩ := hQ386
     have N387 := Fr.app N335 N387q
     exact absurd p389 hc350
    ·obtain ⟨rfl, N392q, K393, p394⟩ := hQ386
     have N392 := Fr.app N335 N392q
     obtain ⟨fs, hr, hrun, hended, hRW⟩ := X386.leaveW hS0 (by first | exact (Nat.le_trans (Nat.zero_le _) (Nat.le_trans (Nat.le_trans (Nat.le_trans (Nat.le_trans (Nat.le_trans E239.1 (Keep.of_wr W245).1) (Keep.of_wr W252).1) (Keep.of_wr W259).1) E266.1) K336.1)) | (rw [K393]; exact (Nat.le_trans (Nat.zero_le _) (Nat.le_trans (Nat.le_trans (Nat.le_trans (Nat.le_trans (Nat.le_trans E239.1 (Keep.of_wr W245).1) (Keep.of_wr W252).1) (Keep.of_wr W259).1) E266.1) K336.1)))) (v := some (ii 1)) (fun h => by rw [Bd.returns] at h; cases h)
     refine ⟨_, _, c386 _ ?_, hrun, hended, _, _, rfl, ?_, hRW.1, hRW.2.1, hRW.2.2.1, hRW.2.2.2.mono (by decide) (by decide)⟩
     ·show S_ p e below T386 m 226 #[vi n_, vi p_, vi q_, vi r_, vi v_, vi 3, vi ch0, vi ch1, vi ch2, vi ch3, vr b239, vr b266, vi 0] [(ii 0)] _
      refine XS.iload X386.here hx rfl (hb hby at_226) rfl ?_
      show S_ p e below T386 m 228 #[vi n_, vi p_, vi q_, vi r_, vi v_, vi 3, vi ch0, vi ch1, vi ch2, vi ch3, vr b239, vr b266, vi 0] [(ii 0), (ii 0)] _
      refine XS.icmpNo X386.here hx rfl (hb hby at_228) rfl rfl ?_
      show S_ p e below T386 m 231 #[vi n_, vi p_, vi q_, vi r_, vi v_, vi 3, vi ch0, vi ch1, vi ch2, vi ch3, vr b239, vr b266, vi 0] [] _
      refine XS.iconst X386.here hx rfl (hb hby at_231) ?_
      show S_ p e below T386 m 232 #[vi n_, vi p_, vi q_, vi r_, vi v_, vi 3, vi ch0, vi ch1, vi ch2, vi ch3, vr b239, vr b266, vi 0] [(ii 1)] _
      refine yG X386.here hx rfl 232 236 rfl (hb hby at_232) ?_
      show S_ p e below T386 m 236 #[vi n_, vi p_, vi q_, vi r_, vi v_, vi 3, vi ch0, vi ch1, vi ch2, vi ch3, vr b239, vr b266, vi 0] [(ii 1)] _
      exact retN X386 hx (t := .boolean) Bd.returns (by simp) (hb hby at_236) hr
     ·show Q_law Z n_ p_ q_ r_ v_ si1_ sv12_ h0 n0 _ T386.heap _
      rw [K393]
      exact ⟨rfl, N392, kp346⟩
 ·rw [hv6] at c1
  have c395 : Kt p e below s₁ st0 (mkF m 123 #[vi n_, vi p_, vi q_, vi r_, vi v_, vi 4, vi ch0, vi ch1, vi ch2, vi ch3, u_, u_, u_] [(ii 4)]) := fun t k => by
   refine c1 t ?_
   show S_ p e below s₁ m 37 #[vi n_, vi p_, vi q_, vi r_, vi v_, vi 4, vi ch0, vi ch1, vi ch2, vi ch3, u_, u_, u_] [] t
   refine XS.iload X0.here hx rfl (hb hby at_37) rfl ?_
   show S_ p e below s₁ m 39 #[vi n_, vi p_, vi q_, vi r_, vi v_, vi 4, vi ch0, vi ch1, vi ch2, vi ch3, u_, u_, u_] [(ii 4)] t
   refine yI X0.here hx rfl 39 50 rfl (hb hby at_39) rfl rfl ?_
   show S_ p e below s₁ m 50 #[vi n_, vi p_, vi q_, vi r_, vi v_, vi 4, vi ch0, vi ch1, vi ch2, vi ch3, u_, u_, u_] [] t
   refine XS.iload X0.here hx rfl (hb hby at_50) rfl ?_
   show S_ p e below s₁ m 52 #[vi n_, vi p_, vi q_, vi r_, vi v_, vi 4, vi ch0, vi ch1, vi ch2, vi ch3, u_, u_, u_] [(ii 4)] t
   refine XS.iconst X0.here hx rfl (hb hby at_52) ?_
   show S_ p e below s₁ m 53 #[vi n_, vi p_, vi q_, vi r_, vi v_, vi 4, vi ch0, vi ch1, vi ch2, vi ch3, u_, u_, u_] [(ii 1), (ii 4)] t
   refine yC X0.here hx rfl 53 69 rfl (hb hby at_53) rfl rfl ?_
   show S_ p e below s₁ m 69 #[vi n_, vi p_, vi q_, vi r_, vi v_, vi 4, vi ch0, vi ch1, vi ch2, vi ch3, u_, u_, u_] [] t
   refine XS.iload X0.here hx rfl (hb hby at_69) rfl ?_
   show S_ p e below s₁ m 71 #[vi n_, vi p_, vi q_, vi r_, vi v_, vi 4, vi ch0, vi ch1, vi ch2, vi ch3, u_, u_, u_] [(ii 4)] t
   refine XS.iconst X0.here hx rfl (hb hby at_71) ?_
   show S_ p e below s₁ m 72 #[vi n_, vi p_, vi q_, vi r_, vi v_, vi 4, vi ch0, vi ch1, vi ch2, vi ch3, u_, u_, u_] [(ii 2), (ii 4)] t
   refine yC X0.here hx rfl 72 93 rfl (hb hby at_72) rfl rfl ?_
   show S_ p e below s₁ m 93 #[vi n_, vi p_, vi q_, vi r_, vi v_, vi 4, vi ch0, vi ch1, vi ch2, vi ch3, u_, u_, u_] [] t
   refine XS.iload X0.here hx rfl (hb hby at_93) rfl ?_
   show S_ p e below s₁ m 95 #[vi n_, vi p_, vi q_, vi r_, vi v_, vi 4, vi ch0, vi ch1, vi ch2, vi ch3, u_, u_, u_] [(ii 4)] t
   refine XS.iconst X0.here hx rfl (hb hby at_95) ?_
   show S_ p e below s₁ m 96 #[vi n_, vi p_, vi q_, vi r_, vi v_, vi 4, vi ch0, vi ch1, vi ch2, vi ch3, u_, u_, u_] [(ii 3), (ii 4)] t
   refine yC X0.here hx rfl 96 122 rfl (hb hby at_96) rfl rfl ?_
   show S_ p e below s₁ m 122 #[vi n_, vi p_, vi q_, vi r_, vi v_, vi 4, vi ch0, vi ch1, vi ch2, vi ch3, u_, u_, u_] [] t
   refine XS.iconst X0.here hx rfl (hb hby at_122) ?_
   exact k
  obtain ⟨b396, T396, h396, k396, z396, g396, X396, e396, E396, o397, A396, c396⟩ := knewP (aty := .char) X0 hx hZ (w2 hw) e0 c395 rfl (hb hby at_123) rfl (by decide) 4 (by decide) (by decide) (by decide) (by decide) O0
  have kp399 := kp0.ext E396
  have z400 := Nat.le_trans kp0.1 z396
  have f398 : Arv Z h396 b396 k396 .char (4 : Int32) [(ii 0), (ii 0), (ii 0), (ii 0)] (ii 0) := A396.pad (pad_rep [] (ii 0) 4)
  have c401 : Kt p e below T396 st0 (mkF m 129 #[vi n_, vi p_, vi q_, vi r_, vi v_, vi 4, vi ch0, vi ch1, vi ch2, vi ch3, u_, u_, u_] [(.int ch0), (ii 0), (rr b396), (rr b396)]) := fun t k => by
   refine c396 t ?_
   show S_ p e below T396 m 125 #[vi n_, vi p_, vi q_, vi r_, vi v_, vi 4, vi ch0, vi ch1, vi ch2, vi ch3, u_, u_, u_] [(rr b396)] t
   refine XS.dup X396.here hx rfl (hb hby at_125) rfl rfl ?_
   show S_ p e below T396 m 126 #[vi n_, vi p_, vi q_, vi r_, vi v_, vi 4, vi ch0, vi ch1, vi ch2, vi ch3, u_, u_, u_] [(rr b396), (rr b396)] t
   refine XS.iconst X396.here hx rfl (hb hby at_126) ?_
   show S_ p e below T396 m 127 #[vi n_, vi p_, vi q_, vi r_, vi v_, vi 4, vi ch0, vi ch1, vi ch2, vi ch3, u_, u_, u_] [(ii 0), (rr b396), (rr b396)] t
   refine XS.iload X396.here hx rfl (hb hby at_127) rfl ?_
   exact k
  obtain ⟨T402, h402, X402, e402, W402, f405, o403, N404, c402⟩ := kstC X396 hx hZ e396 f398 (j := (0 : Int32)) (by decide) (by decide) 0 rfl (Nat.le_of_ble_eq_true rfl) c401 rfl rfl (hb hby at_129) o397 N0 g396
  rw [hg2] at W402 f405
  have f406 : Arv Z h402 b396 k396 .char (4 : Int32) [(.int ch0), (ii 0), (ii 0), (ii 0)] (ii 0) := f405
  have kp407 := kp399.wr W402 (Or.inr z400)
  have c408 : Kt p e below T402 st0 (mkF m 134 #[vi n_, vi p_, vi q_, vi r_, vi v_, vi 4, vi ch0, vi ch1, vi ch2, vi ch3, u_, u_, u_] [(.int ch1), (ii 1), (rr b396), (rr b396)]) := fun t k => by
   refine c402 t ?_
   show S_ p e below T402 m 130 #[vi n_, vi p_, vi q_, vi r_, vi v_, vi 4, vi ch0, vi ch1, vi ch2, vi ch3, u_, u_, u_] [(rr b396)] t
   refine XS.dup X402.here hx rfl (hb hby at_130) rfl rfl ?_
   show S_ p e below T402 m 131 #[vi n_, vi p_, vi q_, vi r_, vi v_, vi 4, vi ch0, vi ch1, vi ch2, vi ch3, u_, u_, u_] [(rr b396), (rr b396)] t
   refine XS.iconst X402.here hx rfl (hb hby at_131) ?_
   show S_ p e below T402 m 132 #[vi n_, vi p_, vi q_, vi r_, vi v_, vi 4, vi ch0, vi ch1, vi ch2, vi ch3, u_, u_, u_] [(ii 1), (rr b396), (rr b396)] t
   refine XS.iload X402.here hx rfl (hb hby at_132) rfl ?_
   exact k
  obtain ⟨T409, h409, X409, e409, W409, f412, o410, N411, c409⟩ := kstC X402 hx hZ e402 f406 (j := (1 : Int32)) (by decide) (by decide) 1 rfl (Nat.le_of_ble_eq_true rfl) c408 rfl rfl (hb hby at_134) o403 N404 g396
  rw [hg3] at W409 f412
  have f413 : Arv Z h409 b396 k396 .char (4 : Int32) [(.int ch0), (.int ch1), (ii 0), (ii 0)] (ii 0) := f412
  have kp414 := kp407.wr W409 (Or.inr z400)
  have c415 : Kt p e below T409 st0 (mkF m 139 #[vi n_, vi p_, vi q_, vi r_, vi v_, vi 4, vi ch0, vi ch1, vi ch2, vi ch3, u_, u_, u_] [(.int ch2), (ii 2), (rr b396), (rr b396)]) := fun t k => by
   refine c409 t ?_
   show S_ p e below T409 m 135 #[vi n_, vi p_, vi q_, vi r_, vi v_, vi 4, vi ch0, vi ch1, vi ch2, vi ch3, u_, u_, u_] [(rr b396)] t
   refine XS.dup X409.here hx rfl (hb hby at_135) rfl rfl ?_
   show S_ p e below T409 m 136 #[vi n_, vi p_, vi q_, vi r_, vi v_, vi 4, vi ch0, vi ch1, vi ch2, vi ch3, u_, u_, u_] [(rr b396), (rr b396)] t
   refine XS.iconst X409.here hx rfl (hb hby at_136) ?_
   show S_ p e below T409 m 137 #[vi n_, vi p_, vi q_, vi r_, vi v_, vi 4, vi ch0, vi ch1, vi ch2, vi ch3, u_, u_, u_] [(ii 2), (rr b396), (rr b396)] t
   refine XS.iload X409.here hx rfl (hb hby at_137) rfl ?_
   exact k
  obtain ⟨T416, h416, X416, e416, W416, f419, o417, N418, c416⟩ := kstC X409 hx hZ e409 f413 (j := (2 : Int32)) (by decide) (by decide) 2 rfl (Nat.le_of_ble_eq_true rfl) c415 rfl rfl (hb hby at_139) o410 N411 g396
  rw [hg4] at W416 f419
  have f420 : Arv Z h416 b396 k396 .char (4 : Int32) [(.int ch0), (.int ch1), (.int ch2), (ii 0)] (ii 0) := f419
  have kp421 := kp414.wr W416 (Or.inr z400)
  have c422 : Kt p e below T416 st0 (mkF m 144 #[vi n_, vi p_, vi q_, vi r_, vi v_, vi 4, vi ch0, vi ch1, vi ch2, vi ch3, u_, u_, u_] [(.int ch3), (ii 3), (rr b396), (rr b396)]) := fun t k => by
   refine c416 t ?_
   show S_ p e below T416 m 140 #[vi n_, vi p_, vi q_, vi r_, vi v_, vi 4, vi ch0, vi ch1, vi ch2, vi ch3, u_, u_, u_] [(rr b396)] t
   refine XS.dup X416.here hx rfl (hb hby at_140) rfl rfl ?_
   show S_ p e below T416 m 141 #[vi n_, vi p_, vi q_, vi r_, vi v_, vi 4, vi ch0, vi ch1, vi ch2, vi ch3, u_, u_, u_] [(rr b396), (rr b396)] t
   refine XS.iconst X416.here hx rfl (hb hby at_141) ?_
   show S_ p e below T416 m 142 #[vi n_, vi p_, vi q_, vi r_, vi v_, vi 4, vi ch0, vi ch1, vi ch2, vi ch3, u_, u_, u_] [(ii 3), (rr b396), (rr b396)] t
   refine XS.iload X416.here hx rfl (hb hby at_142) rfl ?_
   exact k
  obtain ⟨T423, h423, X423, e423, W423, f426, o424, N425, c423⟩ := kstC X416 hx hZ e416 f420 (j := (3 : Int32)) (by decide) (by decide) 3 rfl (Nat.le_of_ble_eq_true rfl) c422 rfl rfl (hb hby at_144) o417 N418 g396
  rw [hg5] at W423 f426
  have f427 : Arv Z h423 b396 k396 .char (4 : Int32) [(.int ch0), (.int ch1), (.int ch2), (.int ch3)] (ii 0) := f426
  have kp428 := kp421.wr W423 (Or.inr z400)
  have c429 : Kt p e below T423 st0 (mkF m 147 #[vi n_, vi p_, vi q_, vi r_, vi v_, vi 4, vi ch0, vi ch1, vi ch2, vi ch3, vr b396, u_, u_] []) := fun t k => by
   refine c423 t ?_
   show S_ p e below T423 m 145 #[vi n_, vi p_, vi q_, vi r_, vi v_, vi 4, vi ch0, vi ch1, vi ch2, vi ch3, u_, u_, u_] [(rr b396)] t
   refine XS.astore X423.here hx rfl (hb hby at_145) rfl rfl (l' := #[vi n_, vi p_, vi q_, vi r_, vi v_, vi 4, vi ch0, vi ch1, vi ch2, vi ch3, vr b396, u_, u_]) rfl ?_
   exact k
  obtain ⟨b430, T430, h430, z430, g430, X430, e430, E430, o431, A430, D430, U430, c430⟩ := knew X423 hx hZ hown (w3 hw) (w4 hw) (w5 hw) e423 c429 rfl (hb hby at_147) (by decide) (by decide) o424
  have kp432 := kp428.ext E430
  have z433 := Nat.le_trans kp428.1 z430
  have c434 : Kt p e below T430 st0 (mkF m 153 #[vi n_, vi p_, vi q_, vi r_, vi v_, vi 4, vi ch0, vi ch1, vi ch2, vi ch3, vr b396, u_, u_] [(rr b396), (rr b430), (rr b430)]) := fun t k => by
   refine c430 t ?_
   show S_ p e below T430 m 150 #[vi n_, vi p_, vi q_, vi r_, vi v_, vi 4, vi ch0, vi ch1, vi ch2, vi ch3, vr b396, u_, u_] [(rr b430)] t
   refine XS.dup X430.here hx rfl (hb hby at_150) rfl rfl ?_
   show S_ p e below T430 m 151 #[vi n_, vi p_, vi q_, vi r_, vi v_, vi 4, vi ch0, vi ch1, vi ch2, vi ch3, vr b396, u_, u_] [(rr b430), (rr b430)] t
   refine XS.aload X430.here hx rfl (hb hby at_151) rfl rfl ?_
   exact k
  obtain ⟨_, T435, L435, X435, hQ435, c435⟩ := kspec X430 hx hZ hown (w6 hw) (w7 hw) (w5 hw) (w8 hw) (rm_str1a_4 l Z a0 hw [] b430 b396 k396 si1_ ch0 ch1 ch2 ch3 h430 n0 o431 A430 (show Fld Z h430 b430 nm0 "value" "[B" .null from D430 (Or.inr (w18 hw)) (ty := (.array .byte)) (by decide)) (show Fld Z h430 b430 nm0 "coder" "B" (ii 0) from D430 (Or.inr (w19 hw)) (ty := .byte) (by decide)) g430 (f427.ext E430) ZS0_ sn4_ ZS2_ ZS3_ ZS4_ hg2 hg3 hg4 hg5) e430 c434 hml pd_pACrV b430 [(rr b396)] [(rr b430)] 1 (hb hby at_153) rfl rfl rfl rfl rfl rfl
  rcases hQ435 with hQ435 | hQ435
  ·obtain ⟨rfl, N436q, K437, p438, p439, b440, k441, p442, p443, p444, p445, p446, p447, p448, p449⟩ := hQ435
   have N436 := Fr.app N425 N436q
   have o450 := o431.keep K437 (allS g430 all0)
   have kp451 := kp432.trans K437 (allS (Or.inr z433) all0)
   have z452 := Nat.le_trans kp432.1 p445
   have g453 := Nat.le_trans (Nat.le_trans (Nat.le_of_eq o431.1.symm) o431.2.1) p445
   have c454 : Kt p e below T435 st0 (mkF m 169 #[vi n_, vi p_, vi q_, vi r_, vi v_, vi 4, vi ch0, vi ch1, vi ch2, vi ch3, vr b396, vr b430, u_] [(ii 128), (.int ch0)]) := fun t k => by
    refine c435 t ?_
    show S_ p e below T435 m 156 #[vi n_, vi p_, vi q_, vi r_, vi v_, vi 4, vi ch0, vi ch1, vi ch2, vi ch3, vr b396, u_, u_] [(rr b430)] t
    refine XS.astore X435.here hx rfl (hb hby at_156) rfl rfl (l' := #[vi n_, vi p_, vi q_, vi r_, vi v_, vi 4, vi ch0, vi ch1, vi ch2, vi ch3, vr b396, vr b430, u_]) rfl ?_
    show S_ p e below T435 m 158 #[vi n_, vi p_, vi q_, vi r_, vi v_, vi 4, vi ch0, vi ch1, vi ch2, vi ch3, vr b396, vr b430, u_] [] t
    refine XS.iload X435.here hx rfl (hb hby at_158) rfl ?_
    show S_ p e below T435 m 160 #[vi n_, vi p_, vi q_, vi r_, vi v_, vi 4, vi ch0, vi ch1, vi ch2, vi ch3, vr b396, vr b430, u_] [(ii 4)] t
    refine XS.iconst X435.here hx rfl (hb hby at_160) ?_
    show S_ p e below T435 m 161 #[vi n_, vi p_, vi q_, vi r_, vi v_, vi 4, vi ch0, vi ch1, vi ch2, vi ch3, vr b396, vr b430, u_] [(ii 1), (ii 4)] t
    refine XS.icmpNo X435.here hx rfl (hb hby at_161) rfl rfl ?_
    show S_ p e below T435 m 164 #[vi n_, vi p_, vi q_, vi r_, vi v_, vi 4, vi ch0, vi ch1, vi ch2, vi ch3, vr b396, vr b430, u_] [] t
    refine XS.iload X435.here hx rfl (hb hby at_164) rfl ?_
    show S_ p e below T435 m 166 #[vi n_, vi p_, vi q_, vi r_, vi v_, vi 4, vi ch0, vi ch1, vi ch2, vi ch3, vr b396, vr b430, u_] [(.int ch0)] t
    refine XS.sipush X435.here hx rfl (hb hby at_166) ?_
    exact k
   by_cases hc455 : ch0 < (128 : Int32)
   ·have c456 : Kt p e below T435 st0 (mkF m 183 #[vi n_, vi p_, vi q_, vi r_, vi v_, vi 4, vi ch0, vi ch1, vi ch2, vi ch3, vr b396, vr b430, u_] [(ii 128), (.int ch1)]) := fun t k => by
     refine c454 t ?_
     show S_ p e below T435 m 169 #[vi n_, vi p_, vi q_, vi r_, vi v_, vi 4, vi ch0, vi ch1, vi ch2, vi ch3, vr b396, vr b430, u_] [(ii 128), (.int ch0)] t
     refine XS.icmpNo X435.here hx rfl (hb hby at_169) rfl (tlt hc455).2.1 ?_
     show S_ p e below T435 m 172 #[vi n_, vi p_, vi q_, vi r_, vi v_, vi 4, vi ch0, vi ch1, vi ch2, vi ch3, vr b396, vr b430, u_] [] t
     refine XS.iload X435.here hx rfl (hb hby at_172) rfl ?_
     show S_ p e below T435 m 174 #[vi n_, vi p_, vi q_, vi r_, vi v_, vi 4, vi ch0, vi ch1, vi ch2, vi ch3, vr b396, vr b430, u_] [(ii 4)] t
     refine XS.iconst X435.here hx rfl (hb hby at_174) ?_
     show S_ p e below T435 m 175 #[vi n_, vi p_, vi q_, vi r_, vi v_, vi 4, vi ch0, vi ch1, vi ch2, vi ch3, vr b396, vr b430, u_] [(ii 2), (ii 4)] t
     refine XS.icmpNo X435.here hx rfl (hb hby at_175) rfl rfl ?_
     show S_ p e below T435 m 178 #[vi n_, vi p_, vi q_, vi r_, vi v_, vi 4, vi ch0, vi ch1, vi ch2, vi ch3, vr b396, vr b430, u_] [] t
     refine XS.iload X435.here hx rfl (hb hby at_178) rfl ?_
     show S_ p e below T435 m 180 #[vi n_, vi p_, vi q_, vi r_, vi v_, vi 4, vi ch0, vi ch1, vi ch2, vi ch3, vr b396, vr b430, u_] [(.int ch1)] t
     refine XS.sipush X435.here hx rfl (hb hby at_180) ?_
     exact k
    by_cases hc457 : ch1 < (128 : Int32)
    ·have c458 : Kt p e below T435 st0 (mkF m 197 #[vi n_, vi p_, vi q_, vi r_, vi v_, vi 4, vi ch0, vi ch1, vi ch2, vi ch3, vr b396, vr b430, u_] [(ii 128), (.int ch2)]) := fun t k => by
      refine c456 t ?_
      show S_ p e below T435 m 183 #[vi n_, vi p_, vi q_, vi r_, vi v_, vi 4, vi ch0, vi ch1, vi ch2, vi ch3, vr b396, vr b430, u_] [(ii 128), (.int ch1)] t
      refine XS.icmpNo X435.here hx rfl (hb hby at_183) rfl (tlt hc457).2.1 ?_
      show S_ p e below T435 m 186 #[vi n_, vi p_, vi q_, vi r_, vi v_, vi 4, vi ch0, vi ch1, vi ch2, vi ch3, vr b396, vr b430, u_] [] t
      refine XS.iload X435.here hx rfl (hb hby at_186) rfl ?_
      show S_ p e below T435 m 188 #[vi n_, vi p_, vi q_, vi r_, vi v_, vi 4, vi ch0, vi ch1, vi ch2, vi ch3, vr b396, vr b430, u_] [(ii 4)] t
      refine XS.iconst X435.here hx rfl (hb hby at_188) ?_
      show S_ p e below T435 m 189 #[vi n_, vi p_, vi q_, vi r_, vi v_, vi 4, vi ch0, vi ch1, vi ch2, vi ch3, vr b396, vr b430, u_] [(ii 3), (ii 4)] t
      refine XS.icmpNo X435.here hx rfl (hb hby at_189) rfl rfl ?_
      show S_ p e below T435 m 192 #[vi n_, vi p_, vi q_, vi r_, vi v_, vi 4, vi ch0, vi ch1, vi ch2, vi ch3, vr b396, vr b430, u_] [] t
      refine XS.iload X435.here hx rfl (hb hby at_192) rfl ?_
      show S_ p e below T435 m 194 #[vi n_, vi p_, vi q_, vi r_, vi v_, vi 4, vi ch0, vi ch1, vi ch2, vi ch3, vr b396, vr b430, u_] [(.int ch2)] t
      refine XS.sipush X435.here hx rfl (hb hby at_194) ?_
      exact k
     by_cases hc459 : ch2 < (128 : Int32)
     ·have c460 : Kt p e below T435 st0 (mkF m 211 #[vi n_, vi p_, vi q_, vi r_, vi v_, vi 4, vi ch0, vi ch1, vi ch2, vi ch3, vr b396, vr b430, u_] [(ii 128), (.int ch3)]) := fun t k => by
       refine c458 t ?_
       show S_ p e below T435 m 197 #[vi n_, vi p_, vi q_, vi r_, vi v_, vi 4, vi ch0, vi ch1, vi ch2, vi ch3, vr b396, vr b430, u_] [(ii 128), (.int ch2)] t
       refine XS.icmpNo X435.here hx rfl (hb hby at_197) rfl (tlt hc459).2.1 ?_
       show S_ p e below T435 m 200 #[vi n_, vi p_, vi q_, vi r_, vi v_, vi 4, vi ch0, vi ch1, vi ch2, vi ch3, vr b396, vr b430, u_] [] t
       refine XS.iload X435.here hx rfl (hb hby at_200) rfl ?_
       show S_ p e below T435 m 202 #[vi n_, vi p_, vi q_, vi r_, vi v_, vi 4, vi ch0, vi ch1, vi ch2, vi ch3, vr b396, vr b430, u_] [(ii 4)] t
       refine XS.iconst X435.here hx rfl (hb hby at_202) ?_
       show S_ p e below T435 m 203 #[vi n_, vi p_, vi q_, vi r_, vi v_, vi 4, vi ch0, vi ch1, vi ch2, vi ch3, vr b396, vr b430, u_] [(ii 4), (ii 4)] t
       refine XS.icmpNo X435.here hx rfl (hb hby at_203) rfl rfl ?_
       show S_ p e below T435 m 206 #[vi n_, vi p_, vi q_, vi r_, vi v_, vi 4, vi ch0, vi ch1, vi ch2, vi ch3, vr b396, vr b430, u_] [] t
       refine XS.iload X435.here hx rfl (hb hby at_206) rfl ?_
       show S_ p e below T435 m 208 #[vi n_, vi p_, vi q_, vi r_, vi v_, vi 4, vi ch0, vi ch1, vi ch2, vi ch3, vr b396, vr b430, u_] [(.int ch3)] t
       refine XS.sipush X435.here hx rfl (hb hby at_208) ?_
       exact k
      by_cases hc461 : ch3 < (128 : Int32)
      ·have c462 : Kt p e below T435 st0 (mkF m 223 #[vi n_, vi p_, vi q_, vi r_, vi v_, vi 4, vi ch0, vi ch1, vi ch2, vi ch3, vr b396, vr b430, vi 1] [(rr b430)]) := fun t k => by
        refine c460 t ?_
        show S_ p e below T435 m 211 #[vi n_, vi p_, vi q_, vi r_, vi v_, vi 4, vi ch0, vi ch1, vi ch2, vi ch3, vr b396, vr b430, u_] [(ii 128), (.int ch3)] t
        refine XS.icmpNo X435.here hx rfl (hb hby at_211) rfl (tlt hc461).2.1 ?_
        show S_ p e below T435 m 214 #[vi n_, vi p_, vi q_, vi r_, vi v_, vi 4, vi ch0, vi ch1, vi ch2, vi ch3, vr b396, vr b430, u_] [] t
        refine XS.iconst X435.here hx rfl (hb hby at_214) ?_
        show S_ p e below T435 m 215 #[vi n_, vi p_, vi q_, vi r_, vi v_, vi 4, vi ch0, vi ch1, vi ch2, vi ch3, vr b396, vr b430, u_] [(ii 1)] t
        refine yG X435.here hx rfl 215 219 rfl (hb hby at_215) ?_
        show S_ p e below T435 m 219 #[vi n_, vi p_, vi q_, vi r_, vi v_, vi 4, vi ch0, vi ch1, vi ch2, vi ch3, vr b396, vr b430, u_] [(ii 1)] t
        refine XS.istore X435.here hx rfl (hb hby at_219) rfl (l' := #[vi n_, vi p_, vi q_, vi r_, vi v_, vi 4, vi ch0, vi ch1, vi ch2, vi ch3, vr b396, vr b430, vi 1]) rfl ?_
        show S_ p e below T435 m 221 #[vi n_, vi p_, vi q_, vi r_, vi v_, vi 4, vi ch0, vi ch1, vi ch2, vi ch3, vr b396, vr b430, vi 1] [] t
        refine XS.aload X435.here hx rfl (hb hby at_221) rfl rfl ?_
        exact k
       obtain ⟨_, T463, L463, X463, hQ463, c463⟩ := kstat X435 hx hZ hown (w24 hw) (w25 hw) (w26 hw) (w27 hw) (rm_ascL_4 l Z a0 hw [] b430 b440 k441 si1_ sv12_ ch0 ch1 ch2 ch3 T435.heap n0 o450 p438 p439 p442 p443 ZS0_ sn4_ ZS6_ sv12_r hg2 hg3 hg4 hg5 p446 p447 p448 p449) rfl c462 hml pd_pLjava_lang_String_rZ [(rr b430)] [] 0 (hb hby at_223) rfl rfl rfl rfl rfl rfl
       rcases hQ463 with hQ463 | hQ463
       ·obtain ⟨rfl, N464q, K465, p466, p467, p468, p469⟩ := hQ463
        have N464 := Fr.app N436 N464q
        obtain ⟨fs, hr, hrun, hended, hRW⟩ := X463.leaveW hS0 (by first | exact (Nat.le_trans (Nat.zero_le _) (Nat.le_trans (Nat.le_trans (Nat.le_trans (Nat.le_trans (Nat.le_trans (Nat.le_trans E396.1 (Keep.of_wr W402).1) (Keep.of_wr W409).1) (Keep.of_wr W416).1) (Keep.of_wr W423).1) E430.1) K437.1)) | (rw [K465]; exact (Nat.le_trans (Nat.zero_le _) (Nat.le_trans (Nat.le_trans (Nat.le_trans (Nat.le_trans (Nat.le_trans (Nat.le_trans E396.1 (Keep.of_wr W402).1) (Keep.of_wr W409).1) (Keep.of_wr W416).1) (Keep.of_wr W423).1) E430.1) K437.1)))) (v := some (ii 1)) (fun h => by rw [Bd.returns] at h; cases h)
        refine ⟨_, _, c463 _ ?_, hrun, hended, _, _, rfl, ?_, hRW.1, hRW.2.1, hRW.2.2.1, hRW.2.2.2.mono (by decide) (by decide)⟩
        ·show S_ p e below T463 m 226 #[vi n_, vi p_, vi q_, vi r_, vi v_, vi 4, vi ch0, vi ch1, vi ch2, vi ch3, vr b396, vr b430, vi 1] [(ii 1)] _
         refine XS.iload X463.here hx rfl (hb hby at_226) rfl ?_
         show S_ p e below T463 m 228 #[vi n_, vi p_, vi q_, vi r_, vi v_, vi 4, vi ch0, vi ch1, vi ch2, vi ch3, vr b396, vr b430, vi 1] [(ii 1), (ii 1)] _
         refine XS.icmpNo X463.here hx rfl (hb hby at_228) rfl rfl ?_
         show S_ p e below T463 m 231 #[vi n_, vi p_, vi q_, vi r_, vi v_, vi 4, vi ch0, vi ch1, vi ch2, vi ch3, vr b396, vr b430, vi 1] [] _
         refine XS.iconst X463.here hx rfl (hb hby at_231) ?_
         show S_ p e below T463 m 232 #[vi n_, vi p_, vi q_, vi r_, vi v_, vi 4, vi ch0, vi ch1, vi ch2, vi ch3, vr b396, vr b430, vi 1] [(ii 1)] _
         refine yG X463.here hx rfl 232 236 rfl (hb hby at_232) ?_
         show S_ p e below T463 m 236 #[vi n_, vi p_, vi q_, vi r_, vi v_, vi 4, vi ch0, vi ch1, vi ch2, vi ch3, vr b396, vr b430, vi 1] [(ii 1)] _
         exact retN X463 hx (t := .boolean) Bd.returns (by simp) (hb hby at_236) hr
        ·show Q_law Z n_ p_ q_ r_ v_ si1_ sv12_ h0 n0 _ T463.heap _
         rw [K465]
         exact ⟨rfl, N464, kp451⟩
       ·obtain ⟨rfl, N470q, K471, p472⟩ := hQ463
        have N470 := Fr.app N436 N470q
        exact absurd ⟨hc455, hc457, hc459, hc461⟩ p472
      ·have c473 : Kt p e below T435 st0 (mkF m 223 #[vi n_, vi p_, vi q_, vi r_, vi v_, vi 4, vi ch0, vi ch1, vi ch2, vi ch3, vr b396, vr b430, vi 0] [(rr b430)]) := fun t k => by
        refine c460 t ?_
        show S_ p e below T435 m 211 #[vi n_, vi p_, vi q_, vi r_, vi v_, vi 4, vi ch0, vi ch1, vi ch2, vi ch3, vr b396, vr b430, u_] [(ii 128), (.int ch3)] t
        refine yC X435.here hx rfl 211 218 rfl (hb hby at_211) rfl (flt hc461).2.1 ?_
        show S_ p e below T435 m 218 #[vi n_, vi p_, vi q_, vi r_, vi v_, vi 4, vi ch0, vi ch1, vi ch2, vi ch3, vr b396, vr b430, u_] [] t
        refine XS.iconst X435.here hx rfl (hb hby at_218) ?_
        show S_ p e below T435 m 219 #[vi n_, vi p_, vi q_, vi r_, vi v_, vi 4, vi ch0, vi ch1, vi ch2, vi ch3, vr b396, vr b430, u_] [(ii 0)] t
        refine XS.istore X435.here hx rfl (hb hby at_219) rfl (l' := #[vi n_, vi p_, vi q_, vi r_, vi v_, vi 4, vi ch0, vi ch1, vi ch2, vi ch3, vr b396, vr b430, vi 0]) rfl ?_
        show S_ p e below T435 m 221 #[vi n_, vi p_, vi q_, vi r_, vi v_, vi 4, vi ch0, vi ch1, vi ch2, vi ch3, vr b396, vr b430, vi 0] [] t
        refine XS.aload X435.here hx rfl (hb hby at_221) rfl rfl ?_
        exact k
       obtain ⟨_, T474, L474, X474, hQ474, c474⟩ := kstat X435 hx hZ hown (w24 hw) (w25 hw) (w26 hw) (w27 hw) (rm_ascL_4 l Z a0 hw [] b430 b440 k441 si1_ sv12_ ch0 ch1 ch2 ch3 T435.heap n0 o450 p438 p439 p442 p443 ZS0_ sn4_ ZS6_ sv12_r hg2 hg3 hg4 hg5 p446 p447 p448 p449) rfl c473 hml pd_pLjava_lang_String_rZ [(rr b430)] [] 0 (hb hby at_223) rfl rfl rfl rfl rfl rfl
       rcases hQ474 with hQ474 | hQ474
       ·obtain ⟨rfl, N475q, K476, p477, p478, p479, p480⟩ := hQ474
        have N475 := Fr.app N436 N475q
        exact absurd p480 hc461
       ·obtain ⟨rfl, N481q, K482, p483⟩ := hQ474
        have N481 := Fr.app N436 N481q
        obtain ⟨fs, hr, hrun, hended, hRW⟩ := X474.leaveW hS0 (by first | exact (Nat.le_trans (Nat.zero_le _) (Nat.le_trans (Nat.le_trans (Nat.le_trans (Nat.le_trans (Nat.le_trans (Nat.le_trans E396.1 (Keep.of_wr W402).1) (Keep.of_wr W409).1) (Keep.of_wr W416).1) (Keep.of_wr W423).1) E430.1) K437.1)) | (rw [K482]; exact (Nat.le_trans (Nat.zero_le _) (Nat.le_trans (Nat.le_trans (Nat.le_trans (Nat.le_trans (Nat.le_trans (Nat.le_trans E396.1 (Keep.of_wr W402).1) (Keep.of_wr W409).1) (Keep.of_wr W416).1) (Keep.of_wr W423).1) E430.1) K437.1)))) (v := some (ii 1)) (fun h => by rw [Bd.returns] at h; cases h)
        refine ⟨_, _, c474 _ ?_, hrun, hended, _, _, rfl, ?_, hRW.1, hRW.2.1, hRW.2.2.1, hRW.2.2.2.mono (by decide) (by decide)⟩
        ·show S_ p e below T474 m 226 #[vi n_, vi p_, vi q_, vi r_, vi v_, vi 4, vi ch0, vi ch1, vi ch2, vi ch3, vr b396, vr b430, vi 0] [(ii 0)] _
         refine XS.iload X474.here hx rfl (hb hby at_226) rfl ?_
         show S_ p e below T474 m 228 #[vi n_, vi p_, vi q_, vi r_, vi v_, vi 4, vi ch0, vi ch1, vi ch2, vi ch3, vr b396, vr b430, vi 0] [(ii 0), (ii 0)] _
         refine XS.icmpNo X474.here hx rfl (hb hby at_228) rfl rfl ?_
         show S_ p e below T474 m 231 #[vi n_, vi p_, vi q_, vi r_, vi v_, vi 4, vi ch0, vi ch1, vi ch2, vi ch3, vr b396, vr b430, vi 0] [] _
         refine XS.iconst X474.here hx rfl (hb hby at_231) ?_
         show S_ p e below T474 m 232 #[vi n_, vi p_, vi q_, vi r_, vi v_, vi 4, vi ch0, vi ch1, vi ch2, vi ch3, vr b396, vr b430, vi 0] [(ii 1)] _
         refine yG X474.here hx rfl 232 236 rfl (hb hby at_232) ?_
         show S_ p e below T474 m 236 #[vi n_, vi p_, vi q_, vi r_, vi v_, vi 4, vi ch0, vi ch1, vi ch2, vi ch3, vr b396, vr b430, vi 0] [(ii 1)] _
         exact retN X474 hx (t := .boolean) Bd.returns (by simp) (hb hby at_236) hr
        ·show Q_law Z n_ p_ q_ r_ v_ si1_ sv12_ h0 n0 _ T474.heap _
         rw [K482]
         exact ⟨rfl, N481, kp451⟩
     ·have c484 : Kt p e below T435 st0 (mkF m 223 #[vi n_, vi p_, vi q_, vi r_, vi v_, vi 4, vi ch0, vi ch1, vi ch2, vi ch3, vr b396, vr b430, vi 0] [(rr b430)]) := fun t k => by
       refine c458 t ?_
       show S_ p e below T435 m 197 #[vi n_, vi p_, vi q_, vi r_, vi v_, vi 4, vi ch0, vi ch1, vi ch2, vi ch3, vr b396, vr b430, u_] [(ii 128), (.int ch2)] t
       refine yC X435.here hx rfl 197 218 rfl (hb hby at_197) rfl (flt hc459).2.1 ?_
       show S_ p e below T435 m 218 #[vi n_, vi p_, vi q_, vi r_, vi v_, vi 4, vi ch0, vi ch1, vi ch2, vi ch3, vr b396, vr b430, u_] [] t
       refine XS.iconst X435.here hx rfl (hb hby at_218) ?_
       show S_ p e below T435 m 219 #[vi n_, vi p_, vi q_, vi r_, vi v_, vi 4, vi ch0, vi ch1, vi ch2, vi ch3, vr b396, vr b430, u_] [(ii 0)] t
       refine XS.istore X435.here hx rfl (hb hby at_219) rfl (l' := #[vi n_, vi p_, vi q_, vi r_, vi v_, vi 4, vi ch0, vi ch1, vi ch2, vi ch3, vr b396, vr b430, vi 0]) rfl ?_
       show S_ p e below T435 m 221 #[vi n_, vi p_, vi q_, vi r_, vi v_, vi 4, vi ch0, vi ch1, vi ch2, vi ch3, vr b396, vr b430, vi 0] [] t
       refine XS.aload X435.here hx rfl (hb hby at_221) rfl rfl ?_
       exact k
      obtain ⟨_, T485, L485, X485, hQ485, c485⟩ := kstat X435 hx hZ hown (w24 hw) (w25 hw) (w26 hw) (w27 hw) (rm_ascL_4 l Z a0 hw [] b430 b440 k441 si1_ sv12_ ch0 ch1 ch2 ch3 T435.heap n0 o450 p438 p439 p442 p443 ZS0_ sn4_ ZS6_ sv12_r hg2 hg3 hg4 hg5 p446 p447 p448 p449) rfl c484 hml pd_pLjava_lang_String_rZ [(rr b430)] [] 0 (hb hby at_223) rfl rfl rfl rfl rfl rfl
      rcases hQ485 with hQ485 | hQ485
      ·obtain ⟨rfl, N486q, K487, p488, p489, p490, p491⟩ := hQ485
       have N486 := Fr.app N436 N486q
       exact absurd p490 hc459
      ·obtain ⟨rfl, N492q, K493, p494⟩ := hQ485
       have N492 := Fr.app N436 N492q
       obtain ⟨fs, hr, hrun, hended, hRW⟩ := X485.leaveW hS0 (by first | exact (Nat.le_trans (Nat.zero_le _) (Nat.le_trans (Nat.le_trans (Nat.le_trans (Nat.le_trans (Nat.le_trans (Nat.le_trans E396.1 (Keep.of_wr W402).1) (Keep.of_wr W409).1) (Keep.of_wr W416).1) (Keep.of_wr W423).1) E430.1) K437.1)) | (rw [K493]; exact (Nat.le_trans (Nat.zero_le _) (Nat.le_trans (Nat.le_trans (Nat.le_trans (Nat.le_trans (Nat.le_trans (Nat.le_trans E396.1 (Keep.of_wr W402).1) (Keep.of_wr W409).1) (Keep.of_wr W416).1) (Keep.of_wr W423).1) E430.1) K437.1)))) (v := some (ii 1)) (fun h => by rw [Bd.returns] at h; cases h)
       refine ⟨_, _, c485 _ ?_, hrun, hended, _, _, rfl, ?_, hRW.1, hRW.2.1, hRW.2.2.1, hRW.2.2.2.mono (by decide) (by decide)⟩
       ·show S_ p e below T485 m 226 #[vi n_, vi p_, vi q_, vi r_, vi v_, vi 4, vi ch0, vi ch1, vi ch2, vi ch3, vr b396, vr b430, vi 0] [(ii 0)] _
        refine XS.iload X485.here hx rfl (hb hby at_226) rfl ?_
        show S_ p e below T485 m 228 #[vi n_, vi p_, vi q_, vi r_, vi v_, vi 4, vi ch0, vi ch1, vi ch2, vi ch3, vr b396, vr b430, vi 0] [(ii 0), (ii 0)] _
        refine XS.icmpNo X485.here hx rfl (hb hby at_228) rfl rfl ?_
        show S_ p e below T485 m 231 #[vi n_, vi p_, vi q_, vi r_, vi v_, vi 4, vi ch0, vi ch1, vi ch2, vi ch3, vr b396, vr b430, vi 0] [] _
        refine XS.iconst X485.here hx rfl (hb hby at_231) ?_
        show S_ p e below T485 m 232 #[vi n_, vi p_, vi q_, vi r_, vi v_, vi 4, vi ch0, vi ch1, vi ch2, vi ch3, vr b396, vr b430, vi 0] [(ii 1)] _
        refine yG X485.here hx rfl 232 236 rfl (hb hby at_232) ?_
        show S_ p e below T485 m 236 #[vi n_, vi p_, vi q_, vi r_, vi v_, vi 4, vi ch0, vi ch1, vi ch2, vi ch3, vr b396, vr b430, vi 0] [(ii 1)] _
        exact retN X485 hx (t := .boolean) Bd.returns (by simp) (hb hby at_236) hr
       ·show Q_law Z n_ p_ q_ r_ v_ si1_ sv12_ h0 n0 _ T485.heap _
        rw [K493]
        exact ⟨rfl, N492, kp451⟩
    ·have c495 : Kt p e below T435 st0 (mkF m 223 #[vi n_, vi p_, vi q_, vi r_, vi v_, vi 4, vi ch0, vi ch1, vi ch2, vi ch3, vr b396, vr b430, vi 0] [(rr b430)]) := fun t k => by
      refine c456 t ?_
      show S_ p e below T435 m 183 #[vi n_, vi p_, vi q_, vi r_, vi v_, vi 4, vi ch0, vi ch1, vi ch2, vi ch3, vr b396, vr b430, u_] [(ii 128), (.int ch1)] t
      refine yC X435.here hx rfl 183 218 rfl (hb hby at_183) rfl (flt hc457).2.1 ?_
      show S_ p e below T435 m 218 #[vi n_, vi p_, vi q_, vi r_, vi v_, vi 4, vi ch0, vi ch1, vi ch2, vi ch3, vr b396, vr b430, u_] [] t
      refine XS.iconst X435.here hx rfl (hb hby at_218) ?_
      show S_ p e below T435 m 219 #[vi n_, vi p_, vi q_, vi r_, vi v_, vi 4, vi ch0, vi ch1, vi ch2, vi ch3, vr b396, vr b430, u_] [(ii 0)] t
      refine XS.istore X435.here hx rfl (hb hby at_219) rfl (l' := #[vi n_, vi p_, vi q_, vi r_, vi v_, vi 4, vi ch0, vi ch1, vi ch2, vi ch3, vr b396, vr b430, vi 0]) rfl ?_
      show S_ p e below T435 m 221 #[vi n_, vi p_, vi q_, vi r_, vi v_, vi 4, vi ch0, vi ch1, vi ch2, vi ch3, vr b396, vr b430, vi 0] [] t
      refine XS.aload X435.here hx rfl (hb hby at_221) rfl rfl ?_
      exact k
     obtain ⟨_, T496, L496, X496, hQ496, c496⟩ := kstat X435 hx hZ hown (w24 hw) (w25 hw) (w26 hw) (w27 hw) (rm_ascL_4 l Z a0 hw [] b430 b440 k441 si1_ sv12_ ch0 ch1 ch2 ch3 T435.heap n0 o450 p438 p439 p442 p443 ZS0_ sn4_ ZS6_ sv12_r hg2 hg3 hg4 hg5 p446 p447 p448 p449) rfl c495 hml pd_pLjava_lang_String_rZ [(rr b430)] [] 0 (hb hby at_223) rfl rfl rfl rfl rfl rfl
     rcases hQ496 with hQ496 | hQ496
     ·obtain ⟨rfl, N497q, K498, p499, p500, p501, p502⟩ := hQ496
      have N497 := Fr.app N436 N497q
      exact absurd p500 hc457
     ·obtain ⟨rfl, N503q, K504, p505⟩ := hQ496
      have N503 := Fr.app N436 N503q
      obtain ⟨fs, hr, hrun, hended, hRW⟩ := X496.leaveW hS0 (by first | exact (Nat.le_trans (Nat.zero_le _) (Nat.le_trans (Nat.le_trans (Nat.le_trans (Nat.le_trans (Nat.le_trans (Nat.le_trans E396.1 (Keep.of_wr W402).1) (Keep.of_wr W409).1) (Keep.of_wr W416).1) (Keep.of_wr W423).1) E430.1) K437.1)) | (rw [K504]; exact (Nat.le_trans (Nat.zero_le _) (Nat.le_trans (Nat.le_trans (Nat.le_trans (Nat.le_trans (Nat.le_trans (Nat.le_trans E396.1 (Keep.of_wr W402).1) (Keep.of_wr W409).1) (Keep.of_wr W416).1) (Keep.of_wr W423).1) E430.1) K437.1)))) (v := some (ii 1)) (fun h => by rw [Bd.returns] at h; cases h)
      refine ⟨_, _, c496 _ ?_, hrun, hended, _, _, rfl, ?_, hRW.1, hRW.2.1, hRW.2.2.1, hRW.2.2.2.mono (by decide) (by decide)⟩
      ·show S_ p e below T496 m 226 #[vi n_, vi p_, vi q_, vi r_, vi v_, vi 4, vi ch0, vi ch1, vi ch2, vi ch3, vr b396, vr b430, vi 0] [(ii 0)] _
       refine XS.iload X496.here hx rfl (hb hby at_226) rfl ?_
       show S_ p e below T496 m 228 #[vi n_, vi p_, vi q_, vi r_, vi v_, vi 4, vi ch0, vi ch1, vi ch2, vi ch3, vr b396, vr b430, vi 0] [(ii 0), (ii 0)] _
       refine XS.icmpNo X496.here hx rfl (hb hby at_228) rfl rfl ?_
       show S_ p e below T496 m 231 #[vi n_, vi p_, vi q_, vi r_, vi v_, vi 4, vi ch0, vi ch1, vi ch2, vi ch3, vr b396, vr b430, vi 0] [] _
       refine XS.iconst X496.here hx rfl (hb hby at_231) ?_
       show S_ p e below T496 m 232 #[vi n_, vi p_, vi q_, vi r_, vi v_, vi 4, vi ch0, vi ch1, vi ch2, vi ch3, vr b396, vr b430, vi 0] [(ii 1)] _
       refine yG X496.here hx rfl 232 236 rfl (hb hby at_232) ?_
       show S_ p e below T496 m 236 #[vi n_, vi p_, vi q_, vi r_, vi v_, vi 4, vi ch0, vi ch1, vi ch2, vi ch3, vr b396, vr b430, vi 0] [(ii 1)] _
       exact retN X496 hx (t := .boolean) Bd.returns (by simp) (hb hby at_236) hr
      ·show Q_law Z n_ p_ q_ r_ v_ si1_ sv12_ h0 n0 _ T496.heap _
       rw [K504]
       exact ⟨rfl, N503, kp451⟩
   ·have c506 : Kt p e below T435 st0 (mkF m 223 #[vi n_, vi p_, vi q_, vi r_, vi v_, vi 4, vi ch0, vi ch1, vi ch2, vi ch3, vr b396, vr b430, vi 0] [(rr b430)]) := fun t k => by
     refine c454 t ?_
     show S_ p e below T435 m 169 #[vi n_, vi p_, vi q_, vi r_, vi v_, vi 4, vi ch0, vi ch1, vi ch2, vi ch3, vr b396, vr b430, u_] [(ii 128), (.int ch0)] t
     refine yC X435.here hx rfl 169 218 rfl (hb hby at_169) rfl (flt hc455).2.1 ?_
     show S_ p e below T435 m 218 #[vi n_, vi p_, vi q_, vi r_, vi v_, vi 4, vi ch0, vi ch1, vi ch2, vi ch3, vr b396, vr b430, u_] [] t
     refine XS.iconst X435.here hx rfl (hb hby at_218) ?_
     show S_ p e below T435 m 219 #[vi n_, vi p_, vi q_, vi r_, vi v_, vi 4, vi ch0, vi ch1, vi ch2, vi ch3, vr b396, vr b430, u_] [(ii 0)] t
     refine XS.istore X435.here hx rfl (hb hby at_219) rfl (l' := #[vi n_, vi p_, vi q_, vi r_, vi v_, vi 4, vi ch0, vi ch1, vi ch2, vi ch3, vr b396, vr b430, vi 0]) rfl ?_
     show S_ p e below T435 m 221 #[vi n_, vi p_, vi q_, vi r_, vi v_, vi 4, vi ch0, vi ch1, vi ch2, vi ch3, vr b396, vr b430, vi 0] [] t
     refine XS.aload X435.here hx rfl (hb hby at_221) rfl rfl ?_
     exact k
    obtain ⟨_, T507, L507, X507, hQ507, c507⟩ := kstat X435 hx hZ hown (w24 hw) (w25 hw) (w26 hw) (w27 hw) (rm_ascL_4 l Z a0 hw [] b430 b440 k441 si1_ sv12_ ch0 ch1 ch2 ch3 T435.heap n0 o450 p438 p439 p442 p443 ZS0_ sn4_ ZS6_ sv12_r hg2 hg3 hg4 hg5 p446 p447 p448 p449) rfl c506 hml pd_pLjava_lang_String_rZ [(rr b430)] [] 0 (hb hby at_223) rfl rfl rfl rfl rfl rfl
    rcases hQ507 with hQ507 | hQ507
    ·obtain ⟨rfl, N508q, K509, p510, p511, p512, p513⟩ := hQ507
     have N508 := Fr.app N436 N508q
     exact absurd p510 hc455
    ·obtain ⟨rfl, N514q, K515, p516⟩ := hQ507
     have N514 := Fr.app N436 N514q
     obtain ⟨fs, hr, hrun, hended, hRW⟩ := X507.leaveW hS0 (by first | exact (Nat.le_trans (Nat.zero_le _) (Nat.le_trans (Nat.le_trans (Nat.le_trans (Nat.le_trans (Nat.le_trans (Nat.le_trans E396.1 (Keep.of_wr W402).1) (Keep.of_wr W409).1) (Keep.of_wr W416).1) (Keep.of_wr W423).1) E430.1) K437.1)) | (rw [K515]; exact (Nat.le_trans (Nat.zero_le _) (Nat.le_trans (Nat.le_trans (Nat.le_trans (Nat.le_trans (Nat.le_trans (Nat.le_trans E396.1 (Keep.of_wr W402).1) (Keep.of_wr W409).1) (Keep.of_wr W416).1) (Keep.of_wr W423).1) E430.1) K437.1)))) (v := some (ii 1)) (fun h => by rw [Bd.returns] at h; cases h)
     refine ⟨_, _, c507 _ ?_, hrun, hended, _, _, rfl, ?_, hRW.1, hRW.2.1, hRW.2.2.1, hRW.2.2.2.mono (by decide) (by decide)⟩
     ·show S_ p e below T507 m 226 #[vi n_, vi p_, vi q_, vi r_, vi v_, vi 4, vi ch0, vi ch1, vi ch2, vi ch3, vr b396, vr b430, vi 0] [(ii 0)] _
      refine XS.iload X507.here hx rfl (hb hby at_226) rfl ?_
      show S_ p e below T507 m 228 #[vi n_, vi p_, vi q_, vi r_, vi v_, vi 4, vi ch0, vi ch1, vi ch2, vi ch3, vr b396, vr b430, vi 0] [(ii 0), (ii 0)] _
      refine XS.icmpNo X507.here hx rfl (hb hby at_228) rfl rfl ?_
      show S_ p e below T507 m 231 #[vi n_, vi p_, vi q_, vi r_, vi v_, vi 4, vi ch0, vi ch1, vi ch2, vi ch3, vr b396, vr b430, vi 0] [] _
      refine XS.iconst X507.here hx rfl (hb hby at_231) ?_
      show S_ p e below T507 m 232 #[vi n_, vi p_, vi q_, vi r_, vi v_, vi 4, vi ch0, vi ch1, vi ch2, vi ch3, vr b396, vr b430, vi 0] [(ii 1)] _
      refine yG X507.here hx rfl 232 236 rfl (hb hby at_232) ?_
      show S_ p e below T507 m 236 #[vi n_, vi p_, vi q_, vi r_, vi v_, vi 4, vi ch0, vi ch1, vi ch2, vi ch3, vr b396, vr b430, vi 0] [(ii 1)] _
      exact retN X507 hx (t := .boolean) Bd.returns (by simp) (hb hby at_236) hr
     ·show Q_law Z n_ p_ q_ r_ v_ si1_ sv12_ h0 n0 _ T507.heap _
      rw [K515]
      exact ⟨rfl, N514, kp451⟩
  ·obtain ⟨rfl, N517q, K518, p519, p520, b521, k522, p523, p524, p525, p526⟩ := hQ435
   have N517 := Fr.app N425 N517q
   have o527 := o431.keep K518 (allS g430 all0)
   have kp528 := kp432.trans K518 (allS (Or.inr z433) all0)
   have z529 := Nat.le_trans kp432.1 p526
   have g530 := Nat.le_trans (Nat.le_trans (Nat.le_of_eq o431.1.symm) o431.2.1) p526
   have c531 : Kt p e below T435 st0 (mkF m 169 #[vi n_, vi p_, vi q_, vi r_, vi v_, vi 4, vi ch0, vi ch1, vi ch2, vi ch3, vr b396, vr b430, u_] [(ii 128), (.int ch0)]) := fun t k => by
    refine c435 t ?_
    show S_ p e below T435 m 156 #[vi n_, vi p_, vi q_, vi r_, vi v_, vi 4, vi ch0, vi ch1, vi ch2, vi ch3, vr b396, u_, u_] [(rr b430)] t
    refine XS.astore X435.here hx rfl (hb hby at_156) rfl rfl (l' := #[vi n_, vi p_, vi q_, vi r_, vi v_, vi 4, vi ch0, vi ch1, vi ch2, vi ch3, vr b396, vr b430, u_]) rfl ?_
    show S_ p e below T435 m 158 #[vi n_, vi p_, vi q_, vi r_, vi v_, vi 4, vi ch0, vi ch1, vi ch2, vi ch3, vr b396, vr b430, u_] [] t
    refine XS.iload X435.here hx rfl (hb hby at_158) rfl ?_
    show S_ p e below T435 m 160 #[vi n_, vi p_, vi q_, vi r_, vi v_, vi 4, vi ch0, vi ch1, vi ch2, vi ch3, vr b396, vr b430, u_] [(ii 4)] t
    refine XS.iconst X435.here hx rfl (hb hby at_160) ?_
    show S_ p e below T435 m 161 #[vi n_, vi p_, vi q_, vi r_, vi v_, vi 4, vi ch0, vi ch1, vi ch2, vi ch3, vr b396, vr b430, u_] [(ii 1), (ii 4)] t
    refine XS.icmpNo X435.here hx rfl (hb hby at_161) rfl rfl ?_
    show S_ p e below T435 m 164 #[vi n_, vi p_, vi q_, vi r_, vi v_, vi 4, vi ch0, vi ch1, vi ch2, vi ch3, vr b396, vr b430, u_] [] t
    refine XS.iload X435.here hx rfl (hb hby at_164) rfl ?_
    show S_ p e below T435 m 166 #[vi n_, vi p_, vi q_, vi r_, vi v_, vi 4, vi ch0, vi ch1, vi ch2, vi ch3, vr b396, vr b430, u_] [(.int ch0)] t
    refine XS.sipush X435.here hx rfl (hb hby at_166) ?_
    exact k
   by_cases hc532 : ch0 < (128 : Int32)
   ·have c533 : Kt p e below T435 st0 (mkF m 183 #[vi n_, vi p_, vi q_, vi r_, vi v_, vi 4, vi ch0, vi ch1, vi ch2, vi ch3, vr b396, vr b430, u_] [(ii 128), (.int ch1)]) := fun t k => by
     refine c531 t ?_
     show S_ p e below T435 m 169 #[vi n_, vi p_, vi q_, vi r_, vi v_, vi 4, vi ch0, vi ch1, vi ch2, vi ch3, vr b396, vr b430, u_] [(ii 128), (.int ch0)] t
     refine XS.icmpNo X435.here hx rfl (hb hby at_169) rfl (tlt hc532).2.1 ?_
     show S_ p e below T435 m 172 #[vi n_, vi p_, vi q_, vi r_, vi v_, vi 4, vi ch0, vi ch1, vi ch2, vi ch3, vr b396, vr b430, u_] [] t
     refine XS.iload X435.here hx rfl (hb hby at_172) rfl ?_
     show S_ p e below T435 m 174 #[vi n_, vi p_, vi q_, vi r_, vi v_, vi 4, vi ch0, vi ch1, vi ch2, vi ch3, vr b396, vr b430, u_] [(ii 4)] t
     refine XS.iconst X435.here hx rfl (hb hby at_174) ?_
     show S_ p e below T435 m 175 #[vi n_, vi p_, vi q_, vi r_, vi v_, vi 4, vi ch0, vi ch1, vi ch2, vi ch3, vr b396, vr b430, u_] [(ii 2), (ii 4)] t
     refine XS.icmpNo X435.here hx rfl (hb hby at_175) rfl rfl ?_
     show S_ p e below T435 m 178 #[vi n_, vi p_, vi q_, vi r_, vi v_, vi 4, vi ch0, vi ch1, vi ch2, vi ch3, vr b396, vr b430, u_] [] t
     refine XS.iload X435.here hx rfl (hb hby at_178) rfl ?_
     show S_ p e below T435 m 180 #[vi n_, vi p_, vi q_, vi r_, vi v_, vi 4, vi ch0, vi ch1, vi ch2, vi ch3, vr b396, vr b430, u_] [(.int ch1)] t
     refine XS.sipush X435.here hx rfl (hb hby at_180) ?_
     exact k
    by_cases hc534 : ch1 < (128 : Int32)
    ·have c535 : Kt p e below T435 st0 (mkF m 197 #[vi n_, vi p_, vi q_, vi r_, vi v_, vi 4, vi ch0, vi ch1, vi ch2, vi ch3, vr b396, vr b430, u_] [(ii 128), (.int ch2)]) := fun t k => by
      refine c533 t ?_
      show S_ p e below T435 m 183 #[vi n_, vi p_, vi q_, vi r_, vi v_, vi 4, vi ch0, vi ch1, vi ch2, vi ch3, vr b396, vr b430, u_] [(ii 128), (.int ch1)] t
      refine XS.icmpNo X435.here hx rfl (hb hby at_183) rfl (tlt hc534).2.1 ?_
      show S_ p e below T435 m 186 #[vi n_, vi p_, vi q_, vi r_, vi v_, vi 4, vi ch0, vi ch1, vi ch2, vi ch3, vr b396, vr b430, u_] [] t
      refine XS.iload X435.here hx rfl (hb hby at_186) rfl ?_
      show S_ p e below T435 m 188 #[vi n_, vi p_, vi q_, vi r_, vi v_, vi 4, vi ch0, vi ch1, vi ch2, vi ch3, vr b396, vr b430, u_] [(ii 4)] t
      refine XS.iconst X435.here hx rfl (hb hby at_188) ?_
      show S_ p e below T435 m 189 #[vi n_, vi p_, vi q_, vi r_, vi v_, vi 4, vi ch0, vi ch1, vi ch2, vi ch3, vr b396, vr b430, u_] [(ii 3), (ii 4)] t
      refine XS.icmpNo X435.here hx rfl (hb hby at_189) rfl rfl ?_
      show S_ p e below T435 m 192 #[vi n_, vi p_, vi q_, vi r_, vi v_, vi 4, vi ch0, vi ch1, vi ch2, vi ch3, vr b396, vr b430, u_] [] t
      refine XS.iload X435.here hx rfl (hb hby at_192) rfl ?_
      show S_ p e below T435 m 194 #[vi n_, vi p_, vi q_, vi r_, vi v_, vi 4, vi ch0, vi ch1, vi ch2, vi ch3, vr b396, vr b430, u_] [(.int ch2)] t
      refine XS.sipush X435.here hx rfl (hb hby at_194) ?_
      exact k
     by_cases hc536 : ch2 < (128 : Int32)
     ·have c537 : Kt p e below T435 st0 (mkF m 211 #[vi n_, vi p_, vi q_, vi r_, vi v_, vi 4, vi ch0, vi ch1, vi ch2, vi ch3, vr b396, vr b430, u_] [(ii 128), (.int ch3)]) := fun t k => by
       refine c535 t ?_
       show S_ p e below T435 m 197 #[vi n_, vi p_, vi q_, vi r_, vi v_, vi 4, vi ch0, vi ch1, vi ch2, vi ch3, vr b396, vr b430, u_] [(ii 128), (.int ch2)] t
       refine XS.icmpNo X435.here hx rfl (hb hby at_197) rfl (tlt hc536).2.1 ?_
       show S_ p e below T435 m 200 #[vi n_, vi p_, vi q_, vi r_, vi v_, vi 4, vi ch0, vi ch1, vi ch2, vi ch3, vr b396, vr b430, u_] [] t
       refine XS.iload X435.here hx rfl (hb hby at_200) rfl ?_
       show S_ p e below T435 m 202 #[vi n_, vi p_, vi q_, vi r_, vi v_, vi 4, vi ch0, vi ch1, vi ch2, vi ch3, vr b396, vr b430, u_] [(ii 4)] t
       refine XS.iconst X435.here hx rfl (hb hby at_202) ?_
       show S_ p e below T435 m 203 #[vi n_, vi p_, vi q_, vi r_, vi v_, vi 4, vi ch0, vi ch1, vi ch2, vi ch3, vr b396, vr b430, u_] [(ii 4), (ii 4)] t
       refine XS.icmpNo X435.here hx rfl (hb hby at_203) rfl rfl ?_
       show S_ p e below T435 m 206 #[vi n_, vi p_, vi q_, vi r_, vi v_, vi 4, vi ch0, vi ch1, vi ch2, vi ch3, vr b396, vr b430, u_] [] t
       refine XS.iload X435.here hx rfl (hb hby at_206) rfl ?_
       show S_ p e below T435 m 208 #[vi n_, vi p_, vi q_, vi r_, vi v_, vi 4, vi ch0, vi ch1, vi ch2, vi ch3, vr b396, vr b430, u_] [(.int ch3)] t
       refine XS.sipush X435.here hx rfl (hb hby at_208) ?_
       exact k
      by_cases hc538 : ch3 < (128 : Int32)
      ·have c539 : Kt p e below T435 st0 (mkF m 223 #[vi n_, vi p_, vi q_, vi r_, vi v_, vi 4, vi ch0, vi ch1, vi ch2, vi ch3, vr b396, vr b430, vi 1] [(rr b430)]) := fun t k => by
        refine c537 t ?_
        show S_ p e below T435 m 211 #[vi n_, vi p_, vi q_, vi r_, vi v_, vi 4, vi ch0, vi ch1, vi ch2, vi ch3, vr b396, vr b430, u_] [(ii 128), (.int ch3)] t
        refine XS.icmpNo X435.here hx rfl (hb hby at_211) rfl (tlt hc538).2.1 ?_
        show S_ p e below T435 m 214 #[vi n_, vi p_, vi q_, vi r_, vi v_, vi 4, vi ch0, vi ch1, vi ch2, vi ch3, vr b396, vr b430, u_] [] t
        refine XS.iconst X435.here hx rfl (hb hby at_214) ?_
        show S_ p e below T435 m 215 #[vi n_, vi p_, vi q_, vi r_, vi v_, vi 4, vi ch0, vi ch1, vi ch2, vi ch3, vr b396, vr b430, u_] [(ii 1)] t
        refine yG X435.here hx rfl 215 219 rfl (hb hby at_215) ?_
        show S_ p e below T435 m 219 #[vi n_, vi p_, vi q_, vi r_, vi v_, vi 4, vi ch0, vi ch1, vi ch2, vi ch3, vr b396, vr b430, u_] [(ii 1)] t
        refine XS.istore X435.here hx rfl (hb hby at_219) rfl (l' := #[vi n_, vi p_, vi q_, vi r_, vi v_, vi 4, vi ch0, vi ch1, vi ch2, vi ch3, vr b396, vr b430, vi 1]) rfl ?_
        show S_ p e below T435 m 221 #[vi n_, vi p_, vi q_, vi r_, vi v_, vi 4, vi ch0, vi ch1, vi ch2, vi ch3, vr b396, vr b430, vi 1] [] t
        refine XS.aload X435.here hx rfl (hb hby at_221) rfl rfl ?_
        exact k
       obtain ⟨_, T540, L540, X540, hQ540, c540⟩ := kstat X435 hx hZ hown (w24 hw) (w25 hw) (w26 hw) (w27 hw) (rm_ascU_4 l Z a0 hw [] b430 b521 k522 si1_ sv12_ ch0 ch1 ch2 ch3 T435.heap n0 o527 p519 p520 p523 p524 ZS0_ sn4_ ZS6_ sv12_r hg2 hg3 hg4 hg5 ZS2_ ZS3_ ZS4_) rfl c539 hml pd_pLjava_lang_String_rZ [(rr b430)] [] 0 (hb hby at_223) rfl rfl rfl rfl rfl rfl
       rcases hQ540 with hQ540 | hQ540
       ·obtain ⟨rfl, N541q, K542, p543, p544, p545, p546⟩ := hQ540
        have N541 := Fr.app N517 N541q
        obtain ⟨fs, hr, hrun, hended, hRW⟩ := X540.leaveW hS0 (by first | exact (Nat.le_trans (Nat.zero_le _) (Nat.le_trans (Nat.le_trans (Nat.le_trans (Nat.le_trans (Nat.le_trans (Nat.le_trans E396.1 (Keep.of_wr W402).1) (Keep.of_wr W409).1) (Keep.of_wr W416).1) (Keep.of_wr W423).1) E430.1) K518.1)) | (rw [K542]; exact (Nat.le_trans (Nat.zero_le _) (Nat.le_trans (Nat.le_trans (Nat.le_trans (Nat.le_trans (Nat.le_trans (Nat.le_trans E396.1 (Keep.of_wr W402).1) (Keep.of_wr W409).1) (Keep.of_wr W416).1) (Keep.of_wr W423).1) E430.1) K518.1)))) (v := some (ii 1)) (fun h => by rw [Bd.returns] at h; cases h)
        refine ⟨_, _, c540 _ ?_, hrun, hended, _, _, rfl, ?_, hRW.1, hRW.2.1, hRW.2.2.1, hRW.2.2.2.mono (by decide) (by decide)⟩
        ·show S_ p e below T540 m 226 #[vi n_, vi p_, vi q_, vi r_, vi v_, vi 4, vi ch0, vi ch1, vi ch2, vi ch3, vr b396, vr b430, vi 1] [(ii 1)] _
         refine XS.iload X540.here hx rfl (hb hby at_226) rfl ?_
         show S_ p e below T540 m 228 #[vi n_, vi p_, vi q_, vi r_, vi v_, vi 4, vi ch0, vi ch1, vi ch2, vi ch3, vr b396, vr b430, vi 1] [(ii 1), (ii 1)] _
         refine XS.icmpNo X540.here hx rfl (hb hby at_228) rfl rfl ?_
         show S_ p e below T540 m 231 #[vi n_, vi p_, vi q_, vi r_, vi v_, vi 4, vi ch0, vi ch1, vi ch2, vi ch3, vr b396, vr b430, vi 1] [] _
         refine XS.iconst X540.here hx rfl (hb hby at_231) ?_
         show S_ p e below T540 m 232 #[vi n_, vi p_, vi q_, vi r_, vi v_, vi 4, vi ch0, vi ch1, vi ch2, vi ch3, vr b396, vr b430, vi 1] [(ii 1)] _
         refine yG X540.here hx rfl 232 236 rfl (hb hby at_232) ?_
         show S_ p e below T540 m 236 #[vi n_, vi p_, vi q_, vi r_, vi v_, vi 4, vi ch0, vi ch1, vi ch2, vi ch3, vr b396, vr b430, vi 1] [(ii 1)] _
         exact retN X540 hx (t := .boolean) Bd.returns (by simp) (hb hby at_236) hr
        ·show Q_law Z n_ p_ q_ r_ v_ si1_ sv12_ h0 n0 _ T540.heap _
         rw [K542]
         exact ⟨rfl, N541, kp528⟩
       ·obtain ⟨rfl, N547q, K548, p549⟩ := hQ540
        have N547 := Fr.app N517 N547q
        exact absurd ⟨hc532, hc534, hc536, hc538⟩ p549
      ·have c550 : Kt p e below T435 st0 (mkF m 223 #[vi n_, vi p_, vi q_, vi r_, vi v_, vi 4, vi ch0, vi ch1, vi ch2, vi ch3, vr b396, vr b430, vi 0] [(rr b430)]) := fun t k => by
        refine c537 t ?_
        show S_ p e below T435 m 211 #[vi n_, vi p_, vi q_, vi r_, vi v_, vi 4, vi ch0, vi ch1, vi ch2, vi ch3, vr b396, vr b430, u_] [(ii 128), (.int ch3)] t
        refine yC X435.here hx rfl 211 218 rfl (hb hby at_211) rfl (flt hc538).2.1 ?_
        show S_ p e below T435 m 218 #[vi n_, vi p_, vi q_, vi r_, vi v_, vi 4, vi ch0, vi ch1, vi ch2, vi ch3, vr b396, vr b430, u_] [] t
        refine XS.iconst X435.here hx rfl (hb hby at_218) ?_
        show S_ p e below T435 m 219 #[vi n_, vi p_, vi q_, vi r_, vi v_, vi 4, vi ch0, vi ch1, vi ch2, vi ch3, vr b396, vr b430, u_] [(ii 0)] t
        refine XS.istore X435.here hx rfl (hb hby at_219) rfl (l' := #[vi n_, vi p_, vi q_, vi r_, vi v_, vi 4, vi ch0, vi ch1, vi ch2, vi ch3, vr b396, vr b430, vi 0]) rfl ?_
        show S_ p e below T435 m 221 #[vi n_, vi p_, vi q_, vi r_, vi v_, vi 4, vi ch0, vi ch1, vi ch2, vi ch3, vr b396, vr b430, vi 0] [] t
        refine XS.aload X435.here hx rfl (hb hby at_221) rfl rfl ?_
        exact k
       obtain ⟨_, T551, L551, X551, hQ551, c551⟩ := kstat X435 hx hZ hown (w24 hw) (w25 hw) (w26 hw) (w27 hw) (rm_ascU_4 l Z a0 hw [] b430 b521 k522 si1_ sv12_ ch0 ch1 ch2 ch3 T435.heap n0 o527 p519 p520 p523 p524 ZS0_ sn4_ ZS6_ sv12_r hg2 hg3 hg4 hg5 ZS2_ ZS3_ ZS4_) rfl c550 hml pd_pLjava_lang_String_rZ [(rr b430)] [] 0 (hb hby at_223) rfl rfl rfl rfl rfl rfl
       rcases hQ551 with hQ551 | hQ551
       ·obtain ⟨rfl, N552q, K553, p554, p555, p556, p557⟩ := hQ551
        have N552 := Fr.app N517 N552q
        exact absurd p557 hc538
       ·obtain ⟨rfl, N558q, K559, p560⟩ := hQ551
        have N558 := Fr.app N517 N558q
        obtain ⟨fs, hr, hrun, hended, hRW⟩ := X551.leaveW hS0 (by first | exact (Nat.le_trans (Nat.zero_le _) (Nat.le_trans (Nat.le_trans (Nat.le_trans (Nat.le_trans (Nat.le_trans (Nat.le_trans E396.1 (Keep.of_wr W402).1) (Keep.of_wr W409).1) (Keep.of_wr W416).1) (Keep.of_wr W423).1) E430.1) K518.1)) | (rw [K559]; exact (Nat.le_trans (Nat.zero_le _) (Nat.le_trans (Nat.le_trans (Nat.le_trans (Nat.le_trans (Nat.le_trans (Nat.le_trans E396.1 (Keep.of_wr W402).1) (Keep.of_wr W409).1) (Keep.of_wr W416).1) (Keep.of_wr W423).1) E430.1) K518.1)))) (v := some (ii 1)) (fun h => by rw [Bd.returns] at h; cases h)
        refine ⟨_, _, c551 _ ?_, hrun, hended, _, _, rfl, ?_, hRW.1, hRW.2.1, hRW.2.2.1, hRW.2.2.2.mono (by decide) (by decide)⟩
        ·show S_ p e below T551 m 226 #[vi n_, vi p_, vi q_, vi r_, vi v_, vi 4, vi ch0, vi ch1, vi ch2, vi ch3, vr b396, vr b430, vi 0] [(ii 0)] _
         refine XS.iload X551.here hx rfl (hb hby at_226) rfl ?_
         show S_ p e below T551 m 228 #[vi n_, vi p_, vi q_, vi r_, vi v_, vi 4, vi ch0, vi ch1, vi ch2, vi ch3, vr b396, vr b430, vi 0] [(ii 0), (ii 0)] _
         refine XS.icmpNo X551.here hx rfl (hb hby at_228) rfl rfl ?_
         show S_ p e below T551 m 231 #[vi n_, vi p_, vi q_, vi r_, vi v_, vi 4, vi ch0, vi ch1, vi ch2, vi ch3, vr b396, vr b430, vi 0] [] _
         refine XS.iconst X551.here hx rfl (hb hby at_231) ?_
         show S_ p e below T551 m 232 #[vi n_, vi p_, vi q_, vi r_, vi v_, vi 4, vi ch0, vi ch1, vi ch2, vi ch3, vr b396, vr b430, vi 0] [(ii 1)] _
         refine yG X551.here hx rfl 232 236 rfl (hb hby at_232) ?_
         show S_ p e below T551 m 236 #[vi n_, vi p_, vi q_, vi r_, vi v_, vi 4, vi ch0, vi ch1, vi ch2, vi ch3, vr b396, vr b430, vi 0] [(ii 1)] _
         exact retN X551 hx (t := .boolean) Bd.returns (by simp) (hb hby at_236) hr
        ·show Q_law Z n_ p_ q_ r_ v_ si1_ sv12_ h0 n0 _ T551.heap _
         rw [K559]
         exact ⟨rfl, N558, kp528⟩
     ·have c561 : Kt p e below T435 st0 (mkF m 223 #[vi n_, vi p_, vi q_, vi r_, vi v_, vi 4, vi ch0, vi ch1, vi ch2, vi ch3, vr b396, vr b430, vi 0] [(rr b430)]) := fun t k => by
       refine c535 t ?_
       show S_ p e below T435 m 197 #[vi n_, vi p_, vi q_, vi r_, vi v_, vi 4, vi ch0, vi ch1, vi ch2, vi ch3, vr b396, vr b430, u_] [(ii 128), (.int ch2)] t
       refine yC X435.here hx rfl 197 218 rfl (hb hby at_197) rfl (flt hc536).2.1 ?_
       show S_ p e below T435 m 218 #[vi n_, vi p_, vi q_, vi r_, vi v_, vi 4, vi ch0, vi ch1, vi ch2, vi ch3, vr b396, vr b430, u_] [] t
       refine XS.iconst X435.here hx rfl (hb hby at_218) ?_
       show S_ p e below T435 m 219 #[vi n_, vi p_, vi q_, vi r_, vi v_, vi 4, vi ch0, vi ch1, vi ch2, vi ch3, vr b396, vr b430, u_] [(ii 0)] t
       refine XS.istore X435.here hx rfl (hb hby at_219) rfl (l' := #[vi n_, vi p_, vi q_, vi r_, vi v_, vi 4, vi ch0, vi ch1, vi ch2, vi ch3, vr b396, vr b430, vi 0]) rfl ?_
       show S_ p e below T435 m 221 #[vi n_, vi p_, vi q_, vi r_, vi v_, vi 4, vi ch0, vi ch1, vi ch2, vi ch3, vr b396, vr b430, vi 0] [] t
       refine XS.aload X435.here hx rfl (hb hby at_221) rfl rfl ?_
       exact k
      obtain ⟨_, T562, L562, X562, hQ562, c562⟩ := kstat X435 hx hZ hown (w24 hw) (w25 hw) (w26 hw) (w27 hw) (rm_ascU_4 l Z a0 hw [] b430 b521 k522 si1_ sv12_ ch0 ch1 ch2 ch3 T435.heap n0 o527 p519 p520 p523 p524 ZS0_ sn4_ ZS6_ sv12_r hg2 hg3 hg4 hg5 ZS2_ ZS3_ ZS4_) rfl c561 hml pd_pLjava_lang_String_rZ [(rr b430)] [] 0 (hb hby at_223) rfl rfl rfl rfl rfl rfl
      rcases hQ562 with hQ562 | hQ562
      ·obtain ⟨rfl, N563q, K564, p565, p566, p567, p568⟩ := hQ562
       have N563 := Fr.app N517 N563q
       exact absurd p567 hc536
      ·obtain ⟨rfl, N569q, K570, p571⟩ := hQ562
       have N569 := Fr.app N517 N569q
       obtain ⟨fs, hr, hrun, hended, hRW⟩ := X562.leaveW hS0 (by first | exact (Nat.le_trans (Nat.zero_le _) (Nat.le_trans (Nat.le_trans (Nat.le_trans (Nat.le_trans (Nat.le_trans (Nat.le_trans E396.1 (Keep.of_wr W402).1) (Keep.of_wr W409).1) (Keep.of_wr W416).1) (Keep.of_wr W423).1) E430.1) K518.1)) | (rw [K570]; exact (Nat.le_trans (Nat.zero_le _) (Nat.le_trans (Nat.le_trans (Nat.le_trans (Nat.le_trans (Nat.le_trans (Nat.le_trans E396.1 (Keep.of_wr W402).1) (Keep.of_wr W409).1) (Keep.of_wr W416).1) (Keep.of_wr W423).1) E430.1) K518.1)))) (v := some (ii 1)) (fun h => by rw [Bd.returns] at h; cases h)
       refine ⟨_, _, c562 _ ?_, hrun, hended, _, _, rfl, ?_, hRW.1, hRW.2.1, hRW.2.2.1, hRW.2.2.2.mono (by decide) (by decide)⟩
       ·show S_ p e below T562 m 226 #[vi n_, vi p_, vi q_, vi r_, vi v_, vi 4, vi ch0, vi ch1, vi ch2, vi ch3, vr b396, vr b430, vi 0] [(ii 0)] _
        refine XS.iload X562.here hx rfl (hb hby at_226) rfl ?_
        show S_ p e below T562 m 228 #[vi n_, vi p_, vi q_, vi r_, vi v_, vi 4, vi ch0, vi ch1, vi ch2, vi ch3, vr b396, vr b430, vi 0] [(ii 0), (ii 0)] _
        refine XS.icmpNo X562.here hx rfl (hb hby at_228) rfl rfl ?_
        show S_ p e below T562 m 231 #[vi n_, vi p_, vi q_, vi r_, vi v_, vi 4, vi ch0, vi ch1, vi ch2, vi ch3, vr b396, vr b430, vi 0] [] _
        refine XS.iconst X562.here hx rfl (hb hby at_231) ?_
        show S_ p e below T562 m 232 #[vi n_, vi p_, vi q_, vi r_, vi v_, vi 4, vi ch0, vi ch1, vi ch2, vi ch3, vr b396, vr b430, vi 0] [(ii 1)] _
        refine yG X562.here hx rfl 232 236 rfl (hb hby at_232) ?_
        show S_ p e below T562 m 236 #[vi n_, vi p_, vi q_, vi r_, vi v_, vi 4, vi ch0, vi ch1, vi ch2, vi ch3, vr b396, vr b430, vi 0] [(ii 1)] _
        exact retN X562 hx (t := .boolean) Bd.returns (by simp) (hb hby at_236) hr
       ·show Q_law Z n_ p_ q_ r_ v_ si1_ sv12_ h0 n0 _ T562.heap _
        rw [K570]
        exact ⟨rfl, N569, kp528⟩
    ·have c572 : Kt p e below T435 st0 (mkF m 223 #[vi n_, vi p_, vi q_, vi r_, vi v_, vi 4, vi ch0, vi ch1, vi ch2, vi ch3, vr b396, vr b430, vi 0] [(rr b430)]) := fun t k => by
      refine c533 t ?_
      show S_ p e below T435 m 183 #[vi n_, vi p_, vi q_, vi r_, vi v_, vi 4, vi ch0, vi ch1, vi ch2, vi ch3, vr b396, vr b430, u_] [(ii 128), (.int ch1)] t
      refine yC X435.here hx rfl 183 218 rfl (hb hby at_183) rfl (flt hc534).2.1 ?_
      show S_ p e below T435 m 218 #[vi n_, vi p_, vi q_, vi r_, vi v_, vi 4, vi ch0, vi ch1, vi ch2, vi ch3, vr b396, vr b430, u_] [] t
      refine XS.iconst X435.here hx rfl (hb hby at_218) ?_
      show S_ p e below T435 m 219 #[vi n_, vi p_, vi q_, vi r_, vi v_, vi 4, vi ch0, vi ch1, vi ch2, vi ch3, vr b396, vr b430, u_] [(ii 0)] t
      refine XS.istore X435.here hx rfl (hb hby at_219) rfl (l' := #[vi n_, vi p_, vi q_, vi r_, vi v_, vi 4, vi ch0, vi ch1, vi ch2, vi ch3, vr b396, vr b430, vi 0]) rfl ?_
      show S_ p e below T435 m 221 #[vi n_, vi p_, vi q_, vi r_, vi v_, vi 4, vi ch0, vi ch1, vi ch2, vi ch3, vr b396, vr b430, vi 0] [] t
      refine XS.aload X435.here hx rfl (hb hby at_221) rfl rfl ?_
      exact k
     obtain ⟨_, T573, L573, X573, hQ573, c573⟩ := kstat X435 hx hZ hown (w24 hw) (w25 hw) (w26 hw) (w27 hw) (rm_ascU_4 l Z a0 hw [] b430 b521 k522 si1_ sv12_ ch0 ch1 ch2 ch3 T435.heap n0 o527 p519 p520 p523 p524 ZS0_ sn4_ ZS6_ sv12_r hg2 hg3 hg4 hg5 ZS2_ ZS3_ ZS4_) rfl c572 hml pd_pLjava_lang_String_rZ [(rr b430)] [] 0 (hb hby at_223) rfl rfl rfl rfl rfl rfl
     rcases hQ573 with hQ573 | hQ573
     ·obtain ⟨rfl, N574q, K575, p576, p577, p578, p579⟩ := hQ573
      have N574 := Fr.app N517 N574q
      exact absurd p577 hc534
     ·obtain ⟨rfl, N580q, K581, p582⟩ := hQ573
      have N580 := Fr.app N517 N580q
      obtain ⟨fs, hr, hrun, hended, hRW⟩ := X573.leaveW hS0 (by first | exact (Nat.le_trans (Nat.zero_le _) (Nat.le_trans (Nat.le_trans (Nat.le_trans (Nat.le_trans (Nat.le_trans (Nat.le_trans E396.1 (Keep.of_wr W402).1) (Keep.of_wr W409).1) (Keep.of_wr W416).1) (Keep.of_wr W423).1) E430.1) K518.1)) | (rw [K581]; exact (Nat.le_trans (Nat.zero_le _) (Nat.le_trans (Nat.le_trans (Nat.le_trans (Nat.le_trans (Nat.le_trans (Nat.le_trans E396.1 (Keep.of_wr W402).1) (Keep.of_wr W409).1) (Keep.of_wr W416).1) (Keep.of_wr W423).1) E430.1) K518.1)))) (v := some (ii 1)) (fun h => by rw [Bd.returns] at h; cases h)
      refine ⟨_, _, c573 _ ?_, hrun, hended, _, _, rfl, ?_, hRW.1, hRW.2.1, hRW.2.2.1, hRW.2.2.2.mono (by decide) (by decide)⟩
      ·show S_ p e below T573 m 226 #[vi n_, vi p_, vi q_, vi r_, vi v_, vi 4, vi ch0, vi ch1, vi ch2, vi ch3, vr b396, vr b430, vi 0] [(ii 0)] _
       refine XS.iload X573.here hx rfl (hb hby at_226) rfl ?_
       show S_ p e below T573 m 228 #[vi n_, vi p_, vi q_, vi r_, vi v_, vi 4, vi ch0, vi ch1, vi ch2, vi ch3, vr b396, vr b430, vi 0] [(ii 0), (ii 0)] _
       refine XS.icmpNo X573.here hx rfl (hb hby at_228) rfl rfl ?_
       show S_ p e below T573 m 231 #[vi n_, vi p_, vi q_, vi r_, vi v_, vi 4, vi ch0, vi ch1, vi ch2, vi ch3, vr b396, vr b430, vi 0] [] _
       refine XS.iconst X573.here hx rfl (hb hby at_231) ?_
       show S_ p e below T573 m 232 #[vi n_, vi p_, vi q_, vi r_, vi v_, vi 4, vi ch0, vi ch1, vi ch2, vi ch3, vr b396, vr b430, vi 0] [(ii 1)] _
       refine yG X573.here hx rfl 232 236 rfl (hb hby at_232) ?_
       show S_ p e below T573 m 236 #[vi n_, vi p_, vi q_, vi r_, vi v_, vi 4, vi ch0, vi ch1, vi ch2, vi ch3, vr b396, vr b430, vi 0] [(ii 1)] _
       exact retN X573 hx (t := .boolean) Bd.returns (by simp) (hb hby at_236) hr
      ·show Q_law Z n_ p_ q_ r_ v_ si1_ sv12_ h0 n0 _ T573.heap _
       rw [K581]
       exact ⟨rfl, N580, kp528⟩
   ·have c583 : Kt p e below T435 st0 (mkF m 223 #[vi n_, vi p_, vi q_, vi r_, vi v_, vi 4, vi ch0, vi ch1, vi ch2, vi ch3, vr b396, vr b430, vi 0] [(rr b430)]) := fun t k => by
     refine c531 t ?_
     show S_ p e below T435 m 169 #[vi n_, vi p_, vi q_, vi r_, vi v_, vi 4, vi ch0, vi ch1, vi ch2, vi ch3, vr b396, vr b430, u_] [(ii 128), (.int ch0)] t
     refine yC X435.here hx rfl 169 218 rfl (hb hby at_169) rfl (flt hc532).2.1 ?_
     show S_ p e below T435 m 218 #[vi n_, vi p_, vi q_, vi r_, vi v_, vi 4, vi ch0, vi ch1, vi ch2, vi ch3, vr b396, vr b430, u_] [] t
     refine XS.iconst X435.here hx rfl (hb hby at_218) ?_
     show S_ p e below T435 m 219 #[vi n_, vi p_, vi q_, vi r_, vi v_, vi 4, vi ch0, vi ch1, vi ch2, vi ch3, vr b396, vr b430, u_] [(ii 0)] t
     refine XS.istore X435.here hx rfl (hb hby at_219) rfl (l' := #[vi n_, vi p_, vi q_, vi r_, vi v_, vi 4, vi ch0, vi ch1, vi ch2, vi ch3, vr b396, vr b430, vi 0]) rfl ?_
     show S_ p e below T435 m 221 #[vi n_, vi p_, vi q_, vi r_, vi v_, vi 4, vi ch0, vi ch1, vi ch2, vi ch3, vr b396, vr b430, vi 0] [] t
     refine XS.aload X435.here hx rfl (hb hby at_221) rfl rfl ?_
     exact k
    obtain ⟨_, T584, L584, X584, hQ584, c584⟩ := kstat X435 hx hZ hown (w24 hw) (w25 hw) (w26 hw) (w27 hw) (rm_ascU_4 l Z a0 hw [] b430 b521 k522 si1_ sv12_ ch0 ch1 ch2 ch3 T435.heap n0 o527 p519 p520 p523 p524 ZS0_ sn4_ ZS6_ sv12_r hg2 hg3 hg4 hg5 ZS2_ ZS3_ ZS4_) rfl c583 hml pd_pLjava_lang_String_rZ [(rr b430)] [] 0 (hb hby at_223) rfl rfl rfl rfl rfl rfl
    rcases hQ584 with hQ584 | hQ584
    ·obtain ⟨rfl, N585q, K586, p587, p588, p589, p590⟩ := hQ584
     have N585 := Fr.app N517 N585q
     exact absurd p587 hc532
    ·obtain ⟨rfl, N591q, K592, p593⟩ := hQ584
     have N591 := Fr.app N517 N591q
     obtain ⟨fs, hr, hrun, hended, hRW⟩ := X584.leaveW hS0 (by first | exact (Nat.le_trans (Nat.zero_le _) (Nat.le_trans (Nat.le_trans (Nat.le_trans (Nat.le_trans (Nat.le_trans (Nat.le_trans E396.1 (Keep.of_wr W402).1) (Keep.of_wr W409).1) (Keep.of_wr W416).1) (Keep.of_wr W423).1) E430.1) K518.1)) | (rw [K592]; exact (Nat.le_trans (Nat.zero_le _) (Nat.le_trans (Nat.le_trans (Nat.le_trans (Nat.le_trans (Nat.le_trans (Nat.le_trans E396.1 (Keep.of_wr W402).1) (Keep.of_wr W409).1) (Keep.of_wr W416).1) (Keep.of_wr W423).1) E430.1) K518.1)))) (v := some (ii 1)) (fun h => by rw [Bd.returns] at h; cases h)
     refine ⟨_, _, c584 _ ?_, hrun, hended, _, _, rfl, ?_, hRW.1, hRW.2.1, hRW.2.2.1, hRW.2.2.2.mono (by decide) (by decide)⟩
     ·show S_ p e below T584 m 226 #[vi n_, vi p_, vi q_, vi r_, vi v_, vi 4, vi ch0, vi ch1, vi ch2, vi ch3, vr b396, vr b430, vi 0] [(ii 0)] _
      refine XS.iload X584.here hx rfl (hb hby at_226) rfl ?_
      show S_ p e below T584 m 228 #[vi n_, vi p_, vi q_, vi r_, vi v_, vi 4, vi ch0, vi ch1, vi ch2, vi ch3, vr b396, vr b430, vi 0] [(ii 0), (ii 0)] _
      refine XS.icmpNo X584.here hx rfl (hb hby at_228) rfl rfl ?_
      show S_ p e below T584 m 231 #[vi n_, vi p_, vi q_, vi r_, vi v_, vi 4, vi ch0, vi ch1, vi ch2, vi ch3, vr b396, vr b430, vi 0] [] _
      refine XS.iconst X584.here hx rfl (hb hby at_231) ?_
      show S_ p e below T584 m 232 #[vi n_, vi p_, vi q_, vi r_, vi v_, vi 4, vi ch0, vi ch1, vi ch2, vi ch3, vr b396, vr b430, vi 0] [(ii 1)] _
      refine yG X584.here hx rfl 232 236 rfl (hb hby at_232) ?_
      show S_ p e below T584 m 236 #[vi n_, vi p_, vi q_, vi r_, vi v_, vi 4, vi ch0, vi ch1, vi ch2, vi ch3, vr b396, vr b430, vi 0] [(ii 1)] _
      exact retN X584 hx (t := .boolean) Bd.returns (by simp) (hb hby at_236) hr
     ·show Q_law Z n_ p_ q_ r_ v_ si1_ sv12_ h0 n0 _ T584.heap _
      rw [K592]
      exact ⟨rfl, N591, kp528⟩
set_option maxRecDepth 65536 in
set_option maxHeartbeats 40000000 in
theorem comes_1 {Post : Tables → Env → Array Value → State → Outcome → State → Prop} (hpost : ∀ tb e args s v u, (limb_1_1.after args s (.returned v) u = true ∧ limb_1_2.after args s (.returned v) u = true ∧ True) → ReturnedEndW s (.returned v) u (Jvm.fieldLocs frame_1_writes args s ++ Jvm.arrayLocs frame_1_arrays args s ++ Jvm.staticLocs frame_1_statics s) 24 1152 → Post tb e args s (.returned v) u) :
  ArmFor flags0 classFile x code maxLocals ret World_1 tables_1 room_1 Calls_1 rest_1 Pre_1 Post := by
 intro l hfl _ _ p e ha hc hk s m args below hf hA hF happ hP
 obtain ⟨hcalls, hrest, hpre⟩ := hP
 obtain ⟨-, -, -, hnamed, -, -, -, hat⟩ := (Spec.applies_iff hf).mp happ
 obtain ⟨hg, hn⟩ := and_e (Jvm.Cond.before_iff.mp (show (Jvm.Cond.and given_1 narrow_1).before args s = true from hpre))
 obtain ⟨ga0, gb0⟩ := and_e hg
 obtain ⟨ga1, gb1⟩ := and_e gb0
 obtain ⟨ga2, gb2⟩ := and_e gb1
 obtain ⟨ga3, gb3⟩ := and_e gb2
 obtain ⟨ga4, gb4⟩ := and_e gb3
 obtain ⟨wv0, wv1, wv2, wv3, wv4, rfl⟩ : ∃ wv0 wv1 wv2 wv3 wv4 : Value, args = #[wv0, wv1, wv2, wv3, wv4] := by
  have hs : args.size = 5 := by simpa [Jvm.Cond.value, given_1] using ga0
  obtain ⟨L⟩ := args
  match L, hs with
  | [wv0, wv1, wv2, wv3, wv4], _ => exact ⟨wv0, wv1, wv2, wv3, wv4, rfl⟩
 have hw := fun d (hd : d ∈ tables_1) => atoms_spec (ws := Jvm.Cond.code x code maxLocals ret :: tables_1) hat d (List.mem_cons_of_mem _ hd)
 have hfit : Fit s := fun {y c} hc i hi => by
  obtain ⟨ha, rfl⟩ := Array.getElem?_eq_some_iff.mp hc
  have q := List.all_eq_true.mp ((Array.all_eq_true_iff_forall_mem.mp hF) _ (Array.getElem_mem ha)) i (List.mem_range.mpr hi)
  simpa [Array.getElem?_eq_getElem hi] using q
 obtain ⟨hsets, hown0⟩ := atoms_of _ (rest_1_c_eq ▸ (show rest_1_c.before _ s = true from hrest))
 obtain ⟨i0, ei0⟩ := is_v ga1
 obtain rfl : wv0 = (.int i0) := Option.some.inj ei0
 obtain ⟨i1, ei1⟩ := is_v ga2
 obtain rfl : wv1 = (.int i1) := Option.some.inj ei1
 obtain ⟨i2, ei2⟩ := is_v ga3
 obtain rfl : wv2 = (.int i2) := Option.some.inj ei2
 obtain ⟨i3, ei3⟩ := is_v ga4
 obtain rfl : wv3 = (.int i3) := Option.some.inj ei3
 obtain ⟨i4, ei4⟩ := is_v gb4
 obtain rfl : wv4 = (.int i4) := Option.some.inj ei4
 obtain ⟨si1_, se2_⟩ := is_v (Jvm.Cond.before_iff.mp (hsets _ (List.mem_of_getElem? (i := 1) rfl)))
 have sf3_ : Sta s s.heap nm0 "COMPACT_STRINGS" "Z" (.int si1_) := Sta.start se2_ (Or.inl (hsets _ (List.mem_of_getElem? (i := 0) rfl)))
 have sr5_ : ¬ (si1_ = (0 : Int32)) := gotF (Jvm.Cond.eq_ints se2_ (Term.int_eval _)) (not_v (Jvm.Cond.before_iff.mp (hsets _ (List.mem_of_getElem? (i := 2) rfl))))
 have se6_ : (Jvm.Term.static nm1 "$assertionsDisabled" "Z").eval _ s none [] s = some (ii 1) := (Jvm.Cond.eq_int (beq_iff_eq.mpr (Jvm.Cond.before_iff.mp (hsets _ (List.mem_of_getElem? (i := 12) rfl)))) (Term.int_eval _))
 have sf7_ : Sta s s.heap nm1 "$assertionsDisabled" "Z" (ii 1) := Sta.start se6_ (Or.inl (hsets _ (List.mem_of_getElem? (i := 11) rfl)))
 have se8_ : (Jvm.Term.static nm1 "HI_BYTE_SHIFT" "I").eval _ s none [] s = some (ii 0) := (Jvm.Cond.eq_int (beq_iff_eq.mpr (Jvm.Cond.before_iff.mp (hsets _ (List.mem_of_getElem? (i := 15) rfl)))) (Term.int_eval _))
 have sf9_ : Sta s s.heap nm1 "HI_BYTE_SHIFT" "I" (ii 0) := Sta.start se8_ (Or.inl (hsets _ (List.mem_of_getElem? (i := 14) rfl)))
 have se10_ : (Jvm.Term.static nm1 "LO_BYTE_SHIFT" "I").eval _ s none [] s = some (ii 8) := (Jvm.Cond.eq_int (beq_iff_eq.mpr (Jvm.Cond.before_iff.mp (hsets _ (List.mem_of_getElem? (i := 18) rfl)))) (Term.int_eval _))
 have sf11_ : Sta s s.heap nm1 "LO_BYTE_SHIFT" "I" (ii 8) := Sta.start se10_ (Or.inl (hsets _ (List.mem_of_getElem? (i := 17) rfl)))
 obtain ⟨sv12_, se13_, sv12_r⟩ := isR_v (Jvm.Cond.before_iff.mp (hsets _ (List.mem_of_getElem? (i := 8) rfl)))
 have sf14_ : Sta s s.heap nm2 "SIOOBE_FORMATTER" nm4 sv12_ := Sta.start se13_ (Or.inl (hsets _ (List.mem_of_getElem? (i := 7) rfl)))
 have hl7 : Jvm.Lit.constHeld s nm0 7 := hcalls.1 (nm0, 7) (by simp [consts_1])
 have hcw : Jvm.Lit.compactW.before #[.int i0, .int i1, .int i2, .int i3, .int i4] s = true := (hsets _ (List.mem_of_getElem? (i := 2) rfl))
 obtain ⟨n, o, h1, h2, h3, _, L, rfl, ⟨rfl, N, -⟩, hq⟩ := rm_law l s _ hw tables_1 i0 i1 i2 i3 i4 si1_ sv12_ s.heap s.heap.size (Old.start s) sf3_ sr5_ sf7_ sf9_ sf11_ sv12_r sf14_ hl7 hcw p e ha hc hk s m _ below hf ((Spec.applies_iff_loose hf).mp happ).1 ⟨rfl, State.Warmed39.refl s, rfl, rfl⟩ trivial
 refine ⟨n, _, h1, h2, h3, hpost _ _ _ _ _ _ ⟨Jvm.Cond.after_iff.mpr rfl, Jvm.Cond.after_iff.mpr (eq_i res_at (Term.int_eval (1)) rfl), trivial⟩ ⟨hq.1, hq.2.1, hq.2.2.1, (hq.2.2.2.sift fun y hy => Or.inr (N y hy)).mono (by decide) (by decide)⟩⟩
theorem main_1_1 : Claimed_1_1 := comes_1 fun _ _ _ _ _ _ h hF => ⟨h.1, hF⟩
theorem main_1_2 : Claimed_1_2 := comes_1 fun _ _ _ _ _ _ h hF => ⟨h.2.1, hF⟩
end Jvm.Pilot.@@N@@
namespace Jvm.Pilot.@@N@@
open Jvm Jvm.ClassFile Sem Op Lib Jvm.Free Jvm.Stand Jvm.Pilot.@@N@@.Jvm.D
/-! MADE BY PROGRAM (witnessworld.py) out of the Statement's table words and the real class files: 20 classes; the members and pool entries that the words name. The judged class is class 1, her method 1. -/
namespace start1
open Jvm.ClassFile
def u (s : String) : CpInfo := .utf8 (stringToUtf16 s)
/-- a pool by its gaps: so many unusable entries, then the entry; so many at the end -/
def gap : Nat → List CpInfo → List CpInfo
  | 0, r => r
  | n + 1, r => .unusable :: gap n r
def poolList (es : List (Nat × CpInfo)) (last : Nat) : List CpInfo := es.foldr (fun e r => gap e.1 (e.2 :: r)) (gap last [])
def pool (es : List (Nat × CpInfo)) (last : Nat) : Array CpInfo := ⟨poolList es last⟩
def fileOf (pool : Array CpInfo) (this : Nat) (attrs : Array Attribute := #[]) (ms : Array MethodInfo := #[]) (fl : Nat := 33) (sup : Nat := 0) (ifs : Array Nat := #[]) (fds : Array FieldInfo := #[]) : ClassFile where
  minorVersion := 0
  majorVersion := 65
  constantPool := pool
  accessFlags := fl
  thisClass := this
  superClass := sup
  interfaces := ifs
  fields := fds
  methods := ms
  attributes := attrs
def plain (name : String) (sup : Option ClassId) : Class where
  name := name
  kind := .ordinary
  loader := none
  accessFlags := 33
  super := sup
  interfaces := #[]
  cf := none
  fields := #[]
  methods := #[]
  instanceTypes := #[]
  staticTypes := #[]
  resolved := #[]
  callSites := []
  init := .initialized
  statics := none
  mirror := none

def pool0 : Array CpInfo := pool [(5, u "<init>"), (0, u "()V"), (1, .class_ 10), (1, u "java/lang/Object")] 113

def k0c0 : Code := { maxStack := 0, maxLocals := 1, code := object_method_1_code, exceptionTable := #[], attributes := #[] }
def k0m0 : Method := { name := "<init>", desc := "()V", sig := { parameters := [], returnType := none }, accessFlags := 1, code := some k0c0 }
/-- java/lang/Object -/
def k0 : Class := { plain "java/lang/Object" none with
  accessFlags := 33
  interfaces := #[]
  cf := some (fileOf pool0 8 #[] #[{ accessFlags := 1, nameIndex := 5, descriptorIndex := 6, attributes := #[] }] 33 0 #[] #[])
  fields := #[]
  methods := #[k0m0]
  instanceTypes := #[]
  staticTypes := #[]
  resolved := Array.replicate 124 none
  statics := none }

def pool1 : Array CpInfo := pool [(2, .class_ 4), (1, u "java/lang/Object"), (0, u "<init>"), (0, u "()V"), (0, .integer 2147483647), (0, .integer 65535), (0, .class_ 10), (0, u "java/lang/String"), (0, .methodref 9 12), (0, .nameAndType 5 13), (0, u "([C)V"), (0, .methodref 15 16), (0, .class_ 17), (0, .nameAndType 18 19), (0, u "com/example/countersign/countersign/Utf8"), (0, u "isAscii"), (0, u "(Ljava/lang/String;)Z"), (0, .class_ 21), (0, u "com/example/countersign/countersign/Utf8IsAsciiPinLaw"), (2, u "law"), (0, u "(IIIII)Z")] 5

def k1m0 : Method := { name := "<init>", desc := "()V", sig := { parameters := [], returnType := none }, accessFlags := 2, code := none }
def k1c1 : Code := { maxStack := 4, maxLocals := 13, code := code, exceptionTable := #[], attributes := #[] }
def k1m1 : Method := { name := "law", desc := "(IIIII)Z", sig := { parameters := [.int, .int, .int, .int, .int], returnType := some .boolean }, accessFlags := 9, code := some k1c1 }
/-- com/example/countersign/countersign/Utf8IsAsciiPinLaw -/
def k1 : Class := { plain "com/example/countersign/countersign/Utf8IsAsciiPinLaw" (some 0) with
  accessFlags := 49
  interfaces := #[]
  cf := some (fileOf pool1 20 #[] #[{ accessFlags := 2, nameIndex := 5, descriptorIndex := 6, attributes := #[] }, { accessFlags := 9, nameIndex := 24, descriptorIndex := 25, attributes := #[] }] 49 2 #[] #[])
  fields := #[]
  methods := #[k1m0, k1m1]
  instanceTypes := #[]
  staticTypes := #[]
  resolved := Array.replicate 31 none
  statics := none }

def pool2 : Array CpInfo := pool [(1, .class_ 2), (0, u "java/io/Serializable"), (0, .class_ 4), (0, u "java/lang/Object")] 2

/-- java/io/Serializable -/
def k2 : Class := { plain "java/io/Serializable" (some 0) with
  accessFlags := 1537
  interfaces := #[]
  cf := some (fileOf pool2 1 #[] #[] 1537 3 #[] #[])
  fields := #[]
  methods := #[]
  instanceTypes := #[]
  staticTypes := #[]
  resolved := Array.replicate 7 none
  statics := none }

def pool3 : Array CpInfo := pool [(1, .class_ 2), (0, u "java/lang/Comparable"), (0, .class_ 4), (0, u "java/lang/Object")] 7

/-- java/lang/Comparable -/
def k3 : Class := { plain "java/lang/Comparable" (some 0) with
  accessFlags := 1537
  interfaces := #[]
  cf := some (fileOf pool3 1 #[] #[] 1537 3 #[] #[])
  fields := #[]
  methods := #[]
  instanceTypes := #[]
  staticTypes := #[]
  resolved := Array.replicate 12 none
  statics := none }

def pool4 : Array CpInfo := pool [(2, .class_ 4), (1, u "java/lang/CharSequence"), (42, .class_ 48), (0, u "java/lang/CharSequence$1CodePointIterator"), (10, .class_ 60), (0, u "java/lang/CharSequence$1CharIterator"), (5, .class_ 67), (0, u "java/lang/Object")] 63

/-- java/lang/CharSequence -/
def k4 : Class := { plain "java/lang/CharSequence" (some 0) with
  accessFlags := 1537
  interfaces := #[]
  cf := some (fileOf pool4 2 #[.nestMembers #[47, 59]] #[] 1537 66 #[] #[])
  fields := #[]
  methods := #[]
  instanceTypes := #[]
  staticTypes := #[]
  resolved := Array.replicate 131 none
  statics := none }

def pool5 : Array CpInfo := pool [(1, .class_ 2), (0, u "java/lang/constant/Constable"), (0, .class_ 4), (0, u "java/lang/Object")] 6

/-- java/lang/constant/Constable -/
def k5 : Class := { plain "java/lang/constant/Constable" (some 0) with
  accessFlags := 1537
  interfaces := #[]
  cf := some (fileOf pool5 1 #[] #[] 1537 3 #[] #[])
  fields := #[]
  methods := #[]
  instanceTypes := #[]
  staticTypes := #[]
  resolved := Array.replicate 11 none
  statics := none }

def pool6 : Array CpInfo := pool [(1, .class_ 2), (0, u "java/lang/constant/ConstantDesc"), (0, .class_ 4), (0, u "java/lang/Object")] 32

/-- java/lang/constant/ConstantDesc -/
def k6 : Class := { plain "java/lang/constant/ConstantDesc" (some 0) with
  accessFlags := 1537
  interfaces := #[]
  cf := some (fileOf pool6 1 #[] #[] 1537 3 #[] #[])
  fields := #[]
  methods := #[]
  instanceTypes := #[]
  staticTypes := #[]
  resolved := Array.replicate 37 none
  statics := none }

def pool7 : Array CpInfo := pool [(1, .methodref 2 3), (0, .class_ 4), (0, .nameAndType 5 6), (0, u "java/lang/Object"), (0, u "<init>"), (0, u "()V"), (0, .string 8), (0, u ""), (0, .fieldref 10 11), (0, .class_ 12), (0, .nameAndType 13 14), (0, u "java/lang/String"), (0, u "value"), (0, u "[B"), (0, .fieldref 10 16), (0, .nameAndType 17 18), (0, u "coder"), (0, u "B"), (2, u "hash"), (0, u "I"), (2, u "hashIsZero"), (0, u "Z"), (0, .methodref 10 28), (0, .nameAndType 5 29), (0, u "([CIILjava/lang/Void;)V"), (8, .fieldref 10 39), (0, .nameAndType 40 26), (0, u "COMPACT_STRINGS"), (1, .class_ 44), (1, u "java/lang/StringUTF16"), (0, u "compress"), (1, .methodref 42 48), (0, .nameAndType 49 50), (0, u "coderFromArrayLen"), (0, u "([BI)B"), (56, .class_ 109), (1, u "java/lang/StringLatin1"), (32, u "()Z"), (34, .methodref 42 178), (0, .nameAndType 45 179), (0, u "([CII)[B"), (154, u "()I"), (0, .methodref 10 336), (0, .nameAndType 17 337), (0, u "()B"), (25, u "([BI)C"), (27, u "(II)V"), (35, u "(I)C"), (64, .methodref 10 493), (0, .nameAndType 494 142), (0, u "isLatin1"), (0, .methodref 107 496), (0, .nameAndType 497 363), (0, u "charAt"), (0, .methodref 42 496), (2, u "checkIndex"), (5, u "length"), (67, .class_ 576), (0, u "java/lang/CharSequence"), (22, u "CASE_INSENSITIVE_ORDER"), (0, u "Ljava/util/Comparator;"), (409, u "([C)V"), (42, .fieldref 1054 1055), (0, .class_ 1056), (0, .nameAndType 1057 1058), (0, u "jdk/internal/util/Preconditions"), (0, u "SIOOBE_FORMATTER"), (0, u "Ljava/util/function/BiFunction;"), (0, .methodref 1054 1060), (0, .nameAndType 501 1061), (0, u "(IILjava/util/function/BiFunction;)I"), (39, u "serialPersistentFields"), (0, u "[Ljava/io/ObjectStreamField;"), (0, .class_ 1104), (0, u "java/lang/String$CaseInsensitiveComparator"), (1, .class_ 1107), (0, u "java/io/Serializable"), (0, .class_ 1109), (0, u "java/lang/Comparable"), (0, .class_ 1111), (0, u "java/lang/constant/Constable"), (0, .class_ 1113), (0, u "java/lang/constant/ConstantDesc"), (2, u "serialVersionUID"), (0, u "J"), (3, u "REPL"), (0, u "C"), (2, u "LATIN1"), (1, u "UTF16")] 323

def k7m0 : Method := { name := "<init>", desc := "()V", sig := { parameters := [], returnType := none }, accessFlags := 1, code := none }
def k7c1 : Code := { maxStack := 5, maxLocals := 2, code := jdk_42_method_3_code, exceptionTable := #[], attributes := #[] }
def k7m1 : Method := { name := "<init>", desc := "([C)V", sig := { parameters := [(.array .char)], returnType := none }, accessFlags := 1, code := some k7c1 }
def k7c2 : Code := { maxStack := 2, maxLocals := 1, code := jdk_42_method_54_code, exceptionTable := #[], attributes := #[] }
def k7m2 : Method := { name := "length", desc := "()I", sig := { parameters := [], returnType := some .int }, accessFlags := 1, code := some k7c2 }
def k7c3 : Code := { maxStack := 2, maxLocals := 2, code := jdk_42_method_56_code, exceptionTable := #[], attributes := #[] }
def k7m3 : Method := { name := "charAt", desc := "(I)C", sig := { parameters := [.int], returnType := some .char }, accessFlags := 1, code := some k7c3 }
def k7c4 : Code := { maxStack := 4, maxLocals := 6, code := jdk_42_method_149_code, exceptionTable := #[], attributes := #[] }
def k7m4 : Method := { name := "<init>", desc := "([CIILjava/lang/Void;)V", sig := { parameters := [(.array .char), .int, .int, (.object "java/lang/Void")], returnType := none }, accessFlags := 2, code := some k7c4 }
def k7c5 : Code := { maxStack := 1, maxLocals := 1, code := jdk_42_method_152_code, exceptionTable := #[], attributes := #[] }
def k7m5 : Method := { name := "coder", desc := "()B", sig := { parameters := [], returnType := some .byte }, accessFlags := 0, code := some k7c5 }
def k7c6 : Code := { maxStack := 1, maxLocals := 1, code := jdk_42_method_154_code, exceptionTable := #[], attributes := #[] }
def k7m6 : Method := { name := "isLatin1", desc := "()Z", sig := { parameters := [], returnType := some .boolean }, accessFlags := 0, code := some k7c6 }
def k7c7 : Code := { maxStack := 3, maxLocals := 2, code := jdk_42_method_155_code, exceptionTable := #[], attributes := #[] }
def k7m7 : Method := { name := "checkIndex", desc := "(II)V", sig := { parameters := [.int, .int], returnType := none }, accessFlags := 8, code := some k7c7 }
/-- java/lang/String -/
def k7 : Class := { plain "java/lang/String" (some 0) with
  accessFlags := 49
  interfaces := #[2, 3, 4, 5, 6]
  cf := some (fileOf pool7 10 #[.nestMembers #[1103]] #[{ accessFlags := 1, nameIndex := 5, descriptorIndex := 6, attributes := #[] }, { accessFlags := 1, nameIndex := 5, descriptorIndex := 1010, attributes := #[] }, { accessFlags := 1, nameIndex := 507, descriptorIndex := 334, attributes := #[] }, { accessFlags := 1, nameIndex := 497, descriptorIndex := 427, attributes := #[] }, { accessFlags := 2, nameIndex := 5, descriptorIndex := 29, attributes := #[] }, { accessFlags := 0, nameIndex := 17, descriptorIndex := 337, attributes := #[] }, { accessFlags := 0, nameIndex := 494, descriptorIndex := 142, attributes := #[] }, { accessFlags := 8, nameIndex := 501, descriptorIndex := 391, attributes := #[] }] 49 2 #[1106, 1108, 575, 1110, 1112] #[{ accessFlags := 18, nameIndex := 13, descriptorIndex := 14, attributes := #[] }, { accessFlags := 18, nameIndex := 17, descriptorIndex := 18, attributes := #[] }, { accessFlags := 2, nameIndex := 21, descriptorIndex := 22, attributes := #[] }, { accessFlags := 2, nameIndex := 25, descriptorIndex := 26, attributes := #[] }, { accessFlags := 26, nameIndex := 1116, descriptorIndex := 1117, attributes := #[] }, { accessFlags := 24, nameIndex := 40, descriptorIndex := 26, attributes := #[] }, { accessFlags := 26, nameIndex := 1101, descriptorIndex := 1102, attributes := #[] }, { accessFlags := 26, nameIndex := 1121, descriptorIndex := 1122, attributes := #[] }, { accessFlags := 25, nameIndex := 599, descriptorIndex := 600, attributes := #[] }, { accessFlags := 24, nameIndex := 1125, descriptorIndex := 18, attributes := #[] }, { accessFlags := 24, nameIndex := 1127, descriptorIndex := 18, attributes := #[] }])
  fields := #[{ name := "value", type := (.array .byte), accessFlags := 18, slot := 0, constantValue := 0 }, { name := "coder", type := .byte, accessFlags := 18, slot := 1, constantValue := 0 }, { name := "hash", type := .int, accessFlags := 2, slot := 2, constantValue := 0 }, { name := "hashIsZero", type := .boolean, accessFlags := 2, slot := 3, constantValue := 0 }, { name := "serialVersionUID", type := .long, accessFlags := 26, slot := 0, constantValue := 0 }, { name := "COMPACT_STRINGS", type := .boolean, accessFlags := 24, slot := 1, constantValue := 0 }, { name := "serialPersistentFields", type := (.array (.object "java/io/ObjectStreamField")), accessFlags := 26, slot := 2, constantValue := 0 }, { name := "REPL", type := .char, accessFlags := 26, slot := 3, constantValue := 0 }, { name := "CASE_INSENSITIVE_ORDER", type := (.object "java/util/Comparator"), accessFlags := 25, slot := 4, constantValue := 0 }, { name := "LATIN1", type := .byte, accessFlags := 24, slot := 5, constantValue := 0 }, { name := "UTF16", type := .byte, accessFlags := 24, slot := 6, constantValue := 0 }]
  methods := #[k7m0, k7m1, k7m2, k7m3, k7m4, k7m5, k7m6, k7m7]
  instanceTypes := #[(.array .byte), .byte, .int, .boolean]
  staticTypes := #[.long, .boolean, (.array (.object "java/io/ObjectStreamField")), .char, (.object "java/util/Comparator"), .byte, .byte]
  resolved := Array.replicate 1451 none
  statics := some 0 }

def pool8 : Array CpInfo := pool [(2, .class_ 4), (1, u "java/lang/Object"), (0, u "<init>"), (0, u "()V"), (0, .class_ 8), (0, u "java/lang/String"), (49, .methodref 7 59), (0, .nameAndType 60 61), (0, u "length"), (0, u "()I"), (0, .methodref 7 63), (0, .nameAndType 64 65), (0, u "charAt"), (0, u "(I)C"), (10, .class_ 77), (0, u "com/example/countersign/countersign/Utf8"), (7, u "isAscii"), (0, u "(Ljava/lang/String;)Z")] 4

def k8m0 : Method := { name := "<init>", desc := "()V", sig := { parameters := [], returnType := none }, accessFlags := 2, code := none }
def k8c1 : Code := { maxStack := 2, maxLocals := 2, code := prog_48_method_3_code, exceptionTable := #[], attributes := #[] }
def k8m1 : Method := { name := "isAscii", desc := "(Ljava/lang/String;)Z", sig := { parameters := [(.object "java/lang/String")], returnType := some .boolean }, accessFlags := 8, code := some k8c1 }
/-- com/example/countersign/countersign/Utf8 -/
def k8 : Class := { plain "com/example/countersign/countersign/Utf8" (some 0) with
  accessFlags := 48
  interfaces := #[]
  cf := some (fileOf pool8 76 #[] #[{ accessFlags := 2, nameIndex := 5, descriptorIndex := 6, attributes := #[] }, { accessFlags := 8, nameIndex := 85, descriptorIndex := 86, attributes := #[] }] 48 2 #[] #[])
  fields := #[]
  methods := #[k8m0, k8m1]
  instanceTypes := #[]
  staticTypes := #[]
  resolved := Array.replicate 91 none
  statics := none }

def pool9 : Array CpInfo := pool [(3, .class_ 4), (0, u "java/lang/String"), (1, .class_ 8), (1, u "java/lang/Object"), (0, u "<init>"), (0, u "()V"), (0, .methodref 12 13), (0, .class_ 14), (0, .nameAndType 15 16), (0, u "java/lang/StringUTF16"), (0, u "newBytesLength"), (0, u "(I)I"), (3, .integer 1073741823), (23, .fieldref 12 45), (0, .nameAndType 46 47), (0, u "$assertionsDisabled"), (0, u "Z"), (0, .methodref 12 49), (0, .nameAndType 50 51), (0, u "length"), (0, u "([B)I"), (7, .fieldref 12 60), (0, .nameAndType 61 62), (0, u "HI_BYTE_SHIFT"), (0, u "I"), (0, .fieldref 12 64), (0, .nameAndType 65 62), (0, u "LO_BYTE_SHIFT"), (1, .methodref 12 68), (0, .nameAndType 69 70), (0, u "checkIndex"), (0, u "(I[B)V"), (0, .methodref 12 72), (0, .nameAndType 73 74), (0, u "getChar"), (0, u "([BI)C"), (32, .methodref 12 108), (0, .nameAndType 109 110), (0, u "newBytesFor"), (0, u "(I)[B"), (0, .methodref 12 112), (0, .nameAndType 113 114), (0, u "putChar"), (0, u "([BII)V"), (0, .methodref 12 116), (0, .nameAndType 117 118), (0, u "compress"), (0, u "([CI[BII)I"), (0, .methodref 12 120), (0, .nameAndType 121 122), (0, u "toBytes"), (0, u "([CII)[B"), (138, u "coderFromArrayLen"), (0, u "([BI)B"), (106, .class_ 371), (1, u "java/lang/StringUTF16$LinesSpliterator"), (20, u "charAt"), (21, .methodref 3 415), (0, .nameAndType 69 416), (0, u "(II)V"), (13, u "MAX_LENGTH"), (196, .class_ 628), (0, u "java/lang/StringUTF16$CodePointsSpliterator"), (0, .class_ 630), (0, u "java/lang/StringUTF16$CharsSpliterator")] 4

def k9m0 : Method := { name := "<init>", desc := "()V", sig := { parameters := [], returnType := none }, accessFlags := 0, code := none }
def k9c1 : Code := { maxStack := 1, maxLocals := 1, code := jdk_52_method_2_code, exceptionTable := #[], attributes := #[] }
def k9m1 : Method := { name := "newBytesFor", desc := "(I)[B", sig := { parameters := [.int], returnType := some (.array .byte) }, accessFlags := 9, code := some k9c1 }
def k9c2 : Code := { maxStack := 4, maxLocals := 1, code := jdk_52_method_3_code, exceptionTable := #[], attributes := #[] }
def k9m2 : Method := { name := "newBytesLength", desc := "(I)I", sig := { parameters := [.int], returnType := some .int }, accessFlags := 9, code := some k9c2 }
def k9c3 : Code := { maxStack := 4, maxLocals := 3, code := jdk_52_method_4_code, exceptionTable := #[], attributes := #[] }
def k9m3 : Method := { name := "putChar", desc := "([BII)V", sig := { parameters := [(.array .byte), .int, .int], returnType := none }, accessFlags := 8, code := some k9c3 }
def k9c4 : Code := { maxStack := 3, maxLocals := 2, code := jdk_52_method_5_code, exceptionTable := #[], attributes := #[] }
def k9m4 : Method := { name := "getChar", desc := "([BI)C", sig := { parameters := [(.array .byte), .int], returnType := some .char }, accessFlags := 8, code := some k9c4 }
def k9c5 : Code := { maxStack := 2, maxLocals := 1, code := jdk_52_method_6_code, exceptionTable := #[], attributes := #[] }
def k9m5 : Method := { name := "length", desc := "([B)I", sig := { parameters := [(.array .byte)], returnType := some .int }, accessFlags := 9, code := some k9c5 }
def k9c6 : Code := { maxStack := 4, maxLocals := 5, code := jdk_52_method_14_code, exceptionTable := #[], attributes := #[] }
def k9m6 : Method := { name := "toBytes", desc := "([CII)[B", sig := { parameters := [(.array .char), .int, .int], returnType := some (.array .byte) }, accessFlags := 9, code := some k9c6 }
def k9c7 : Code := { maxStack := 2, maxLocals := 2, code := jdk_52_method_15_code, exceptionTable := #[], attributes := #[] }
def k9m7 : Method := { name := "coderFromArrayLen", desc := "([BI)B", sig := { parameters := [(.array .byte), .int], returnType := some .byte }, accessFlags := 8, code := some k9c7 }
def k9c8 : Code := { maxStack := 5, maxLocals := 6, code := jdk_52_method_16_code, exceptionTable := #[], attributes := #[] }
def k9m8 : Method := { name := "compress", desc := "([CII)[B", sig := { parameters := [(.array .char), .int, .int], returnType := some (.array .byte) }, accessFlags := 9, code := some k9c8 }
def k9c9 : Code := { maxStack := 3, maxLocals := 7, code := jdk_52_method_21_code, exceptionTable := #[], attributes := #[] }
def k9m9 : Method := { name := "compress", desc := "([CI[BII)I", sig := { parameters := [(.array .char), .int, (.array .byte), .int, .int], returnType := some .int }, accessFlags := 9, code := some k9c9 }
def k9c10 : Code := { maxStack := 2, maxLocals := 2, code := jdk_52_method_83_code, exceptionTable := #[], attributes := #[] }
def k9m10 : Method := { name := "charAt", desc := "([BI)C", sig := { parameters := [(.array .byte), .int], returnType := some .char }, accessFlags := 9, code := some k9c10 }
def k9c11 : Code := { maxStack := 2, maxLocals := 2, code := jdk_52_method_91_code, exceptionTable := #[], attributes := #[] }
def k9m11 : Method := { name := "checkIndex", desc := "(I[B)V", sig := { parameters := [.int, (.array .byte)], returnType := none }, accessFlags := 9, code := some k9c11 }
/-- java/lang/StringUTF16 -/
def k9 : Class := { plain "java/lang/StringUTF16" (some 0) with
  accessFlags := 48
  interfaces := #[]
  cf := some (fileOf pool9 12 #[.nestMembers #[627, 629, 369]] #[{ accessFlags := 0, nameIndex := 9, descriptorIndex := 10, attributes := #[] }, { accessFlags := 9, nameIndex := 109, descriptorIndex := 110, attributes := #[] }, { accessFlags := 9, nameIndex := 15, descriptorIndex := 16, attributes := #[] }, { accessFlags := 8, nameIndex := 113, descriptorIndex := 114, attributes := #[] }, { accessFlags := 8, nameIndex := 73, descriptorIndex := 74, attributes := #[] }, { accessFlags := 9, nameIndex := 50, descriptorIndex := 51, attributes := #[] }, { accessFlags := 9, nameIndex := 121, descriptorIndex := 122, attributes := #[] }, { accessFlags := 8, nameIndex := 261, descriptorIndex := 262, attributes := #[] }, { accessFlags := 9, nameIndex := 117, descriptorIndex := 122, attributes := #[] }, { accessFlags := 9, nameIndex := 117, descriptorIndex := 118, attributes := #[] }, { accessFlags := 9, nameIndex := 392, descriptorIndex := 74, attributes := #[] }, { accessFlags := 9, nameIndex := 69, descriptorIndex := 70, attributes := #[] }] 48 6 #[] #[{ accessFlags := 26, nameIndex := 61, descriptorIndex := 62, attributes := #[] }, { accessFlags := 26, nameIndex := 65, descriptorIndex := 62, attributes := #[] }, { accessFlags := 24, nameIndex := 430, descriptorIndex := 62, attributes := #[] }, { accessFlags := 4120, nameIndex := 46, descriptorIndex := 47, attributes := #[] }])
  fields := #[{ name := "HI_BYTE_SHIFT", type := .int, accessFlags := 26, slot := 0, constantValue := 0 }, { name := "LO_BYTE_SHIFT", type := .int, accessFlags := 26, slot := 1, constantValue := 0 }, { name := "MAX_LENGTH", type := .int, accessFlags := 24, slot := 2, constantValue := 0 }, { name := "$assertionsDisabled", type := .boolean, accessFlags := 4120, slot := 3, constantValue := 0 }]
  methods := #[k9m0, k9m1, k9m2, k9m3, k9m4, k9m5, k9m6, k9m7, k9m8, k9m9, k9m10, k9m11]
  instanceTypes := #[]
  staticTypes := #[.int, .int, .int, .boolean]
  resolved := Array.replicate 635 none
  statics := some 1 }

def pool10 : Array CpInfo := pool [(1, .class_ 2), (0, u "java/lang/String"), (1, .class_ 6), (1, u "java/lang/Object"), (0, u "<init>"), (0, u "()V"), (0, .methodref 1 10), (0, .nameAndType 11 12), (0, u "checkIndex"), (0, u "(II)V"), (1, .class_ 16), (1, u "java/lang/StringLatin1"), (36, u "([BI)C"), (67, u "$assertionsDisabled"), (0, u "Z"), (98, .class_ 223), (1, u "java/lang/StringLatin1$LinesSpliterator"), (28, u "charAt"), (137, .class_ 391), (0, u "java/lang/StringLatin1$CharsSpliterator")] 3

def k10m0 : Method := { name := "<init>", desc := "()V", sig := { parameters := [], returnType := none }, accessFlags := 0, code := none }
def k10c1 : Code := { maxStack := 2, maxLocals := 2, code := jdk_43_method_2_code, exceptionTable := #[], attributes := #[] }
def k10m1 : Method := { name := "charAt", desc := "([BI)C", sig := { parameters := [(.array .byte), .int], returnType := some .char }, accessFlags := 9, code := some k10c1 }
/-- java/lang/StringLatin1 -/
def k10 : Class := { plain "java/lang/StringLatin1" (some 0) with
  accessFlags := 48
  interfaces := #[]
  cf := some (fileOf pool10 14 #[.nestMembers #[390, 221]] #[{ accessFlags := 0, nameIndex := 7, descriptorIndex := 8, attributes := #[] }, { accessFlags := 9, nameIndex := 252, descriptorIndex := 53, attributes := #[] }] 48 4 #[] #[{ accessFlags := 4120, nameIndex := 121, descriptorIndex := 122, attributes := #[] }])
  fields := #[{ name := "$assertionsDisabled", type := .boolean, accessFlags := 4120, slot := 0, constantValue := 0 }]
  methods := #[k10m0, k10m1]
  instanceTypes := #[]
  staticTypes := #[.boolean]
  resolved := Array.replicate 395 none
  statics := none }

def pool11 : Array CpInfo := pool [(2, .class_ 4), (1, u "java/lang/Object"), (0, u "<init>"), (0, u "()V"), (17, .class_ 26), (1, u "jdk/internal/util/Preconditions"), (6, u "checkIndex"), (21, .class_ 56), (0, u "jdk/internal/util/Preconditions$4"), (57, .class_ 115), (0, u "jdk/internal/util/Preconditions$1"), (7, u "SIOOBE_FORMATTER"), (0, u "Ljava/util/function/BiFunction;"), (0, .class_ 126), (0, u "jdk/internal/util/Preconditions$2"), (3, u "AIOOBE_FORMATTER"), (0, .class_ 132), (0, u "jdk/internal/util/Preconditions$3"), (3, u "IOOBE_FORMATTER"), (41, u "(IILjava/util/function/BiFunction;)I")] 15

def k11m0 : Method := { name := "<init>", desc := "()V", sig := { parameters := [], returnType := none }, accessFlags := 1, code := none }
def k11c1 : Code := { maxStack := 3, maxLocals := 3, code := jdk_41_method_11_code, exceptionTable := #[], attributes := #[] }
def k11m1 : Method := { name := "checkIndex", desc := "(IILjava/util/function/BiFunction;)I", sig := { parameters := [.int, .int, (.object "java/util/function/BiFunction")], returnType := some .int }, accessFlags := 9, code := some k11c1 }
/-- jdk/internal/util/Preconditions -/
def k11 : Class := { plain "jdk/internal/util/Preconditions" (some 0) with
  accessFlags := 33
  interfaces := #[]
  cf := some (fileOf pool11 24 #[.nestMembers #[55, 131, 125, 114]] #[{ accessFlags := 1, nameIndex := 5, descriptorIndex := 6, attributes := #[] }, { accessFlags := 9, nameIndex := 33, descriptorIndex := 178, attributes := #[] }] 33 2 #[] #[{ accessFlags := 25, nameIndex := 123, descriptorIndex := 124, attributes := #[] }, { accessFlags := 25, nameIndex := 130, descriptorIndex := 124, attributes := #[] }, { accessFlags := 25, nameIndex := 136, descriptorIndex := 124, attributes := #[] }])
  fields := #[{ name := "SIOOBE_FORMATTER", type := (.object "java/util/function/BiFunction"), accessFlags := 25, slot := 0, constantValue := 0 }, { name := "AIOOBE_FORMATTER", type := (.object "java/util/function/BiFunction"), accessFlags := 25, slot := 1, constantValue := 0 }, { name := "IOOBE_FORMATTER", type := (.object "java/util/function/BiFunction"), accessFlags := 25, slot := 2, constantValue := 0 }]
  methods := #[k11m0, k11m1]
  instanceTypes := #[]
  staticTypes := #[(.object "java/util/function/BiFunction"), (.object "java/util/function/BiFunction"), (.object "java/util/function/BiFunction")]
  resolved := Array.replicate 194 none
  statics := some 2 }

def pool12 : Array CpInfo := pool [(9, u "<init>"), (6, .class_ 18), (1, u "java/lang/Object"), (0, u "()V"), (1, .class_ 23), (1, u "jdk/internal/util/ArraysSupport"), (0, u "LOG2_ARRAY_LONG_INDEX_SCALE"), (0, u "I"), (2, u "U"), (0, u "Ljdk/internal/misc/Unsafe;"), (8, u "BIG_ENDIAN"), (0, u "Z"), (8, u "LOG2_BYTE_BIT_SIZE"), (4, u "LOG2_ARRAY_INT_INDEX_SCALE"), (54, u "JLA"), (0, u "Ljdk/internal/access/JavaLangAccess;"), (11, u "LOG2_ARRAY_BOOLEAN_INDEX_SCALE"), (9, u "LOG2_ARRAY_BYTE_INDEX_SCALE"), (5, u "LOG2_ARRAY_CHAR_INDEX_SCALE"), (5, u "LOG2_ARRAY_SHORT_INDEX_SCALE"), (18, u "LOG2_ARRAY_FLOAT_INDEX_SCALE"), (24, u "LOG2_ARRAY_DOUBLE_INDEX_SCALE"), (89, u "T_BOOLEAN"), (2, u "T_CHAR"), (1, u "T_FLOAT"), (1, u "T_DOUBLE"), (1, u "T_BYTE"), (1, u "T_SHORT"), (1, u "T_INT"), (1, u "T_LONG"), (1, u "SOFT_MAX_ARRAY_LENGTH")] 83

def k12m0 : Method := { name := "<init>", desc := "()V", sig := { parameters := [], returnType := none }, accessFlags := 2, code := none }
/-- jdk/internal/util/ArraysSupport -/
def k12 : Class := { plain "jdk/internal/util/ArraysSupport" (some 0) with
  accessFlags := 33
  interfaces := #[]
  cf := some (fileOf pool12 21 #[] #[{ accessFlags := 2, nameIndex := 9, descriptorIndex := 19, attributes := #[] }] 33 16 #[] #[{ accessFlags := 24, nameIndex := 28, descriptorIndex := 29, attributes := #[] }, { accessFlags := 26, nameIndex := 38, descriptorIndex := 39, attributes := #[] }, { accessFlags := 25, nameIndex := 121, descriptorIndex := 25, attributes := #[] }, { accessFlags := 25, nameIndex := 131, descriptorIndex := 25, attributes := #[] }, { accessFlags := 25, nameIndex := 137, descriptorIndex := 25, attributes := #[] }, { accessFlags := 25, nameIndex := 143, descriptorIndex := 25, attributes := #[] }, { accessFlags := 25, nameIndex := 53, descriptorIndex := 25, attributes := #[] }, { accessFlags := 25, nameIndex := 24, descriptorIndex := 25, attributes := #[] }, { accessFlags := 25, nameIndex := 162, descriptorIndex := 25, attributes := #[] }, { accessFlags := 25, nameIndex := 187, descriptorIndex := 25, attributes := #[] }, { accessFlags := 26, nameIndex := 48, descriptorIndex := 25, attributes := #[] }, { accessFlags := 25, nameIndex := 277, descriptorIndex := 25, attributes := #[] }, { accessFlags := 25, nameIndex := 280, descriptorIndex := 25, attributes := #[] }, { accessFlags := 25, nameIndex := 282, descriptorIndex := 25, attributes := #[] }, { accessFlags := 25, nameIndex := 284, descriptorIndex := 25, attributes := #[] }, { accessFlags := 25, nameIndex := 286, descriptorIndex := 25, attributes := #[] }, { accessFlags := 25, nameIndex := 288, descriptorIndex := 25, attributes := #[] }, { accessFlags := 25, nameIndex := 290, descriptorIndex := 25, attributes := #[] }, { accessFlags := 25, nameIndex := 292, descriptorIndex := 25, attributes := #[] }, { accessFlags := 26, nameIndex := 108, descriptorIndex := 109, attributes := #[] }, { accessFlags := 25, nameIndex := 294, descriptorIndex := 25, attributes := #[] }])
  fields := #[{ name := "U", type := (.object "jdk/internal/misc/Unsafe"), accessFlags := 24, slot := 0, constantValue := 0 }, { name := "BIG_ENDIAN", type := .boolean, accessFlags := 26, slot := 1, constantValue := 0 }, { name := "LOG2_ARRAY_BOOLEAN_INDEX_SCALE", type := .int, accessFlags := 25, slot := 2, constantValue := 0 }, { name := "LOG2_ARRAY_BYTE_INDEX_SCALE", type := .int, accessFlags := 25, slot := 3, constantValue := 0 }, { name := "LOG2_ARRAY_CHAR_INDEX_SCALE", type := .int, accessFlags := 25, slot := 4, constantValue := 0 }, { name := "LOG2_ARRAY_SHORT_INDEX_SCALE", type := .int, accessFlags := 25, slot := 5, constantValue := 0 }, { name := "LOG2_ARRAY_INT_INDEX_SCALE", type := .int, accessFlags := 25, slot := 6, constantValue := 0 }, { name := "LOG2_ARRAY_LONG_INDEX_SCALE", type := .int, accessFlags := 25, slot := 7, constantValue := 0 }, { name := "LOG2_ARRAY_FLOAT_INDEX_SCALE", type := .int, accessFlags := 25, slot := 8, constantValue := 0 }, { name := "LOG2_ARRAY_DOUBLE_INDEX_SCALE", type := .int, accessFlags := 25, slot := 9, constantValue := 0 }, { name := "LOG2_BYTE_BIT_SIZE", type := .int, accessFlags := 26, slot := 10, constantValue := 0 }, { name := "T_BOOLEAN", type := .int, accessFlags := 25, slot := 11, constantValue := 0 }, { name := "T_CHAR", type := .int, accessFlags := 25, slot := 12, constantValue := 0 }, { name := "T_FLOAT", type := .int, accessFlags := 25, slot := 13, constantValue := 0 }, { name := "T_DOUBLE", type := .int, accessFlags := 25, slot := 14, constantValue := 0 }, { name := "T_BYTE", type := .int, accessFlags := 25, slot := 15, constantValue := 0 }, { name := "T_SHORT", type := .int, accessFlags := 25, slot := 16, constantValue := 0 }, { name := "T_INT", type := .int, accessFlags := 25, slot := 17, constantValue := 0 }, { name := "T_LONG", type := .int, accessFlags := 25, slot := 18, constantValue := 0 }, { name := "JLA", type := (.object "jdk/internal/access/JavaLangAccess"), accessFlags := 26, slot := 19, constantValue := 0 }, { name := "SOFT_MAX_ARRAY_LENGTH", type := .int, accessFlags := 25, slot := 20, constantValue := 0 }]
  methods := #[k12m0]
  instanceTypes := #[]
  staticTypes := #[(.object "jdk/internal/misc/Unsafe"), .boolean, .int, .int, .int, .int, .int, .int, .int, .int, .int, .int, .int, .int, .int, .int, .int, .int, .int, (.object "jdk/internal/access/JavaLangAccess"), .int]
  resolved := Array.replicate 378 none
  statics := none }

def pool13 : Array CpInfo := pool [(1, u "java/lang/Cloneable"), (0, .class_ 1), (0, u "java/lang/Object"), (0, .class_ 3)] 3

/-- java/lang/Cloneable -/
def k13 : Class := { plain "java/lang/Cloneable" (some 0) with
  accessFlags := 1537
  interfaces := #[]
  cf := some (fileOf pool13 2 #[] #[] 1537 4 #[] #[])
  fields := #[]
  methods := #[]
  instanceTypes := #[]
  staticTypes := #[]
  resolved := Array.replicate 8 none
  statics := none }

/-- the primitive byte -/
def k14 : Class := { plain "byte" none with kind := .primitive 'B', accessFlags := 0x411 }
/-- [B -/
def k15 : Class := { plain "[B" (some 0) with kind := .array 14 .byte, interfaces := #[13, 2], accessFlags := 1041 }

/-- the primitive char -/
def k16 : Class := { plain "char" none with kind := .primitive 'C', accessFlags := 0x411 }
/-- [C -/
def k17 : Class := { plain "[C" (some 0) with kind := .array 16 .char, interfaces := #[13, 2], accessFlags := 1041 }

/-- the primitive int -/
def k18 : Class := { plain "int" none with kind := .primitive 'I', accessFlags := 0x411 }
/-- [I -/
def k19 : Class := { plain "[I" (some 0) with kind := .array 18 .int, interfaces := #[13, 2], accessFlags := 1041 }

def heap : Heap := #[{ cls := 7, slots := #[.long 0, .int 1, .null, .int 0, .null, .int 0, .int 0], vm := .statics 7 },
  { cls := 9, slots := #[.int 0, .int 8, .int 0, .int 1], vm := .statics 9 },
  { cls := 11, slots := #[.null, .null, .null], vm := .statics 11 }]
def classes : Array Class := #[k0, k1, k2, k3, k4, k5, k6, k7, k8, k9, k10, k11, k12, k13, k14, k15, k16, k17, k18, k19]
def interned : List (Array UInt16 × Addr) := []
def slotsUsed : Nat := 14
def theMethod : MethodId := ⟨1, 1⟩
def args0 : Array Value := #[.int 5, .int 5, .int 5, .int 5, .int 5]
def aboutOver (below : List Frame) : State where
  vm := { classes := classes, interned := interned.toArray }
  heap := heap
  slotsUsed := slotsUsed
  threads := #[{ frames := .invoking theMethod args0 :: below }]
def below0 : List Frame := [.native { method := ⟨0, 0⟩, args := #[] }]
def about1 : State := aboutOver below0
def p0 : Program := .bare "" "" ""
def e0 : Env := launch0.env 0 0 0
theorem w_frames : about1.frames = Frame.invoking theMethod args0 :: below0 := rfl
set_option maxRecDepth 65536 in
theorem w_args : argsFit about1.vm theMethod args0 = true := by decide +kernel
set_option maxRecDepth 65536 in
theorem w_heap : heapFits about1 = true := by decide +kernel
set_option maxRecDepth 65536 in
theorem w_runnable : about1.curStatus? = some .runnable := by decide +kernel
set_option maxRecDepth 65536 in
theorem w_alone : about1.alone = true := by decide +kernel
set_option maxRecDepth 65536 in
theorem w_named : about1.methodNamed? x = some theMethod := by decide +kernel
set_option maxRecDepth 65536 in
theorem w_hears : about1.hears theMethod below0 = true := by decide +kernel
set_option maxRecDepth 65536 in
theorem w_ripe : about1.ripe theMethod args0 below0 = true := by decide +kernel
theorem w_running : about1.status = .running := rfl
set_option maxRecDepth 65536 in
theorem w_room : about1.hasRoom e0.platform room_1 = true :=
  launch0.hasRoom_least _ room_1 (by decide +kernel) (by decide +kernel) (by decide +kernel) (by decide +kernel) (by decide +kernel) (by decide +kernel)
theorem allAtoms_all (ts : List Jvm.Cond) (a : Array Jvm.Value) (st : Jvm.State) : (allAtoms ts).before a st = ts.all (fun c => c.before a st) := by
  induction ts with
  | nil => rfl
  | cons c t ih =>
    show (Jvm.Cond.and c (allAtoms t)).before a st = _
    rw [Jvm.Cond.before_and, ih, List.all_cons]
def words1 : List Jvm.Cond := Jvm.Cond.code x code maxLocals ret :: tables_1
/-- a 'code' word, met by the world's own term for the bytes: nothing is compared byte by byte -/
theorem code_word {y : MethodName} {bytes : ByteArray} {mx : Nat} {rt : Option FieldType} {a : Array Value} {s : State} {m : MethodId} {meth : Method} {c : Code} (h1 : s.methodNamed? y = some m) (h2 : s.vm.method? m = some meth) (h3 : meth.code = some c) (h4 : c.code = bytes)
    (h5 : (c.maxLocals == mx && c.exceptionTable.isEmpty && decide (c.maxStack ≤ mostOperands) && decide (meth.sig.returnType = rt) && !meth.locks && decide (parseMethodDescriptor y.desc = some meth.sig)) = true) : (Jvm.Cond.code y bytes mx rt).before a s = true := by
  simp only [Bool.and_eq_true, beq_iff_eq, Bool.not_eq_true', decide_eq_true_eq] at h5
  obtain ⟨⟨⟨⟨⟨g1, g2⟩, g3⟩, g4⟩, g5⟩, g6⟩ := h5
  simp [Cond.before, Cond.holds, Cond.value, h1, h2, h3, h4, g1, g2, g3, g4, g5, g6]
def isCode : Jvm.Cond → Bool
  | .code _ _ _ _ => true
  | _ => false
theorem all_split {L : List Jvm.Cond} {P : Jvm.Cond → Bool} (h1 : L.all (fun c => isCode c || P c) = true) (h2 : ∀ c ∈ L.filter isCode, P c = true) : L.all P = true := by
  refine List.all_eq_true.mpr fun c hc => ?_
  have h := List.all_eq_true.mp h1 c hc
  rcases Bool.eq_false_or_eq_true (isCode c) with hi | hi
  · exact h2 c (List.mem_filter.mpr ⟨hc, hi⟩)
  · simpa [hi] using h
set_option maxRecDepth 65536 in
theorem w_c0 : (Jvm.Cond.code x code maxLocals ret).before args0 about1 = true := code_word (m := ⟨1, 1⟩) (meth := k1m1) (c := k1c1) (by decide +kernel) rfl rfl rfl (by decide +kernel)
set_option maxRecDepth 65536 in
theorem w_c1 : (Jvm.Cond.code ({ cls := "java/lang/String", name := "<init>", desc := "([C)V" } : Jvm.MethodName) jdk_42_method_3_code (2 : Nat) (Option.none : Option Jvm.ClassFile.FieldType)).before args0 about1 = true := code_word (m := ⟨7, 1⟩) (meth := k7m1) (c := k7c1) (by decide +kernel) rfl rfl rfl (by decide +kernel)
set_option maxRecDepth 65536 in
theorem w_c2 : (Jvm.Cond.code ({ cls := "java/lang/String", name := "<init>", desc := "([CIILjava/lang/Void;)V" } : Jvm.MethodName) jdk_42_method_149_code (6 : Nat) (Option.none : Option Jvm.ClassFile.FieldType)).before args0 about1 = true := code_word (m := ⟨7, 4⟩) (meth := k7m4) (c := k7c4) (by decide +kernel) rfl rfl rfl (by decide +kernel)
set_option maxRecDepth 65536 in
theorem w_c3 : (Jvm.Cond.code ({ cls := "java/lang/Object", name := "<init>", desc := "()V" } : Jvm.MethodName) object_method_1_code (1 : Nat) (Option.none : Option Jvm.ClassFile.FieldType)).before args0 about1 = true := code_word (m := ⟨0, 0⟩) (meth := k0m0) (c := k0c0) (by decide +kernel) rfl rfl rfl (by decide +kernel)
set_option maxRecDepth 65536 in
theorem w_c4 : (Jvm.Cond.code ({ cls := "com/example/countersign/countersign/Utf8", name := "isAscii", desc := "(Ljava/lang/String;)Z" } : Jvm.MethodName) prog_48_method_3_code (2 : Nat) (Option.some Jvm.ClassFile.FieldType.boolean)).before args0 about1 = true := code_word (m := ⟨8, 1⟩) (meth := k8m1) (c := k8c1) (by decide +kernel) rfl rfl rfl (by decide +kernel)
set_option maxRecDepth 65536 in
theorem w_c5 : (Jvm.Cond.code ({ cls := "java/lang/String", name := "length", desc := "()I" } : Jvm.MethodName) jdk_42_method_54_code (1 : Nat) (Option.some Jvm.ClassFile.FieldType.int)).before args0 about1 = true := code_word (m := ⟨7, 2⟩) (meth := k7m2) (c := k7c2) (by decide +kernel) rfl rfl rfl (by decide +kernel)
set_option maxRecDepth 65536 in
theorem w_c6 : (Jvm.Cond.code ({ cls := "java/lang/String", name := "coder", desc := "()B" } : Jvm.MethodName) jdk_42_method_152_code (1 : Nat) (Option.some Jvm.ClassFile.FieldType.byte)).before args0 about1 = true := code_word (m := ⟨7, 5⟩) (meth := k7m5) (c := k7c5) (by decide +kernel) rfl rfl rfl (by decide +kernel)
set_option maxRecDepth 65536 in
theorem w_c7 : (Jvm.Cond.code ({ cls := "java/lang/StringUTF16", name := "compress", desc := "([CII)[B" } : Jvm.MethodName) jdk_52_method_16_code (6 : Nat) (Option.some (Jvm.ClassFile.FieldType.array Jvm.ClassFile.FieldType.byte))).before args0 about1 = true := code_word (m := ⟨9, 8⟩) (meth := k9m8) (c := k9c8) (by decide +kernel) rfl rfl rfl (by decide +kernel)
set_option maxRecDepth 65536 in
theorem w_c8 : (Jvm.Cond.code ({ cls := "java/lang/StringUTF16", name := "compress", desc := "([CI[BII)I" } : Jvm.MethodName) jdk_52_method_21_code (7 : Nat) (Option.some Jvm.ClassFile.FieldType.int)).before args0 about1 = true := code_word (m := ⟨9, 9⟩) (meth := k9m9) (c := k9c9) (by decide +kernel) rfl rfl rfl (by decide +kernel)
set_option maxRecDepth 65536 in
theorem w_c9 : (Jvm.Cond.code ({ cls := "java/lang/StringUTF16", name := "coderFromArrayLen", desc := "([BI)B" } : Jvm.MethodName) jdk_52_method_15_code (2 : Nat) (Option.some Jvm.ClassFile.FieldType.byte)).before args0 about1 = true := code_word (m := ⟨9, 7⟩) (meth := k9m7) (c := k9c7) (by decide +kernel) rfl rfl rfl (by decide +kernel)
set_option maxRecDepth 65536 in
theorem w_c10 : (Jvm.Cond.code ({ cls := "java/lang/String", name := "charAt", desc := "(I)C" } : Jvm.MethodName) jdk_42_method_56_code (2 : Nat) (Option.some Jvm.ClassFile.FieldType.char)).before args0 about1 = true := code_word (m := ⟨7, 3⟩) (meth := k7m3) (c := k7c3) (by decide +kernel) rfl rfl rfl (by decide +kernel)
set_option maxRecDepth 65536 in
theorem w_c11 : (Jvm.Cond.code ({ cls := "java/lang/String", name := "isLatin1", desc := "()Z" } : Jvm.MethodName) jdk_42_method_154_code (1 : Nat) (Option.some Jvm.ClassFile.FieldType.boolean)).before args0 about1 = true := code_word (m := ⟨7, 6⟩) (meth := k7m6) (c := k7c6) (by decide +kernel) rfl rfl rfl (by decide +kernel)
set_option maxRecDepth 65536 in
theorem w_c12 : (Jvm.Cond.code ({ cls := "java/lang/StringLatin1", name := "charAt", desc := "([BI)C" } : Jvm.MethodName) jdk_43_method_2_code (2 : Nat) (Option.some Jvm.ClassFile.FieldType.char)).before args0 about1 = true := code_word (m := ⟨10, 1⟩) (meth := k10m1) (c := k10c1) (by decide +kernel) rfl rfl rfl (by decide +kernel)
set_option maxRecDepth 65536 in
theorem w_c13 : (Jvm.Cond.code ({ cls := "java/lang/String", name := "checkIndex", desc := "(II)V" } : Jvm.MethodName) jdk_42_method_155_code (2 : Nat) (Option.none : Option Jvm.ClassFile.FieldType)).before args0 about1 = true := code_word (m := ⟨7, 7⟩) (meth := k7m7) (c := k7c7) (by decide +kernel) rfl rfl rfl (by decide +kernel)
set_option maxRecDepth 65536 in
theorem w_c14 : (Jvm.Cond.code ({ cls := "jdk/internal/util/Preconditions", name := "checkIndex", desc := "(IILjava/util/function/BiFunction;)I" } : Jvm.MethodName) jdk_41_method_11_code (3 : Nat) (Option.some Jvm.ClassFile.FieldType.int)).before args0 about1 = true := code_word (m := ⟨11, 1⟩) (meth := k11m1) (c := k11c1) (by decide +kernel) rfl rfl rfl (by decide +kernel)
set_option maxRecDepth 65536 in
theorem w_c15 : (Jvm.Cond.code ({ cls := "java/lang/StringUTF16", name := "toBytes", desc := "([CII)[B" } : Jvm.MethodName) jdk_52_method_14_code (5 : Nat) (Option.some (Jvm.ClassFile.FieldType.array Jvm.ClassFile.FieldType.byte))).before args0 about1 = true := code_word (m := ⟨9, 6⟩) (meth := k9m6) (c := k9c6) (by decide +kernel) rfl rfl rfl (by decide +kernel)
set_option maxRecDepth 65536 in
theorem w_c16 : (Jvm.Cond.code ({ cls := "java/lang/StringUTF16", name := "newBytesFor", desc := "(I)[B" } : Jvm.MethodName) jdk_52_method_2_code (1 : Nat) (Option.some (Jvm.ClassFile.FieldType.array Jvm.ClassFile.FieldType.byte))).before args0 about1 = true := code_word (m := ⟨9, 1⟩) (meth := k9m1) (c := k9c1) (by decide +kernel) rfl rfl rfl (by decide +kernel)
set_option maxRecDepth 65536 in
theorem w_c17 : (Jvm.Cond.code ({ cls := "java/lang/StringUTF16", name := "newBytesLength", desc := "(I)I" } : Jvm.MethodName) jdk_52_method_3_code (1 : Nat) (Option.some Jvm.ClassFile.FieldType.int)).before args0 about1 = true := code_word (m := ⟨9, 2⟩) (meth := k9m2) (c := k9c2) (by decide +kernel) rfl rfl rfl (by decide +kernel)
set_option maxRecDepth 65536 in
theorem w_c18 : (Jvm.Cond.code ({ cls := "java/lang/StringUTF16", name := "putChar", desc := "([BII)V" } : Jvm.MethodName) jdk_52_method_4_code (3 : Nat) (Option.none : Option Jvm.ClassFile.FieldType)).before args0 about1 = true := code_word (m := ⟨9, 3⟩) (meth := k9m3) (c := k9c3) (by decide +kernel) rfl rfl rfl (by decide +kernel)
set_option maxRecDepth 65536 in
theorem w_c19 : (Jvm.Cond.code ({ cls := "java/lang/StringUTF16", name := "getChar", desc := "([BI)C" } : Jvm.MethodName) jdk_52_method_5_code (2 : Nat) (Option.some Jvm.ClassFile.FieldType.char)).before args0 about1 = true := code_word (m := ⟨9, 4⟩) (meth := k9m4) (c := k9c4) (by decide +kernel) rfl rfl rfl (by decide +kernel)
set_option maxRecDepth 65536 in
theorem w_c20 : (Jvm.Cond.code ({ cls := "java/lang/StringUTF16", name := "charAt", desc := "([BI)C" } : Jvm.MethodName) jdk_52_method_83_code (2 : Nat) (Option.some Jvm.ClassFile.FieldType.char)).before args0 about1 = true := code_word (m := ⟨9, 10⟩) (meth := k9m10) (c := k9c10) (by decide +kernel) rfl rfl rfl (by decide +kernel)
set_option maxRecDepth 65536 in
theorem w_c21 : (Jvm.Cond.code ({ cls := "java/lang/StringUTF16", name := "checkIndex", desc := "(I[B)V" } : Jvm.MethodName) jdk_52_method_91_code (2 : Nat) (Option.none : Option Jvm.ClassFile.FieldType)).before args0 about1 = true := code_word (m := ⟨9, 11⟩) (meth := k9m11) (c := k9c11) (by decide +kernel) rfl rfl rfl (by decide +kernel)
set_option maxRecDepth 65536 in
theorem w_c22 : (Jvm.Cond.code ({ cls := "java/lang/StringUTF16", name := "length", desc := "([B)I" } : Jvm.MethodName) jdk_52_method_6_code (1 : Nat) (Option.some Jvm.ClassFile.FieldType.int)).before args0 about1 = true := code_word (m := ⟨9, 5⟩) (meth := k9m5) (c := k9c5) (by decide +kernel) rfl rfl rfl (by decide +kernel)
def codes1 : List Jvm.Cond := [Jvm.Cond.code x code maxLocals ret, Jvm.Cond.code ({ cls := "java/lang/String", name := "<init>", desc := "([C)V" } : Jvm.MethodName) jdk_42_method_3_code (2 : Nat) (Option.none : Option Jvm.ClassFile.FieldType), Jvm.Cond.code ({ cls := "java/lang/String", name := "<init>", desc := "([CIILjava/lang/Void;)V" } : Jvm.MethodName) jdk_42_method_149_code (6 : Nat) (Option.none : Option Jvm.ClassFile.FieldType), Jvm.Cond.code ({ cls := "java/lang/Object", name := "<init>", desc := "()V" } : Jvm.MethodName) object_method_1_code (1 : Nat) (Option.none : Option Jvm.ClassFile.FieldType), Jvm.Cond.code ({ cls := "com/example/countersign/countersign/Utf8", name := "isAscii", desc := "(Ljava/lang/String;)Z" } : Jvm.MethodName) prog_48_method_3_code (2 : Nat) (Option.some Jvm.ClassFile.FieldType.boolean), Jvm.Cond.code ({ cls := "java/lang/String", name := "length", desc := "()I" } : Jvm.MethodName) jdk_42_method_54_code (1 : Nat) (Option.some Jvm.ClassFile.FieldType.int), Jvm.Cond.code ({ cls := "java/lang/String", name := "coder", desc := "()B" } : Jvm.MethodName) jdk_42_method_152_code (1 : Nat) (Option.some Jvm.ClassFile.FieldType.byte), Jvm.Cond.code ({ cls := "java/lang/StringUTF16", name := "compress", desc := "([CII)[B" } : Jvm.MethodName) jdk_52_method_16_code (6 : Nat) (Option.some (Jvm.ClassFile.FieldType.array Jvm.ClassFile.FieldType.byte)), Jvm.Cond.code ({ cls := "java/lang/StringUTF16", name := "compress", desc := "([CI[BII)I" } : Jvm.MethodName) jdk_52_method_21_code (7 : Nat) (Option.some Jvm.ClassFile.FieldType.int), Jvm.Cond.code ({ cls := "java/lang/StringUTF16", name := "coderFromArrayLen", desc := "([BI)B" } : Jvm.MethodName) jdk_52_method_15_code (2 : Nat) (Option.some Jvm.ClassFile.FieldType.byte), Jvm.Cond.code ({ cls := "java/lang/String", name := "charAt", desc := "(I)C" } : Jvm.MethodName) jdk_42_method_56_code (2 : Nat) (Option.some Jvm.ClassFile.FieldType.char), Jvm.Cond.code ({ cls := "java/lang/String", name := "isLatin1", desc := "()Z" } : Jvm.MethodName) jdk_42_method_154_code (1 : Nat) (Option.some Jvm.ClassFile.FieldType.boolean), Jvm.Cond.code ({ cls := "java/lang/StringLatin1", name := "charAt", desc := "([BI)C" } : Jvm.MethodName) jdk_43_method_2_code (2 : Nat) (Option.some Jvm.ClassFile.FieldType.char), Jvm.Cond.code ({ cls := "java/lang/String", name := "checkIndex", desc := "(II)V" } : Jvm.MethodName) jdk_42_method_155_code (2 : Nat) (Option.none : Option Jvm.ClassFile.FieldType), Jvm.Cond.code ({ cls := "jdk/internal/util/Preconditions", name := "checkIndex", desc := "(IILjava/util/function/BiFunction;)I" } : Jvm.MethodName) jdk_41_method_11_code (3 : Nat) (Option.some Jvm.ClassFile.FieldType.int), Jvm.Cond.code ({ cls := "java/lang/StringUTF16", name := "toBytes", desc := "([CII)[B" } : Jvm.MethodName) jdk_52_method_14_code (5 : Nat) (Option.some (Jvm.ClassFile.FieldType.array Jvm.ClassFile.FieldType.byte)), Jvm.Cond.code ({ cls := "java/lang/StringUTF16", name := "newBytesFor", desc := "(I)[B" } : Jvm.MethodName) jdk_52_method_2_code (1 : Nat) (Option.some (Jvm.ClassFile.FieldType.array Jvm.ClassFile.FieldType.byte)), Jvm.Cond.code ({ cls := "java/lang/StringUTF16", name := "newBytesLength", desc := "(I)I" } : Jvm.MethodName) jdk_52_method_3_code (1 : Nat) (Option.some Jvm.ClassFile.FieldType.int), Jvm.Cond.code ({ cls := "java/lang/StringUTF16", name := "putChar", desc := "([BII)V" } : Jvm.MethodName) jdk_52_method_4_code (3 : Nat) (Option.none : Option Jvm.ClassFile.FieldType), Jvm.Cond.code ({ cls := "java/lang/StringUTF16", name := "getChar", desc := "([BI)C" } : Jvm.MethodName) jdk_52_method_5_code (2 : Nat) (Option.some Jvm.ClassFile.FieldType.char), Jvm.Cond.code ({ cls := "java/lang/StringUTF16", name := "charAt", desc := "([BI)C" } : Jvm.MethodName) jdk_52_method_83_code (2 : Nat) (Option.some Jvm.ClassFile.FieldType.char), Jvm.Cond.code ({ cls := "java/lang/StringUTF16", name := "checkIndex", desc := "(I[B)V" } : Jvm.MethodName) jdk_52_method_91_code (2 : Nat) (Option.none : Option Jvm.ClassFile.FieldType), Jvm.Cond.code ({ cls := "java/lang/StringUTF16", name := "length", desc := "([B)I" } : Jvm.MethodName) jdk_52_method_6_code (1 : Nat) (Option.some Jvm.ClassFile.FieldType.int)]
set_option maxRecDepth 65536 in
theorem codes_eq : words1.filter isCode = codes1 := rfl
theorem w_codes : ∀ c ∈ words1.filter isCode, c.before args0 about1 = true := by
  rw [codes_eq]
  intro c hc
  simp only [codes1, List.mem_cons, List.not_mem_nil, or_false] at hc
  rcases hc with rfl | rfl | rfl | rfl | rfl | rfl | rfl | rfl | rfl | rfl | rfl | rfl | rfl | rfl | rfl | rfl | rfl | rfl | rfl | rfl | rfl | rfl | rfl
  · exact w_c0
  · exact w_c1
  · exact w_c2
  · exact w_c3
  · exact w_c4
  · exact w_c5
  · exact w_c6
  · exact w_c7
  · exact w_c8
  · exact w_c9
  · exact w_c10
  · exact w_c11
  · exact w_c12
  · exact w_c13
  · exact w_c14
  · exact w_c15
  · exact w_c16
  · exact w_c17
  · exact w_c18
  · exact w_c19
  · exact w_c20
  · exact w_c21
  · exact w_c22
set_option maxRecDepth 65536 in
theorem w_t1 : (words1.take 24).all (fun c => isCode c || c.before args0 about1) = true := by decide +kernel
set_option maxRecDepth 65536 in
theorem w_t2 : ((words1.drop 24).take 24).all (fun c => isCode c || c.before args0 about1) = true := by decide +kernel
set_option maxRecDepth 65536 in
theorem w_t3 : (((words1.drop 24).drop 24).take 24).all (fun c => isCode c || c.before args0 about1) = true := by decide +kernel
set_option maxRecDepth 65536 in
theorem w_t4 : ((((words1.drop 24).drop 24).drop 24).take 24).all (fun c => isCode c || c.before args0 about1) = true := by decide +kernel
set_option maxRecDepth 65536 in
theorem w_t5 : ((((words1.drop 24).drop 24).drop 24).drop 24).all (fun c => isCode c || c.before args0 about1) = true := by decide +kernel
theorem w_tables : (allAtoms (Jvm.Cond.code x code maxLocals ret :: tables_1)).before args0 about1 = true := by
  rw [allAtoms_all]
  show words1.all (fun c => c.before args0 about1) = true
  refine all_split ?_ w_codes
  rw [← List.take_append_drop 24 words1, List.all_append, w_t1, ← List.take_append_drop 24 (words1.drop 24), List.all_append, w_t2, ← List.take_append_drop 24 ((words1.drop 24).drop 24), List.all_append, w_t3, ← List.take_append_drop 24 (((words1.drop 24).drop 24).drop 24), List.all_append, w_t4, w_t5]
  rfl
set_option maxRecDepth 65536 in
theorem w_rest : rest_1_c.before args0 about1 = true := by decide +kernel
set_option maxRecDepth 65536 in
theorem w_case : (Jvm.Cond.and given_1 narrow_1).before args0 about1 = true := by decide +kernel
set_option maxRecDepth 65536 in
theorem w_consts : constsHeld consts_1 about1 := Jvm.Lit.constsHeldB_iff.mp (by decide +kernel)
theorem w_applies : (headSpec (Jvm.Cond.code x code maxLocals ret :: tables_1) room_1).applies x e0.platform about1 = true :=
  (Spec.applies_iff w_frames).mpr ⟨w_running, w_runnable, w_alone, w_named, w_hears, w_ripe, w_room, w_tables⟩
theorem atStart : AtStart classFile x code maxLocals ret World_1 tables_1 room_1 Calls_1 rest_1 Pre_1 launch0 p0 e0 about1 theMethod args0 below0 :=
  ⟨lists_1, trivial, launch0.admits_env _ _ _, launch0.least_env, fairChoices_fair.cas, fairChoices_fair.clock, w_frames, w_args, w_heap, w_applies, ⟨w_consts, trivial⟩, w_rest, w_case⟩
end start1
theorem witness_1 : WitnessClaimed_1 := ⟨start1.p0, start1.e0, start1.about1, start1.theMethod, start1.args0, start1.below0, start1.atStart⟩
end Jvm.Pilot.@@N@@
