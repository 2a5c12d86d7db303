import JvmDerived
import JvmDerived.Pilot.@@N@@Statement
import JvmDerived.Pilot.@@N@@Code
set_option linter.unusedVariables false
set_option linter.unusedSimpArgs false
namespace Jvm.Pilot.@@N@@
open Jvm Jvm.ClassFile Sem Op Lib Jvm.Free Jvm.Stand Jvm.LawKit Jvm.RoadKit Bundle Jvm.Pilot.@@N@@.Jvm.D
section JU
variable {tb : Tables} [Ours tb] {e : Env} {below : List Frame} {T target : State} {m : MethodId} {c : Code} {g : JFrame}
theorem yI (h : At T m c below) (hx : tb.exec = Jvm.exec) (hg : g.method = m) {cd : Jvm.ClassFile.Cond} {x : Int32} {rest : List Value} {o : Int} (pc0 pc' : Nat) (hpc : g.pc = pc0) (hd : decode c.code g.pc = .ok (.ifCond cd o, 3)) (hs : g.stack = .int x :: rest) (hc : ifCond.holds cd x = true) (hr : Steps tb e below (T.setTop { g with pc := pc', stack := rest }) target) (ho : 0 ≤ (pc0 : Int) + o := by decide) (hp : ((pc0 : Int) + o).toNat = pc' := by decide) : Steps tb e below (T.setTop g) target := XS.ifYes h hx hg hpc hd hs hc ho hp hr
theorem yC (h : At T m c below) (hx : tb.exec = Jvm.exec) (hg : g.method = m) {cd : Jvm.ClassFile.Cond} {x y : Int32} {rest : List Value} {o : Int} (pc0 pc' : Nat) (hpc : g.pc = pc0) (hd : decode c.code g.pc = .ok (.if_icmp cd o, 3)) (hs : g.stack = .int y :: .int x :: rest) (hc : if_icmp.holds cd x y = true) (hr : Steps tb e below (T.setTop { g with pc := pc', stack := rest }) target) (ho : 0 ≤ (pc0 : Int) + o := by decide) (hp : ((pc0 : Int) + o).toNat = pc' := by decide) : Steps tb e below (T.setTop g) target := XS.icmpYes h hx hg hpc hd hs hc ho hp hr
theorem yG (h : At T m c below) (hx : tb.exec = Jvm.exec) (hg : g.method = m) {o : Int} (pc0 pc' : Nat) (hpc : g.pc = pc0) (hd : decode c.code g.pc = .ok (.goto o, 3)) (hr : Steps tb e below (T.setTop { g with pc := pc' }) target) (ho : 0 ≤ (pc0 : Int) + o := by decide) (hp : ((pc0 : Int) + o).toNat = pc' := by decide) : Steps tb e below (T.setTop g) target := XS.goto h hx hg hpc hd ho hp hr
end JU
theorem own_w {a b : Nat} (h : a = b) : a ≤ b := Nat.le_of_eq h
abbrev MFP (l : Launch) (Z : State) (y : MethodName) (bytes : ByteArray) (ml : Nat) (rt : Option FieldType) (rm : Room) (ws : List Jvm.Cond) (A : Array Value) (h0 : Heap) (Q : Option Value → Heap → List Loc → Prop) : Prop :=
  MetFree l y (head1 (Jvm.Cond.code y bytes ml rt :: ws) rm) (fun a U => a = A ∧ Z.Warmed39 U.vm ∧ U.heap = h0) (fun _ _ _ _ _ => True) (fun _ U o U' => ∃ v L, o = .returned v ∧ Q v U'.heap L ∧ FrameEnd U o U' L rm.cells rm.slots)
abbrev MFS (l : Launch) (Z : State) (y : MethodName) (bytes : ByteArray) (ml : Nat) (rt : Option FieldType) (rm : Room) (ws : List Jvm.Cond) (A : Array Value) (h0 : Heap) (Q : Option Value → Heap → List Loc → Prop) : Prop :=
  MetFree l y (head1 (Jvm.Cond.code y bytes ml rt :: ws) rm) (fun a U => a = A ∧ Z.Warmed39 U.vm ∧ U.heap = h0) (fun _ _ _ _ _ => True) (fun _ U o U' => ∃ v L, o = .returned v ∧ Q v U'.heap L ∧ ReturnedEndW U o U' L rm.cells rm.slots)
abbrev MFI (l : Launch) (Z : State) (y : MethodName) (bytes : ByteArray) (ml : Nat) (rt : Option FieldType) (rm : Room) (ws : List Jvm.Cond) (A : Array Value) (h0 : Heap) (Q : Option Value → Heap → List Loc → Prop) : Prop :=
  MetFree l y (head1 (Jvm.Cond.code y bytes ml rt :: ws) rm) (fun a U => a = A ∧ Z.Warmed39 U.vm ∧ U.heap = h0 ∧ U.vm.interned = Z.vm.interned) (fun _ _ _ _ _ => True) (fun _ U o U' => ∃ v L, o = .returned v ∧ Q v U'.heap L ∧ ReturnedEndW U o U' L rm.cells rm.slots)
abbrev Kt (p : Program) (e : Env) (below : List Frame) (T st0 : State) (g : JFrame) : Prop := ∀ t, Steps p.tables e below (T.setTop g) t → Steps p.tables e below st0 t
section KL
variable {p : Program} {l : Launch} {e : Env} {R : Room} {s : State} {m : MethodId} {args : Array Value} {below : List Frame} {meth : Method} {c : Code} {T : State} {locs : List Loc} {cells slots : Nat} {Z : State} {a0 : Array Value} {h : Heap} {st0 : State} {g : JFrame}
theorem kget (X : Stand p l e R s m args below meth c T locs cells slots) (hx : p.tables.exec = Jvm.exec) (hZ : Z.Warmed39 s.vm) {own R0 O n d host : String} {index : Nat} (hown : s.vm.findClass own = some m.cls) (w : (Jvm.Cond.fieldLink own index R0 n d).before a0 Z = true ∨ (Jvm.Cond.fieldLinkNest own index R0 n d host).before a0 Z = true) (via : Via Z R0 O n d) (eT : T.heap = h) {a : Addr} {v : Value} (F : Fld Z h a O n d v) (k : Kt p e below T st0 g) (hg : g.method = m) {rest : List Value} (hs : g.stack = .ref a :: rest) (hd : decode c.code g.pc = .ok (.getfield index, 3)) :
    ∃ T', Stand p l e R s m args below meth c T' locs cells slots ∧ T'.heap = h ∧ Kt p e below T' st0 { g with pc := g.pc + 3, stack := v :: rest } := by
  obtain ⟨T', X', e', st⟩ := getF X hx hZ hown w via eT F hg hs hd
  exact ⟨T', X', e', fun t q => k t (st t q)⟩
theorem kgetS (X : Stand p l e R s m args below meth c T locs cells slots) (hx : p.tables.exec = Jvm.exec) (hZ : Z.Warmed39 s.vm) {own R0 O n d host : String} {index : Nat} (hown : s.vm.findClass own = some m.cls) (w : (Jvm.Cond.fieldLink own index R0 n d).before a0 Z = true ∨ (Jvm.Cond.fieldLinkNest own index R0 n d host).before a0 Z = true) (via : Via Z R0 O n d) (eT : T.heap = h) {v : Value} (F : Sta Z h O n d v) (k : Kt p e below T st0 g) (hg : g.method = m) (hd : decode c.code g.pc = .ok (.getstatic index, 3)) :
    ∃ T', Stand p l e R s m args below meth c T' locs cells slots ∧ T'.heap = h ∧ Kt p e below T' st0 { g with pc := g.pc + 3, stack := v :: g.stack } := by
  obtain ⟨T', X', e', st⟩ := getS2 X hx hZ hown w via eT F hg hd
  exact ⟨T', X', e', fun t q => k t (st t q)⟩
theorem kput (X : Stand p l e R s m args below meth c T locs cells slots) (hx : p.tables.exec = Jvm.exec) (hZ : Z.Warmed39 s.vm) {own R0 O n d host C : String} {index kk : Nat} (ty : FieldType) (hown : s.vm.findClass own = some m.cls) (w : (Jvm.Cond.fieldLink own index R0 n d).before a0 Z = true ∨ (Jvm.Cond.fieldLinkNest own index R0 n d host).before a0 Z = true) (via : Via Z R0 O n d) (eT : T.heap = h) {a : Addr} {v old : Value} (F : Fld Z h a O n d old) (E : Exa Z h a C) (L : (Jvm.Cond.lays C O n d).before a0 Z = true ∨ ((Jvm.Cond.laysFinal C O n d).before a0 Z = true ∧ own = O ∧ meth.name = "<init>")) (wi : (Jvm.Cond.instantiable C kk).before a0 Z = true)
    (k : Kt p e below T st0 g) (hg : g.method = m) {rest : List Value} (hs : g.stack = v :: .ref a :: rest) (hd : decode c.code g.pc = .ok (.putfield index, 3)) (hty : parseFieldDescriptor d = some ty) (hn : narrow ty v = v) (hf : fits ty v = true) {n0 : Nat} (O0 : Old Z n0 h) (N : Fr n0 locs) (ge : n0 ≤ a) :
    ∃ T' h', Stand p l e R s m args below meth c T' (locs ++ [⟨a, Jvm.RoadKit.slotOf Z O n d⟩]) cells slots ∧ T'.heap = h' ∧ Wr h h' a (Jvm.RoadKit.slotOf Z O n d) v ∧ Fld Z h' a O n d v ∧ Old Z n0 h' ∧ Fr n0 (locs ++ [⟨a, Jvm.RoadKit.slotOf Z O n d⟩]) ∧ Kt p e below T' st0 { g with pc := g.pc + 3, stack := rest } := by
  obtain ⟨T', h', X', e', W, st⟩ := putF X hx hZ hown w via eT F E L wi hty hn hf hg hs hd
  exact ⟨T', h', X', e', W, F.same W, O0.wr W ge, Fr.snoc X' N ge, fun t q => k t (st t q)⟩
theorem kputN (X : Stand p l e R s m args below meth c T locs cells slots) (hx : p.tables.exec = Jvm.exec) (hZ : Z.Warmed39 s.vm) {own R0 O n d C : String} {index kk : Nat} (ty : FieldType) (hown : s.vm.findClass own = some m.cls) (w : (Jvm.Cond.fieldLink own index R0 n d).before a0 Z = true) (via : Via Z R0 O n d) (eT : T.heap = h) {a : Addr} {v v' old : Value} (F : Fld Z h a O n d old) (E : Exa Z h a C) (L : (Jvm.Cond.lays C O n d).before a0 Z = true ∨ ((Jvm.Cond.laysFinal C O n d).before a0 Z = true ∧ own = O ∧ meth.name = "<init>")) (wi : (Jvm.Cond.instantiable C kk).before a0 Z = true)
    (k : Kt p e below T st0 g) (hg : g.method = m) {rest : List Value} (hs : g.stack = v :: .ref a :: rest) (hd : decode c.code g.pc = .ok (.putfield index, 3)) (hty : parseFieldDescriptor d = some ty) (hn : narrow ty v = v') (hf : fits ty v' = true) {n0 : Nat} (O0 : Old Z n0 h) (N : Fr n0 locs) (ge : n0 ≤ a) :
    ∃ T' h', Stand p l e R s m args below meth c T' (locs ++ [⟨a, Jvm.RoadKit.slotOf Z O n d⟩]) cells slots ∧ T'.heap = h' ∧ Wr h h' a (Jvm.RoadKit.slotOf Z O n d) v' ∧ Fld Z h' a O n d v' ∧ Old Z n0 h' ∧ Fr n0 (locs ++ [⟨a, Jvm.RoadKit.slotOf Z O n d⟩]) ∧ Kt p e below T' st0 { g with pc := g.pc + 3, stack := rest } := by
  obtain ⟨T', h', X', e', W, st⟩ := putFN X hx hZ hown w via eT F E L wi hty hn hf hg hs hd
  exact ⟨T', h', X', e', W, F.same W, O0.wr W ge, Fr.snoc X' N ge, fun t q => k t (st t q)⟩
theorem kcast (X : Stand p l e R s m args below meth c T locs cells slots) (hx : p.tables.exec = Jvm.exec) (hZ : Z.Warmed39 s.vm) {own K : String} {index : Nat} (hown : s.vm.findClass own = some m.cls) (w : (Jvm.Cond.classLink own index K).before a0 Z = true) (eT : T.heap = h) {a : Addr} (F : Ins Z h a K true) (k : Kt p e below T st0 g) (hg : g.method = m) {rest : List Value} (hs : g.stack = .ref a :: rest) (hd : decode c.code g.pc = .ok (.checkcast index, 3)) :
    ∃ T', Stand p l e R s m args below meth c T' locs cells slots ∧ T'.heap = h ∧ Kt p e below T' st0 { g with pc := g.pc + 3 } := by
  obtain ⟨T', X', e', st⟩ := castY X hx hZ hown w eT F hg hs hd
  exact ⟨T', X', e', fun t q => k t (st t q)⟩
theorem kinst (X : Stand p l e R s m args below meth c T locs cells slots) (hx : p.tables.exec = Jvm.exec) (hZ : Z.Warmed39 s.vm) {own K : String} {index : Nat} (hown : s.vm.findClass own = some m.cls) (w : (Jvm.Cond.classLink own index K).before a0 Z = true) (eT : T.heap = h) {a : Addr} (F : Ins Z h a K true) (k : Kt p e below T st0 g) (hg : g.method = m) {rest : List Value} (hs : g.stack = .ref a :: rest) (hd : decode c.code g.pc = .ok (.instanceof index, 3)) :
    ∃ T', Stand p l e R s m args below meth c T' locs cells slots ∧ T'.heap = h ∧ Kt p e below T' st0 { g with pc := g.pc + 3, stack := .int 1 :: rest } := by
  obtain ⟨T', X', e', st⟩ := instY X hx hZ hown w eT F hg hs hd
  exact ⟨T', X', e', fun t q => k t (st t q)⟩
theorem knew (X : Stand p l e R s m args below meth c T locs cells slots) (hx : p.tables.exec = Jvm.exec) (hZ : Z.Warmed39 s.vm) {own C : String} {index n : Nat} (hown : s.vm.findClass own = some m.cls) (w : (Jvm.Cond.classLink own index C).before a0 Z = true) (wi : (Jvm.Cond.instantiable C n).before a0 Z = true) (wz : (Jvm.Cond.initialized C).before a0 Z = true) (eT : T.heap = h) (k : Kt p e below T st0 g) (hg : g.method = m) (hd : decode c.code g.pc = .ok (.new index, 3)) (hc : cells + 1 ≤ R.cells) (hl : slots + n ≤ R.slots) {n0 : Nat} (O0 : Old Z n0 h) :
    ∃ b T' h', h.size ≤ b ∧ n0 ≤ b ∧ Stand p l e R s m args below meth c T' locs (cells + 1) (slots + n) ∧ T'.heap = h' ∧ Ext h h' ∧ Old Z n0 h' ∧ Exa Z h' b C ∧ (∀ {O nm d : String} {ty : FieldType}, Jvm.RoadKit.Laid Z a0 C O nm d → parseFieldDescriptor d = some ty → Fld Z h' b O nm d (defaultValue ty)) ∧ (∃ cell : Cell, h'[b]? = some cell ∧ cell.vm = .none ∧ cell.monitor = {}) ∧ Kt p e below T' st0 { g with pc := g.pc + 3, stack := .ref b :: g.stack } := by
  obtain ⟨T', h', X', e', E, A, D, U, st⟩ := newO X hx hZ hown w wi wz eT hg hd hc hl
  exact ⟨h.size, T', h', Nat.le_refl _, Nat.le_trans (Nat.le_of_eq O0.1.symm) O0.2.1, X', e', E, O0.ext E, A, D, U, fun t q => k t (st t q)⟩
theorem knewP (X : Stand p l e R s m args below meth c T locs cells slots) (hx : p.tables.exec = Jvm.exec) (hZ : Z.Warmed39 s.vm) {aty : ArrayType} (w : (Jvm.Cond.arrayClass (newarray.typeOf aty)).before a0 Z = true) (eT : T.heap = h) (k : Kt p e below T st0 g) (hg : g.method = m) (hd : decode c.code g.pc = .ok (.newarray aty, 2)) {n : Int32} {rest : List Value} (hs : g.stack = .int n :: rest) (hn : ¬ n < 0) (cap : Nat) (hcap : n.toNatClampNeg ≤ cap) (hb : cap * 8 ≤ 536870912) (hc : cells + 1 ≤ R.cells) (hl : slots + cap ≤ R.slots) {n0 : Nat} (O0 : Old Z n0 h) :
    ∃ b T' h' cA, h.size ≤ b ∧ n0 ≤ b ∧ Stand p l e R s m args below meth c T' locs (cells + 1) (slots + cap) ∧ T'.heap = h' ∧ Ext h h' ∧ Old Z n0 h' ∧ Arv Z h' b cA (newarray.typeOf aty) n [] (defaultValue (newarray.typeOf aty)) ∧ Kt p e below T' st0 { g with pc := g.pc + 2, stack := .ref b :: rest } := by
  obtain ⟨T', h', cA, X', e', E, A, st⟩ := newP X hx hZ w eT hg hd hs hn hcap hb hc hl
  exact ⟨h.size, T', h', cA, Nat.le_refl _, Nat.le_trans (Nat.le_of_eq O0.1.symm) O0.2.1, X', e', E, O0.ext E, Arv.new A hn, fun t q => k t (st t q)⟩
theorem kinit (X : Stand p l e R s m args below meth c T locs cells slots) (hx : p.tables.exec = Jvm.exec) (hZ : Z.Warmed39 s.vm) {own : String} {idx : Nat} (hown : s.vm.findClass own = some m.cls) (w1 : (Jvm.Cond.methodLink own idx Lib.objectInit).before a0 Z = true) (w2 : (Jvm.Cond.instanceMethod Lib.objectInit).before a0 Z = true) (w3 : (Jvm.Cond.code Lib.objectInit ⟨#[0xb1]⟩ 1 none).before a0 Z = true) (eT : T.heap = h) (k : Kt p e below T st0 g) (hg : g.method = m) {M : Nat} (hml : c.maxLocals = M) (hsize : g.locals.size = M) {a : Addr} {rest : List Value} (hs : g.stack = .ref a :: rest) (hd : decode c.code g.pc = .ok (.invokespecial idx, 3)) (W : Nat) (hW : 2 * g.monitorRoom + (rest.map fun v => v.category).sum ≤ W) (hf : 1 ≤ R.frames) (hl : W + 12 ≤ R.locals) :
    ∃ T', Stand p l e R s m args below meth c T' locs cells slots ∧ T'.heap = h ∧ Kt p e below T' st0 { g with pc := g.pc + 3, stack := rest } := by
  obtain ⟨T', X', e', st⟩ := initO X hx hZ hown w1 w2 w3 eT hg (hsize.trans hml.symm) hs hd hf hW hl
  exact ⟨T', X', e', fun t q => k t (st t q)⟩
theorem kstC (X : Stand p l e R s m args below meth c T locs cells slots) (hx : p.tables.exec = Jvm.exec) (hZ : Z.Warmed39 s.vm) (eT : T.heap = h) {a : Addr} {ka : ClassId} {z : Int32} {vs : List Value} {dv : Value} (A : Arv Z h a ka .char z vs dv) {j x : Int32} (q1 : ¬ j < 0) (q2 : j < z) (i : Nat) (hj : j.toNatClampNeg = i) (hi : i < vs.length) (k : Kt p e below T st0 g) (hg : g.method = m) {rest : List Value} (hs : g.stack = .int x :: .int j :: .ref a :: rest) (hd : decode c.code g.pc = .ok (.castore, 1)) {n0 : Nat} (O0 : Old Z n0 h) (N : Fr n0 locs) (ge : n0 ≤ a) :
    ∃ T' h', Stand p l e R s m args below meth c T' (locs ++ [⟨a, j.toNatClampNeg⟩]) cells slots ∧ T'.heap = h' ∧ Wr h h' a j.toNatClampNeg (.int (nar .char x)) ∧ Arv Z h' a ka .char z (vs.set i (.int (nar .char x))) dv ∧ Old Z n0 h' ∧ Fr n0 (locs ++ [⟨a, j.toNatClampNeg⟩]) ∧ Kt p e below T' st0 { g with pc := g.pc + 1, stack := rest } := by
  obtain ⟨cl, Ar, b1, S, M, H, G⟩ := A
  obtain ⟨T', h', X', e', W, st⟩ := stC X hx hZ eT Ar (inb_of S ⟨q1, q2⟩) hg hs hd
  exact ⟨T', h', X', e', W, Arv.set Ar b1 S M H G (fits_nar_char _) W i hj hi, O0.wr W ge, Fr.snoc X' N ge, fun t q => k t (st t q)⟩
theorem kstB (X : Stand p l e R s m args below meth c T locs cells slots) (hx : p.tables.exec = Jvm.exec) (hZ : Z.Warmed39 s.vm) (eT : T.heap = h) {a : Addr} {ka : ClassId} {z : Int32} {vs : List Value} {dv : Value} (A : Arv Z h a ka .byte z vs dv) {j x : Int32} (q1 : ¬ j < 0) (q2 : j < z) (i : Nat) (hj : j.toNatClampNeg = i) (hi : i < vs.length) (k : Kt p e below T st0 g) (hg : g.method = m) {rest : List Value} (hs : g.stack = .int x :: .int j :: .ref a :: rest) (hd : decode c.code g.pc = .ok (.bastore, 1)) {n0 : Nat} (O0 : Old Z n0 h) (N : Fr n0 locs) (ge : n0 ≤ a) :
    ∃ T' h', Stand p l e R s m args below meth c T' (locs ++ [⟨a, j.toNatClampNeg⟩]) cells slots ∧ T'.heap = h' ∧ Wr h h' a j.toNatClampNeg (.int (nar .byte x)) ∧ Arv Z h' a ka .byte z (vs.set i (.int (nar .byte x))) dv ∧ Old Z n0 h' ∧ Fr n0 (locs ++ [⟨a, j.toNatClampNeg⟩]) ∧ Kt p e below T' st0 { g with pc := g.pc + 1, stack := rest } := by
  obtain ⟨cl, Ar, b1, S, M, H, G⟩ := A
  obtain ⟨T', h', X', e', W, st⟩ := stB X hx hZ eT Ar (inb_of S ⟨q1, q2⟩) hg hs hd
  exact ⟨T', h', X', e', W, Arv.set Ar b1 S M H G (fits_nar_byte _) W i hj hi, O0.wr W ge, Fr.snoc X' N ge, fun t q => k t (st t q)⟩
theorem kstI (X : Stand p l e R s m args below meth c T locs cells slots) (hx : p.tables.exec = Jvm.exec) (hZ : Z.Warmed39 s.vm) (eT : T.heap = h) {a : Addr} {ka : ClassId} {z : Int32} {vs : List Value} {dv : Value} (A : Arv Z h a ka .int z vs dv) {j x : Int32} (q1 : ¬ j < 0) (q2 : j < z) (i : Nat) (hj : j.toNatClampNeg = i) (hi : i < vs.length) (k : Kt p e below T st0 g) (hg : g.method = m) {rest : List Value} (hs : g.stack = .int x :: .int j :: .ref a :: rest) (hd : decode c.code g.pc = .ok (.iastore, 1)) {n0 : Nat} (O0 : Old Z n0 h) (N : Fr n0 locs) (ge : n0 ≤ a) :
    ∃ T' h', Stand p l e R s m args below meth c T' (locs ++ [⟨a, j.toNatClampNeg⟩]) cells slots ∧ T'.heap = h' ∧ Wr h h' a j.toNatClampNeg (.int x) ∧ Arv Z h' a ka .int z (vs.set i (.int x)) dv ∧ Old Z n0 h' ∧ Fr n0 (locs ++ [⟨a, j.toNatClampNeg⟩]) ∧ Kt p e below T' st0 { g with pc := g.pc + 1, stack := rest } := by
  obtain ⟨cl, Ar, b1, S, M, H, G⟩ := A
  obtain ⟨T', h', X', e', W, st⟩ := stI X hx hZ eT Ar (inb_of S ⟨q1, q2⟩) hg hs hd
  exact ⟨T', h', X', e', W, Arv.set Ar b1 S M H G rfl W i hj hi, O0.wr W ge, Fr.snoc X' N ge, fun t q => k t (st t q)⟩
theorem ldC {t : State} (X : Stand p l e R s m args below meth c T locs cells slots) (hx : p.tables.exec = Jvm.exec) (hZ : Z.Warmed39 s.vm) (eT : T.heap = h) {a : Addr} {ka : ClassId} {z : Int32} {vs : List Value} {dv v : Value} (A : Arv Z h a ka .char z vs dv) {j : Int32} (q1 : ¬ j < 0) (q2 : j < z) (hv : vs.getD j.toNatClampNeg dv = v) (hg : g.method = m) {rest : List Value} (hs : g.stack = .int j :: .ref a :: rest) (hd : decode c.code g.pc = .ok (.caload, 1)) (q : Steps p.tables e below (T.setTop { g with pc := g.pc + 1, stack := v :: rest }) t) : Steps p.tables e below (T.setTop g) t := by
  obtain ⟨cl, Ar, b1, S, M, H, G⟩ := A
  exact X.caload hx (by rw [eT]; exact Ar.1) (State.isArrayOf_alike hZ.alike Ar.2.1) Ar.2.2 (inb_of S ⟨q1, q2⟩) (Has.at H (inb_of S ⟨q1, q2⟩) hv) hg hs hd _ q
theorem ldB {t : State} (X : Stand p l e R s m args below meth c T locs cells slots) (hx : p.tables.exec = Jvm.exec) (hZ : Z.Warmed39 s.vm) (eT : T.heap = h) {a : Addr} {ka : ClassId} {z : Int32} {vs : List Value} {dv v : Value} (A : Arv Z h a ka .byte z vs dv) {j : Int32} (q1 : ¬ j < 0) (q2 : j < z) (hv : vs.getD j.toNatClampNeg dv = v) (hg : g.method = m) {rest : List Value} (hs : g.stack = .int j :: .ref a :: rest) (hd : decode c.code g.pc = .ok (.baload, 1)) (q : Steps p.tables e below (T.setTop { g with pc := g.pc + 1, stack := v :: rest }) t) : Steps p.tables e below (T.setTop g) t := by
  obtain ⟨cl, Ar, b1, S, M, H, G⟩ := A
  exact X.baloadBytes hx (by rw [eT]; exact Ar.1) (State.isArrayOf_alike hZ.alike Ar.2.1) Ar.2.2 (inb_of S ⟨q1, q2⟩) (Has.at H (inb_of S ⟨q1, q2⟩) hv) hg hs hd _ q
theorem ldI {t : State} (X : Stand p l e R s m args below meth c T locs cells slots) (hx : p.tables.exec = Jvm.exec) (hZ : Z.Warmed39 s.vm) (eT : T.heap = h) {a : Addr} {ka : ClassId} {z : Int32} {vs : List Value} {dv v : Value} (A : Arv Z h a ka .int z vs dv) {j : Int32} (q1 : ¬ j < 0) (q2 : j < z) (hv : vs.getD j.toNatClampNeg dv = v) (hg : g.method = m) {rest : List Value} (hs : g.stack = .int j :: .ref a :: rest) (hd : decode c.code g.pc = .ok (.iaload, 1)) (q : Steps p.tables e below (T.setTop { g with pc := g.pc + 1, stack := v :: rest }) t) : Steps p.tables e below (T.setTop g) t := by
  obtain ⟨cl, Ar, b1, S, M, H, G⟩ := A
  exact X.iaload hx (by rw [eT]; exact Ar.1) (State.isArrayOf_alike hZ.alike Ar.2.1) Ar.2.2 (inb_of S ⟨q1, q2⟩) (Has.at H (inb_of S ⟨q1, q2⟩) hv) hg hs hd _ q
theorem ldA {t : State} (X : Stand p l e R s m args below meth c T locs cells slots) (hx : p.tables.exec = Jvm.exec) (hZ : Z.Warmed39 s.vm) (eT : T.heap = h) {a : Addr} {ka : ClassId} {C : String} {z : Int32} {vs : List Value} {dv v : Value} (A : Arv Z h a ka (.object C) z vs dv) {j : Int32} (q1 : ¬ j < 0) (q2 : j < z) (hv : vs.getD j.toNatClampNeg dv = v) (hg : g.method = m) {rest : List Value} (hs : g.stack = .int j :: .ref a :: rest) (hd : decode c.code g.pc = .ok (.aaload, 1)) (q : Steps p.tables e below (T.setTop { g with pc := g.pc + 1, stack := v :: rest }) t) : Steps p.tables e below (T.setTop g) t := by
  obtain ⟨cl, Ar, b1, S, M, H, G⟩ := A
  exact X.aaload hx (by rw [eT]; exact Ar.1) (State.isArrayOf_alike hZ.alike Ar.2.1) rfl Ar.2.2 (inb_of S ⟨q1, q2⟩) (Has.at H (inb_of S ⟨q1, q2⟩) hv) hg hs hd _ q
theorem ldLen {t : State} (X : Stand p l e R s m args below meth c T locs cells slots) (hx : p.tables.exec = Jvm.exec) (hZ : Z.Warmed39 s.vm) (eT : T.heap = h) {a : Addr} {ka : ClassId} {ty : FieldType} {z : Int32} {vs : List Value} {dv : Value} (A : Arv Z h a ka ty z vs dv) (hg : g.method = m) {rest : List Value} (hs : g.stack = .ref a :: rest) (hd : decode c.code g.pc = .ok (.arraylength, 1)) (q : Steps p.tables e below (T.setTop { g with pc := g.pc + 1, stack := .int z :: rest }) t) : Steps p.tables e below (T.setTop g) t := by
  obtain ⟨cl, Ar, b1, S, M, H, G⟩ := A
  refine X.arraylength hx (by rw [eT]; exact Ar.1) (State.isArrayOf_alike hZ.alike Ar.2.1) hg hs hd _ ?_
  rw [len_of S M]; exact q
variable {y z : MethodName} {bytes : ByteArray} {ml : Nat} {rt : Option FieldType} {rm : Room} {as' : Array Value} {Q : Option Value → Heap → List Loc → Prop}
theorem kstat (X : Stand p l e R s m args below meth c T locs cells slots) (hx : p.tables.exec = Jvm.exec) (hZ : Z.Warmed39 s.vm) {own : String} {index : Nat} (hown : s.vm.findClass own = some m.cls) (w1 : (Jvm.Cond.methodLink own index y).before a0 Z = true) (w2 : (Jvm.Cond.static y).before a0 Z = true) (w3 : (Jvm.Cond.initialized y.cls).before a0 Z = true) (w4 : (Jvm.Cond.code y bytes ml rt).before a0 Z = true) (hM : MFP l Z y bytes ml rt rm [] as' h Q) (eT : T.heap = h) (k : Kt p e below T st0 g) {M : Nat} (hml : c.maxLocals = M) {ps : List FieldType} {r : Option FieldType} (pd : parseMethodDescriptor y.desc = some ⟨ps, r⟩) (argsL rest : List Value) (W : Nat) (hd : decode c.code g.pc = .ok (.invokestatic index, 3))
    (hg : g.method = m) (hsize : g.locals.size = M) (hln : argsL.length = ps.length) (hst : g.stack = argsL.reverse ++ rest) (ha : argsL.toArray = as') (hW : 2 * g.monitorRoom + (rest.map fun v => v.category).sum = W) (hy : y.cls ≠ "java/lang/invoke/MethodHandle" ∧ y.cls ≠ "java/lang/invoke/VarHandle" := by decide) (hf : rm.frames + 1 ≤ R.frames := by decide) (hl : W + (ml + 11) + rm.locals ≤ R.locals := by decide) (hc : cells + rm.cells ≤ R.cells := by decide) (hs : slots + rm.slots ≤ R.slots := by decide) :
    ∃ v T' L', Stand p l e R s m args below meth c T' (locs ++ L') (cells + rm.cells) (slots + rm.slots) ∧ Q v T'.heap L' ∧ Kt p e below T' st0 { g with pc := g.pc + 3, stack := v.toList ++ rest } := by
  obtain ⟨v, _, ⟨T', L, k', n'⟩, -, X', ⟨Lc, hQ, e1, e2, e3⟩, st⟩ := Jvm.LawKit.callS X hx hown (mvT hZ w1) (mvT hZ w2) (mvT hZ w3) (mvT hZ w4) hy (backOf (W := W) hM hZ w4 w3 hf hl) hg (hsize.trans hml.symm) (argsL := argsL) (rest := rest) (lenOf pd hln) hst (Nat.le_of_eq hW) hd (fun _ _ => ⟨ha, eT, hc, hs⟩)
  dsimp only [Pt.U, Pt.locs, Pt.cells, Pt.slots] at X' e1 e2 e3 st hQ
  subst e1 e2 e3
  exact ⟨v, T', Lc, X', hQ, fun t q => k t (st t q)⟩
theorem kspec (X : Stand p l e R s m args below meth c T locs cells slots) (hx : p.tables.exec = Jvm.exec) (hZ : Z.Warmed39 s.vm) {own : String} {index : Nat} (hown : s.vm.findClass own = some m.cls) (w1 : (Jvm.Cond.methodLink own index y).before a0 Z = true) (w2 : (Jvm.Cond.instanceMethod y).before a0 Z = true) (w3 : (Jvm.Cond.initialized y.cls).before a0 Z = true) (w4 : (Jvm.Cond.code y bytes ml none).before a0 Z = true) (hM : MFP l Z y bytes ml none rm [] as' h Q) (eT : T.heap = h) (k : Kt p e below T st0 g) {M : Nat} (hml : c.maxLocals = M) {ps : List FieldType} {r : Option FieldType} (pd : parseMethodDescriptor y.desc = some ⟨ps, r⟩) (a : Addr) (argsL rest : List Value) (W : Nat) (hd : decode c.code g.pc = .ok (.invokespecial index, 3))
    (hg : g.method = m) (hsize : g.locals.size = M) (hln : argsL.length = ps.length) (hst : g.stack = argsL.reverse ++ .ref a :: rest) (ha : (Value.ref a :: argsL).toArray = as') (hW : 2 * g.monitorRoom + (rest.map fun v => v.category).sum = W) (hy1 : y.name = "<init>" := by rfl) (hy : y.cls ≠ "java/lang/invoke/MethodHandle" ∧ y.cls ≠ "java/lang/invoke/VarHandle" := by decide) (hf : rm.frames + 1 ≤ R.frames := by decide) (hl : W + (ml + 11) + rm.locals ≤ R.locals := by decide) (hc : cells + rm.cells ≤ R.cells := by decide) (hs : slots + rm.slots ≤ R.slots := by decide) :
    ∃ v T' L', Stand p l e R s m args below meth c T' (locs ++ L') (cells + rm.cells) (slots + rm.slots) ∧ Q v T'.heap L' ∧ Kt p e below T' st0 { g with pc := g.pc + 3, stack := v.toList ++ rest } := by
  obtain ⟨v, _, ⟨T', L, k', n'⟩, -, X', ⟨Lc, hQ, e1, e2, e3⟩, st⟩ := X.specialBack hx hy1 hown (mvT hZ w1) (mvT hZ w2) (mvT hZ w4) hy (backOf (W := W) hM hZ w4 w3 hf hl) hg (hsize.trans hml.symm) (Steps.refl _) (a := a) (argsL := argsL) (rest := rest) (lenOf pd hln) hst (Nat.le_of_eq hW) hd (fun _ _ => ⟨ha, eT, hc, hs⟩)
  dsimp only [Pt.U, Pt.locs, Pt.cells, Pt.slots] at X' e1 e2 e3 st hQ
  subst e1 e2 e3
  exact ⟨v, T', Lc, X', hQ, fun t q => k t (st.trans q)⟩
theorem kvirt (X : Stand p l e R s m args below meth c T locs cells slots) (hx : p.tables.exec = Jvm.exec) (hZ : Z.Warmed39 s.vm) {own C : String} {index : Nat} (hown : s.vm.findClass own = some m.cls) (w1 : (Jvm.Cond.methodLink own index y).before a0 Z = true) (w2 : (Jvm.Cond.declares y).before a0 Z = true) (w3 : (Jvm.Cond.selects C y y).before a0 Z = true) (w4 : (Jvm.Cond.instanceMethod y).before a0 Z = true) (w5 : (Jvm.Cond.code y bytes ml rt).before a0 Z = true) (w6 : (Jvm.Cond.initialized y.cls).before a0 Z = true) (hM : MFP l Z y bytes ml rt rm [] as' h Q) (eT : T.heap = h) {b : Addr} (E : Exa Z h b C) (k : Kt p e below T st0 g) {M : Nat} (hml : c.maxLocals = M) {ps : List FieldType} {r : Option FieldType} (pd : parseMethodDescriptor y.desc = some ⟨ps, r⟩) (argsL rest : List Value) (W : Nat) (hd : decode c.code g.pc = .ok (.invokevirtual index, 3))
    (hg : g.method = m) (hsize : g.locals.size = M) (hln : argsL.length = ps.length) (hst : g.stack = argsL.reverse ++ .ref b :: rest) (ha : (Value.ref b :: argsL).toArray = as') (hW : 2 * g.monitorRoom + (rest.map fun v => v.category).sum = W) (hy : y.cls ≠ "java/lang/invoke/MethodHandle" ∧ y.cls ≠ "java/lang/invoke/VarHandle" := by decide) (hf : rm.frames + 1 ≤ R.frames := by decide) (hl : W + (ml + 11) + rm.locals ≤ R.locals := by decide) (hc : cells + rm.cells ≤ R.cells := by decide) (hs : slots + rm.slots ≤ R.slots := by decide) :
    ∃ v T' L', Stand p l e R s m args below meth c T' (locs ++ L') (cells + rm.cells) (slots + rm.slots) ∧ Q v T'.heap L' ∧ Kt p e below T' st0 { g with pc := g.pc + 3, stack := v.toList ++ rest } := by
  obtain ⟨cB, kB, qa, qb, qc⟩ := isOf hZ eT E
  obtain ⟨v, _, ⟨T', L, k', n'⟩, -, X', ⟨Lc, hQ, e1, e2, e3⟩, st⟩ := X.virtualBack hx (y := y) (z := y) hown (mvT hZ w1) (mvT hZ w2) (notFace_of_selects (args := #[]) (mvT hZ w3)) (mvT hZ w3) (mvT hZ w4) hy (backOf (W := W) hM hZ w5 w6 hf hl) qa qc hg (hsize.trans hml.symm) (Steps.refl _) (argsL := argsL) (rest := rest) (lenOf pd hln) hst (Nat.le_of_eq hW) hd (fun _ _ => ⟨ha, eT, hc, hs⟩)
  dsimp only [Pt.U, Pt.locs, Pt.cells, Pt.slots] at X' e1 e2 e3 st hQ
  subst e1 e2 e3
  exact ⟨v, T', Lc, X', hQ, fun t q => k t (st.trans q)⟩
theorem kface (X : Stand p l e R s m args below meth c T locs cells slots) (hx : p.tables.exec = Jvm.exec) (hZ : Z.Warmed39 s.vm) {own C : String} {index count : Nat} (hown : s.vm.findClass own = some m.cls) (w1 : (Jvm.Cond.methodLink own index y).before a0 Z = true) (w2 : (Jvm.Cond.declares y).before a0 Z = true) (w3 : (Jvm.Cond.interfaceMethod y.cls y.cls y.name y.desc).before a0 Z = true) (w4 : (Jvm.Cond.selects C y z).before a0 Z = true) (w5 : (Jvm.Cond.instanceMethod z).before a0 Z = true) (w6 : (Jvm.Cond.publicMethod z).before a0 Z = true) (w7 : (Jvm.Cond.unhidden C y.name y.desc).before a0 Z = true) (w8 : (Jvm.Cond.castable C y.cls).before a0 Z = true) (w9 : (Jvm.Cond.code z bytes ml rt).before a0 Z = true) (w10 : (Jvm.Cond.initialized z.cls).before a0 Z = true) (hM : MFP l Z z bytes ml rt rm [] as' h Q) (eT : T.heap = h) {b : Addr} (E : Exa Z h b C) (k : Kt p e below T st0 g) {M : Nat} (hml : c.maxLocals = M) {ps : List FieldType} {r : Option FieldType} (pd : parseMethodDescriptor y.desc = some ⟨ps, r⟩) (argsL rest : List Value) (W : Nat) (hd : decode c.code g.pc = .ok (.invokeinterface index count, 5))
    (hg : g.method = m) (hsize : g.locals.size = M) (hln : argsL.length = ps.length) (hst : g.stack = argsL.reverse ++ .ref b :: rest) (ha : (Value.ref b :: argsL).toArray = as') (hW : 2 * g.monitorRoom + (rest.map fun v => v.category).sum = W) (hy : y.cls ≠ "java/lang/invoke/MethodHandle" ∧ y.cls ≠ "java/lang/invoke/VarHandle" := by decide) (hf : rm.frames + 1 ≤ R.frames := by decide) (hl : W + (ml + 11) + rm.locals ≤ R.locals := by decide) (hc : cells + rm.cells ≤ R.cells := by decide) (hs : slots + rm.slots ≤ R.slots := by decide) :
    ∃ v T' L', Stand p l e R s m args below meth c T' (locs ++ L') (cells + rm.cells) (slots + rm.slots) ∧ Q v T'.heap L' ∧ Kt p e below T' st0 { g with pc := g.pc + 5, stack := v.toList ++ rest } := by
  obtain ⟨cB, kB, qa, qb, qc⟩ := isOf hZ eT E
  obtain ⟨v, _, ⟨T', L, k', n'⟩, -, X', ⟨Lc, hQ, e1, e2, e3⟩, st⟩ := X.interfaceBack hx (xi := y) (y := z) hown (mvT hZ w1) (mvT hZ w2) (mvT hZ w3 (by simp [Jvm.Cond.onTables, Jvm.Cond.keepsFace, Jvm.Cond.keeps, Jvm.Cond.steady, Jvm.Cond.faceAtom, hy.1, hy.2])) (mvT hZ w4) (mvT hZ w5) (mvT hZ w6) (mvT hZ w7) (mvT hZ w8) hy (backOf (W := W) hM hZ w9 w10 hf hl) qa qb qc hg (hsize.trans hml.symm) (Steps.refl _) (argsL := argsL) (rest := rest) (lenOf pd hln) hst (Nat.le_of_eq hW) hd (fun _ _ => ⟨ha, eT, hc, hs⟩)
  dsimp only [Pt.U, Pt.locs, Pt.cells, Pt.slots] at X' e1 e2 e3 st hQ
  subst e1 e2 e3
  exact ⟨v, T', Lc, X', hQ, fun t q => k t (st.trans q)⟩
end KL
abbrev vi (x : Int32) : Slot := .val (.int x)
abbrev vr (a : Addr) : Slot := .val (.ref a)
abbrev vj (x : Int64) : Slot := .val (.long x)
abbrev ii (x : Int32) : Value := .int x
abbrev rr (a : Addr) : Value := .ref a
abbrev u_ : Slot := .unset
abbrev S_ (p : Program) (e : Env) (below : List Frame) (T : State) (m : MethodId) (pc : Nat) (L : Array Slot) (S : List Value) (t : State) : Prop := Steps p.tables e below (T.setTop (mkF m pc L S)) t
abbrev nm0 : String := "com/example/rosterd/rosterd/core/Refusal"
abbrev nm1 : String := "Lcom/example/rosterd/rosterd/core/Refusal;"
abbrev nm2 : String := "com/example/rosterd/rosterd/core/RosterException"
abbrev nm3 : String := "com/example/rosterd/rosterd/core/Outcome"
abbrev nm4 : String := "com/example/rosterd/rosterd/core/OutcomeSucceededPinLaw"
abbrev nm5 : String := "java/lang/Throwable"
abbrev nm6 : String := "java/lang/String"
abbrev nm7 : String := "java/util/List"
abbrev nm8 : String := "java/lang/Object"
abbrev nm9 : String := "java/util/ImmutableCollections$ListN"
abbrev nm10 : String := "Ljava/util/List;"
abbrev nm11 : String := "java/lang/Integer"
abbrev nm12 : String := "java/util/ArrayList"
abbrev nm14 : String := "java/util/ImmutableCollections"
abbrev nm16 : String := "[Ljava/lang/StackTraceElement;"
abbrev nm18 : String := "java/lang/StackTraceElement"
abbrev nm19 : String := "[Ljava/lang/Object;"
abbrev nm20 : String := "Ljava/lang/String;"
abbrev nm23 : String := "java/lang/StringUTF16"
abbrev nm24 : String := "(Ljava/util/Collection;)Ljava/util/List;"
abbrev nm25 : String := "()Lcom/example/rosterd/rosterd/core/Refusal;"
abbrev nm26 : String := "java/util/AbstractList"
abbrev HW (Z : State) (a0 : Array Value) : Prop := ∀ d ∈ tables_1, d.before a0 Z = true
theorem w0 {Z a0} (hw : HW Z a0) : (Jvm.Cond.constant nm4 (79 : Nat) (2147483647 : Int32)).before a0 Z = true := hw _ (List.mem_of_getElem? (i := 0) rfl)
theorem w1 {Z a0} (hw : HW Z a0) : (Jvm.Cond.methodLink nm4 (80 : Nat) ({ cls := nm4, name := "pick", desc := "(I)Lcom/example/rosterd/rosterd/core/Refusal;" } : Jvm.MethodName)).before a0 Z = true := hw _ (List.mem_of_getElem? (i := 1) rfl)
theorem w2 {Z a0} (hw : HW Z a0) : (Jvm.Cond.static ({ cls := nm4, name := "pick", desc := "(I)Lcom/example/rosterd/rosterd/core/Refusal;" } : Jvm.MethodName)).before a0 Z = true := hw _ (List.mem_of_getElem? (i := 2) rfl)
theorem w3 {Z a0} (hw : HW Z a0) : (Jvm.Cond.initialized nm4).before a0 Z = true := hw _ (List.mem_of_getElem? (i := 3) rfl)
theorem w4 {Z a0} (hw : HW Z a0) : (Jvm.Cond.code ({ cls := nm4, name := "pick", desc := "(I)Lcom/example/rosterd/rosterd/core/Refusal;" } : Jvm.MethodName) method_2_code (1 : Nat) (Option.some (Jvm.ClassFile.FieldType.object nm0))).before a0 Z = true := hw _ (List.mem_of_getElem? (i := 4) rfl)
theorem w5 {Z a0} (hw : HW Z a0) : (Jvm.Cond.fieldLink nm4 (7 : Nat) nm0 "INVALID_ARGUMENT" nm1).before a0 Z = true := hw _ (List.mem_of_getElem? (i := 5) rfl)
theorem w6 {Z a0} (hw : HW Z a0) : (Jvm.Cond.initialized nm0).before a0 Z = true := hw _ (List.mem_of_getElem? (i := 6) rfl)
theorem w7 {Z a0} (hw : HW Z a0) : (Jvm.Cond.laysStatic nm0 "INVALID_ARGUMENT" nm1).before a0 Z = true := hw _ (List.mem_of_getElem? (i := 7) rfl)
theorem w8 {Z a0} (hw : HW Z a0) : (Jvm.Cond.methodLink nm4 (86 : Nat) ({ cls := nm11, name := "valueOf", desc := "(I)Ljava/lang/Integer;" } : Jvm.MethodName)).before a0 Z = true := hw _ (List.mem_of_getElem? (i := 8) rfl)
theorem w9 {Z a0} (hw : HW Z a0) : (Jvm.Cond.static ({ cls := nm11, name := "valueOf", desc := "(I)Ljava/lang/Integer;" } : Jvm.MethodName)).before a0 Z = true := hw _ (List.mem_of_getElem? (i := 9) rfl)
theorem w10 {Z a0} (hw : HW Z a0) : (Jvm.Cond.initialized nm11).before a0 Z = true := hw _ (List.mem_of_getElem? (i := 10) rfl)
theorem w11 {Z a0} (hw : HW Z a0) : (Jvm.Cond.code ({ cls := nm11, name := "valueOf", desc := "(I)Ljava/lang/Integer;" } : Jvm.MethodName) jdk_33_method_22_code (1 : Nat) (Option.some (Jvm.ClassFile.FieldType.object nm11))).before a0 Z = true := hw _ (List.mem_of_getElem? (i := 11) rfl)
theorem w12 {Z a0} (hw : HW Z a0) : (Jvm.Cond.fieldLink nm11 (191 : Nat) "java/lang/Integer$IntegerCache" "high" "I").before a0 Z = true := hw _ (List.mem_of_getElem? (i := 12) rfl)
theorem w13 {Z a0} (hw : HW Z a0) : (Jvm.Cond.initialized "java/lang/Integer$IntegerCache").before a0 Z = true := hw _ (List.mem_of_getElem? (i := 13) rfl)
theorem w14 {Z a0} (hw : HW Z a0) : (Jvm.Cond.fieldLink nm11 (195 : Nat) "java/lang/Integer$IntegerCache" "cache" "[Ljava/lang/Integer;").before a0 Z = true := hw _ (List.mem_of_getElem? (i := 14) rfl)
theorem w15 {Z a0} (hw : HW Z a0) : (Jvm.Cond.arrayClass Jvm.ClassFile.FieldType.char).before a0 Z = true := hw _ (List.mem_of_getElem? (i := 15) rfl)
theorem w16 {Z a0} (hw : HW Z a0) : (Jvm.Cond.classLink nm4 (92 : Nat) nm6).before a0 Z = true := hw _ (List.mem_of_getElem? (i := 16) rfl)
theorem w17 {Z a0} (hw : HW Z a0) : (Jvm.Cond.instantiable nm6 (4 : Nat)).before a0 Z = true := hw _ (List.mem_of_getElem? (i := 17) rfl)
theorem w18 {Z a0} (hw : HW Z a0) : (Jvm.Cond.initialized nm6).before a0 Z = true := hw _ (List.mem_of_getElem? (i := 18) rfl)
theorem w19 {Z a0} (hw : HW Z a0) : (Jvm.Cond.methodLink nm4 (94 : Nat) ({ cls := nm6, name := "<init>", desc := "([C)V" } : Jvm.MethodName)).before a0 Z = true := hw _ (List.mem_of_getElem? (i := 19) rfl)
theorem w20 {Z a0} (hw : HW Z a0) : (Jvm.Cond.instanceMethod ({ cls := nm6, name := "<init>", desc := "([C)V" } : Jvm.MethodName)).before a0 Z = true := hw _ (List.mem_of_getElem? (i := 20) rfl)
theorem w21 {Z a0} (hw : HW Z a0) : (Jvm.Cond.code ({ cls := nm6, name := "<init>", desc := "([C)V" } : Jvm.MethodName) jdk_42_method_3_code (2 : Nat) (Option.none : Option Jvm.ClassFile.FieldType)).before a0 Z = true := hw _ (List.mem_of_getElem? (i := 21) rfl)
theorem w22 {Z a0} (hw : HW Z a0) : (Jvm.Cond.methodLink nm6 (27 : Nat) ({ cls := nm6, name := "<init>", desc := "([CIILjava/lang/Void;)V" } : Jvm.MethodName)).before a0 Z = true := hw _ (List.mem_of_getElem? (i := 22) rfl)
theorem w23 {Z a0} (hw : HW Z a0) : (Jvm.Cond.instanceMethod ({ cls := nm6, name := "<init>", desc := "([CIILjava/lang/Void;)V" } : Jvm.MethodName)).before a0 Z = true := hw _ (List.mem_of_getElem? (i := 23) rfl)
theorem w25 {Z a0} (hw : HW Z a0) : (Jvm.Cond.code ({ cls := nm6, name := "<init>", desc := "([CIILjava/lang/Void;)V" } : Jvm.MethodName) jdk_42_method_149_code (6 : Nat) (Option.none : Option Jvm.ClassFile.FieldType)).before a0 Z = true := hw _ (List.mem_of_getElem? (i := 25) rfl)
theorem w26 {Z a0} (hw : HW Z a0) : (Jvm.Cond.methodLink nm6 (1 : Nat) ({ cls := nm8, name := "<init>", desc := "()V" } : Jvm.MethodName)).before a0 Z = true := hw _ (List.mem_of_getElem? (i := 26) rfl)
theorem w27 {Z a0} (hw : HW Z a0) : (Jvm.Cond.instanceMethod ({ cls := nm8, name := "<init>", desc := "()V" } : Jvm.MethodName)).before a0 Z = true := hw _ (List.mem_of_getElem? (i := 27) rfl)
theorem w28 {Z a0} (hw : HW Z a0) : (Jvm.Cond.code ({ cls := nm8, name := "<init>", desc := "()V" } : Jvm.MethodName) object_method_1_code (1 : Nat) (Option.none : Option Jvm.ClassFile.FieldType)).before a0 Z = true := hw _ (List.mem_of_getElem? (i := 28) rfl)
theorem w29 {Z a0} (hw : HW Z a0) : (Jvm.Cond.fieldLink nm6 (38 : Nat) nm6 "COMPACT_STRINGS" "Z").before a0 Z = true := hw _ (List.mem_of_getElem? (i := 29) rfl)
theorem w30 {Z a0} (hw : HW Z a0) : (Jvm.Cond.methodLink nm6 (177 : Nat) ({ cls := nm23, name := "compress", desc := "([CII)[B" } : Jvm.MethodName)).before a0 Z = true := hw _ (List.mem_of_getElem? (i := 30) rfl)
theorem w31 {Z a0} (hw : HW Z a0) : (Jvm.Cond.static ({ cls := nm23, name := "compress", desc := "([CII)[B" } : Jvm.MethodName)).before a0 Z = true := hw _ (List.mem_of_getElem? (i := 31) rfl)
theorem w32 {Z a0} (hw : HW Z a0) : (Jvm.Cond.initialized nm23).before a0 Z = true := hw _ (List.mem_of_getElem? (i := 32) rfl)
theorem w33 {Z a0} (hw : HW Z a0) : (Jvm.Cond.code ({ cls := nm23, name := "compress", desc := "([CII)[B" } : Jvm.MethodName) jdk_52_method_16_code (6 : Nat) (Option.some (Jvm.ClassFile.FieldType.array Jvm.ClassFile.FieldType.byte))).before a0 Z = true := hw _ (List.mem_of_getElem? (i := 33) rfl)
theorem w34 {Z a0} (hw : HW Z a0) : (Jvm.Cond.arrayClass Jvm.ClassFile.FieldType.byte).before a0 Z = true := hw _ (List.mem_of_getElem? (i := 34) rfl)
theorem w35 {Z a0} (hw : HW Z a0) : (Jvm.Cond.methodLink nm23 (115 : Nat) ({ cls := nm23, name := "compress", desc := "([CI[BII)I" } : Jvm.MethodName)).before a0 Z = true := hw _ (List.mem_of_getElem? (i := 35) rfl)
theorem w36 {Z a0} (hw : HW Z a0) : (Jvm.Cond.static ({ cls := nm23, name := "compress", desc := "([CI[BII)I" } : Jvm.MethodName)).before a0 Z = true := hw _ (List.mem_of_getElem? (i := 36) rfl)
theorem w37 {Z a0} (hw : HW Z a0) : (Jvm.Cond.code ({ cls := nm23, name := "compress", desc := "([CI[BII)I" } : Jvm.MethodName) jdk_52_method_21_code (7 : Nat) (Option.some Jvm.ClassFile.FieldType.int)).before a0 Z = true := hw _ (List.mem_of_getElem? (i := 37) rfl)
theorem w38 {Z a0} (hw : HW Z a0) : (Jvm.Cond.methodLink nm6 (47 : Nat) ({ cls := nm23, name := "coderFromArrayLen", desc := "([BI)B" } : Jvm.MethodName)).before a0 Z = true := hw _ (List.mem_of_getElem? (i := 38) rfl)
theorem w39 {Z a0} (hw : HW Z a0) : (Jvm.Cond.static ({ cls := nm23, name := "coderFromArrayLen", desc := "([BI)B" } : Jvm.MethodName)).before a0 Z = true := hw _ (List.mem_of_getElem? (i := 39) rfl)
theorem w40 {Z a0} (hw : HW Z a0) : (Jvm.Cond.code ({ cls := nm23, name := "coderFromArrayLen", desc := "([BI)B" } : Jvm.MethodName) jdk_52_method_15_code (2 : Nat) (Option.some Jvm.ClassFile.FieldType.byte)).before a0 Z = true := hw _ (List.mem_of_getElem? (i := 40) rfl)
theorem w41 {Z a0} (hw : HW Z a0) : (Jvm.Cond.fieldLink nm6 (15 : Nat) nm6 "coder" "B").before a0 Z = true := hw _ (List.mem_of_getElem? (i := 41) rfl)
theorem w42 {Z a0} (hw : HW Z a0) : (Jvm.Cond.laysFinal nm6 nm6 "coder" "B").before a0 Z = true := hw _ (List.mem_of_getElem? (i := 42) rfl)
theorem w43 {Z a0} (hw : HW Z a0) : (Jvm.Cond.fieldLink nm6 (9 : Nat) nm6 "value" "[B").before a0 Z = true := hw _ (List.mem_of_getElem? (i := 43) rfl)
theorem w44 {Z a0} (hw : HW Z a0) : (Jvm.Cond.laysFinal nm6 nm6 "value" "[B").before a0 Z = true := hw _ (List.mem_of_getElem? (i := 44) rfl)
theorem w45 {Z a0} (hw : HW Z a0) : (Jvm.Cond.classLink nm4 (97 : Nat) nm12).before a0 Z = true := hw _ (List.mem_of_getElem? (i := 45) rfl)
theorem w46 {Z a0} (hw : HW Z a0) : (Jvm.Cond.instantiable nm12 (3 : Nat)).before a0 Z = true := hw _ (List.mem_of_getElem? (i := 46) rfl)
theorem w47 {Z a0} (hw : HW Z a0) : (Jvm.Cond.initialized nm12).before a0 Z = true := hw _ (List.mem_of_getElem? (i := 47) rfl)
theorem w48 {Z a0} (hw : HW Z a0) : (Jvm.Cond.methodLink nm4 (99 : Nat) ({ cls := nm12, name := "<init>", desc := "()V" } : Jvm.MethodName)).before a0 Z = true := hw _ (List.mem_of_getElem? (i := 48) rfl)
theorem w49 {Z a0} (hw : HW Z a0) : (Jvm.Cond.instanceMethod ({ cls := nm12, name := "<init>", desc := "()V" } : Jvm.MethodName)).before a0 Z = true := hw _ (List.mem_of_getElem? (i := 49) rfl)
theorem w50 {Z a0} (hw : HW Z a0) : (Jvm.Cond.code ({ cls := nm12, name := "<init>", desc := "()V" } : Jvm.MethodName) jdk_38_method_2_code (1 : Nat) (Option.none : Option Jvm.ClassFile.FieldType)).before a0 Z = true := hw _ (List.mem_of_getElem? (i := 50) rfl)
theorem w51 {Z a0} (hw : HW Z a0) : (Jvm.Cond.methodLink nm12 (1 : Nat) ({ cls := nm26, name := "<init>", desc := "()V" } : Jvm.MethodName)).before a0 Z = true := hw _ (List.mem_of_getElem? (i := 51) rfl)
theorem w52 {Z a0} (hw : HW Z a0) : (Jvm.Cond.instanceMethod ({ cls := nm26, name := "<init>", desc := "()V" } : Jvm.MethodName)).before a0 Z = true := hw _ (List.mem_of_getElem? (i := 52) rfl)
theorem w55 {Z a0} (hw : HW Z a0) : (Jvm.Cond.initialized nm26).before a0 Z = true := hw _ (List.mem_of_getElem? (i := 55) rfl)
theorem w56 {Z a0} (hw : HW Z a0) : (Jvm.Cond.code ({ cls := nm26, name := "<init>", desc := "()V" } : Jvm.MethodName) jdk_39_method_1_code (1 : Nat) (Option.none : Option Jvm.ClassFile.FieldType)).before a0 Z = true := hw _ (List.mem_of_getElem? (i := 56) rfl)
theorem w57 {Z a0} (hw : HW Z a0) : (Jvm.Cond.methodLink nm26 (1 : Nat) ({ cls := "java/util/AbstractCollection", name := "<init>", desc := "()V" } : Jvm.MethodName)).before a0 Z = true := hw _ (List.mem_of_getElem? (i := 57) rfl)
theorem w58 {Z a0} (hw : HW Z a0) : (Jvm.Cond.instanceMethod ({ cls := "java/util/AbstractCollection", name := "<init>", desc := "()V" } : Jvm.MethodName)).before a0 Z = true := hw _ (List.mem_of_getElem? (i := 58) rfl)
theorem w61 {Z a0} (hw : HW Z a0) : (Jvm.Cond.initialized "java/util/AbstractCollection").before a0 Z = true := hw _ (List.mem_of_getElem? (i := 61) rfl)
theorem w62 {Z a0} (hw : HW Z a0) : (Jvm.Cond.code ({ cls := "java/util/AbstractCollection", name := "<init>", desc := "()V" } : Jvm.MethodName) jdk_22_method_1_code (1 : Nat) (Option.none : Option Jvm.ClassFile.FieldType)).before a0 Z = true := hw _ (List.mem_of_getElem? (i := 62) rfl)
theorem w63 {Z a0} (hw : HW Z a0) : (Jvm.Cond.methodLink "java/util/AbstractCollection" (1 : Nat) ({ cls := nm8, name := "<init>", desc := "()V" } : Jvm.MethodName)).before a0 Z = true := hw _ (List.mem_of_getElem? (i := 63) rfl)
theorem w64 {Z a0} (hw : HW Z a0) : (Jvm.Cond.fieldLink nm26 (7 : Nat) nm26 "modCount" "I").before a0 Z = true := hw _ (List.mem_of_getElem? (i := 64) rfl)
theorem w65 {Z a0} (hw : HW Z a0) : (Jvm.Cond.lays nm12 nm26 "modCount" "I").before a0 Z = true := hw _ (List.mem_of_getElem? (i := 65) rfl)
theorem w66 {Z a0} (hw : HW Z a0) : (Jvm.Cond.fieldLink nm12 (39 : Nat) nm12 "DEFAULTCAPACITY_EMPTY_ELEMENTDATA" nm19).before a0 Z = true := hw _ (List.mem_of_getElem? (i := 66) rfl)
theorem w67 {Z a0} (hw : HW Z a0) : (Jvm.Cond.fieldLink nm12 (9 : Nat) nm12 "elementData" nm19).before a0 Z = true := hw _ (List.mem_of_getElem? (i := 67) rfl)
theorem w68 {Z a0} (hw : HW Z a0) : (Jvm.Cond.lays nm12 nm12 "elementData" nm19).before a0 Z = true := hw _ (List.mem_of_getElem? (i := 68) rfl)
theorem w69 {Z a0} (hw : HW Z a0) : (Jvm.Cond.classLink nm4 (100 : Nat) nm3).before a0 Z = true := hw _ (List.mem_of_getElem? (i := 69) rfl)
theorem w70 {Z a0} (hw : HW Z a0) : (Jvm.Cond.instantiable nm3 (4 : Nat)).before a0 Z = true := hw _ (List.mem_of_getElem? (i := 70) rfl)
theorem w71 {Z a0} (hw : HW Z a0) : (Jvm.Cond.initialized nm3).before a0 Z = true := hw _ (List.mem_of_getElem? (i := 71) rfl)
theorem w72 {Z a0} (hw : HW Z a0) : (Jvm.Cond.methodLink nm4 (102 : Nat) ({ cls := nm3, name := "<init>", desc := "(Ljava/lang/Object;Lcom/example/rosterd/rosterd/core/Refusal;Ljava/lang/String;Ljava/util/List;)V" } : Jvm.MethodName)).before a0 Z = true := hw _ (List.mem_of_getElem? (i := 72) rfl)
theorem w73 {Z a0} (hw : HW Z a0) : (Jvm.Cond.instanceMethod ({ cls := nm3, name := "<init>", desc := "(Ljava/lang/Object;Lcom/example/rosterd/rosterd/core/Refusal;Ljava/lang/String;Ljava/util/List;)V" } : Jvm.MethodName)).before a0 Z = true := hw _ (List.mem_of_getElem? (i := 73) rfl)
theorem w74 {Z a0} (hw : HW Z a0) : (Jvm.Cond.code ({ cls := nm3, name := "<init>", desc := "(Ljava/lang/Object;Lcom/example/rosterd/rosterd/core/Refusal;Ljava/lang/String;Ljava/util/List;)V" } : Jvm.MethodName) prog_29_method_1_code (5 : Nat) (Option.none : Option Jvm.ClassFile.FieldType)).before a0 Z = true := hw _ (List.mem_of_getElem? (i := 74) rfl)
theorem w75 {Z a0} (hw : HW Z a0) : (Jvm.Cond.methodLink nm3 (1 : Nat) ({ cls := "java/lang/Record", name := "<init>", desc := "()V" } : Jvm.MethodName)).before a0 Z = true := hw _ (List.mem_of_getElem? (i := 75) rfl)
theorem w76 {Z a0} (hw : HW Z a0) : (Jvm.Cond.instanceMethod ({ cls := "java/lang/Record", name := "<init>", desc := "()V" } : Jvm.MethodName)).before a0 Z = true := hw _ (List.mem_of_getElem? (i := 76) rfl)
theorem w78 {Z a0} (hw : HW Z a0) : (Jvm.Cond.initialized "java/lang/Record").before a0 Z = true := hw _ (List.mem_of_getElem? (i := 78) rfl)
theorem w79 {Z a0} (hw : HW Z a0) : (Jvm.Cond.code ({ cls := "java/lang/Record", name := "<init>", desc := "()V" } : Jvm.MethodName) jdk_30_method_1_code (1 : Nat) (Option.none : Option Jvm.ClassFile.FieldType)).before a0 Z = true := hw _ (List.mem_of_getElem? (i := 79) rfl)
theorem w80 {Z a0} (hw : HW Z a0) : (Jvm.Cond.methodLink "java/lang/Record" (1 : Nat) ({ cls := nm8, name := "<init>", desc := "()V" } : Jvm.MethodName)).before a0 Z = true := hw _ (List.mem_of_getElem? (i := 80) rfl)
theorem w81 {Z a0} (hw : HW Z a0) : (Jvm.Cond.fieldLink nm3 (7 : Nat) nm3 "item" "Ljava/lang/Object;").before a0 Z = true := hw _ (List.mem_of_getElem? (i := 81) rfl)
theorem w82 {Z a0} (hw : HW Z a0) : (Jvm.Cond.laysFinal nm3 nm3 "item" "Ljava/lang/Object;").before a0 Z = true := hw _ (List.mem_of_getElem? (i := 82) rfl)
theorem w83 {Z a0} (hw : HW Z a0) : (Jvm.Cond.fieldLink nm3 (13 : Nat) nm3 "refusal" nm1).before a0 Z = true := hw _ (List.mem_of_getElem? (i := 83) rfl)
theorem w84 {Z a0} (hw : HW Z a0) : (Jvm.Cond.laysFinal nm3 nm3 "refusal" nm1).before a0 Z = true := hw _ (List.mem_of_getElem? (i := 84) rfl)
theorem w85 {Z a0} (hw : HW Z a0) : (Jvm.Cond.fieldLink nm3 (17 : Nat) nm3 "message" nm20).before a0 Z = true := hw _ (List.mem_of_getElem? (i := 85) rfl)
theorem w86 {Z a0} (hw : HW Z a0) : (Jvm.Cond.laysFinal nm3 nm3 "message" nm20).before a0 Z = true := hw _ (List.mem_of_getElem? (i := 86) rfl)
theorem w87 {Z a0} (hw : HW Z a0) : (Jvm.Cond.fieldLink nm3 (21 : Nat) nm3 "bindingTargets" nm10).before a0 Z = true := hw _ (List.mem_of_getElem? (i := 87) rfl)
theorem w88 {Z a0} (hw : HW Z a0) : (Jvm.Cond.laysFinal nm3 nm3 "bindingTargets" nm10).before a0 Z = true := hw _ (List.mem_of_getElem? (i := 88) rfl)
theorem w89 {Z a0} (hw : HW Z a0) : (Jvm.Cond.methodLink nm4 (105 : Nat) ({ cls := nm3, name := "succeeded", desc := "()Z" } : Jvm.MethodName)).before a0 Z = true := hw _ (List.mem_of_getElem? (i := 89) rfl)
theorem w90 {Z a0} (hw : HW Z a0) : (Jvm.Cond.declares ({ cls := nm3, name := "succeeded", desc := "()Z" } : Jvm.MethodName)).before a0 Z = true := hw _ (List.mem_of_getElem? (i := 90) rfl)
theorem w91 {Z a0} (hw : HW Z a0) : (Jvm.Cond.instanceMethod ({ cls := nm3, name := "succeeded", desc := "()Z" } : Jvm.MethodName)).before a0 Z = true := hw _ (List.mem_of_getElem? (i := 91) rfl)
theorem w92 {Z a0} (hw : HW Z a0) : (Jvm.Cond.selects nm3 ({ cls := nm3, name := "succeeded", desc := "()Z" } : Jvm.MethodName) ({ cls := nm3, name := "succeeded", desc := "()Z" } : Jvm.MethodName)).before a0 Z = true := hw _ (List.mem_of_getElem? (i := 92) rfl)
theorem w93 {Z a0} (hw : HW Z a0) : (Jvm.Cond.code ({ cls := nm3, name := "succeeded", desc := "()Z" } : Jvm.MethodName) prog_29_method_4_code (1 : Nat) (Option.some Jvm.ClassFile.FieldType.boolean)).before a0 Z = true := hw _ (List.mem_of_getElem? (i := 93) rfl)
theorem w94 {Z a0} (hw : HW Z a0) : (Jvm.Cond.methodLink nm4 (109 : Nat) ({ cls := nm3, name := "done", desc := "(Ljava/lang/Object;)Lcom/example/rosterd/rosterd/core/Outcome;" } : Jvm.MethodName)).before a0 Z = true := hw _ (List.mem_of_getElem? (i := 94) rfl)
theorem w95 {Z a0} (hw : HW Z a0) : (Jvm.Cond.static ({ cls := nm3, name := "done", desc := "(Ljava/lang/Object;)Lcom/example/rosterd/rosterd/core/Outcome;" } : Jvm.MethodName)).before a0 Z = true := hw _ (List.mem_of_getElem? (i := 95) rfl)
theorem w96 {Z a0} (hw : HW Z a0) : (Jvm.Cond.code ({ cls := nm3, name := "done", desc := "(Ljava/lang/Object;)Lcom/example/rosterd/rosterd/core/Outcome;" } : Jvm.MethodName) prog_29_method_2_code (1 : Nat) (Option.some (Jvm.ClassFile.FieldType.object nm3))).before a0 Z = true := hw _ (List.mem_of_getElem? (i := 96) rfl)
theorem w97 {Z a0} (hw : HW Z a0) : (Jvm.Cond.classLink nm3 (8 : Nat) nm3).before a0 Z = true := hw _ (List.mem_of_getElem? (i := 97) rfl)
theorem w98 {Z a0} (hw : HW Z a0) : (Jvm.Cond.methodLink nm3 (25 : Nat) ({ cls := nm7, name := "of", desc := "()Ljava/util/List;" } : Jvm.MethodName)).before a0 Z = true := hw _ (List.mem_of_getElem? (i := 98) rfl)
theorem w99 {Z a0} (hw : HW Z a0) : (Jvm.Cond.static ({ cls := nm7, name := "of", desc := "()Ljava/util/List;" } : Jvm.MethodName)).before a0 Z = true := hw _ (List.mem_of_getElem? (i := 99) rfl)
theorem w100 {Z a0} (hw : HW Z a0) : (Jvm.Cond.initialized nm7).before a0 Z = true := hw _ (List.mem_of_getElem? (i := 100) rfl)
theorem w101 {Z a0} (hw : HW Z a0) : (Jvm.Cond.code ({ cls := nm7, name := "of", desc := "()Ljava/util/List;" } : Jvm.MethodName) jdk_40_method_36_code (0 : Nat) (Option.some (Jvm.ClassFile.FieldType.object nm7))).before a0 Z = true := hw _ (List.mem_of_getElem? (i := 101) rfl)
theorem w102 {Z a0} (hw : HW Z a0) : (Jvm.Cond.fieldLink nm7 (90 : Nat) nm14 "EMPTY_LIST" "Ljava/util/ImmutableCollections$ListN;").before a0 Z = true := hw _ (List.mem_of_getElem? (i := 102) rfl)
theorem w103 {Z a0} (hw : HW Z a0) : (Jvm.Cond.initialized nm14).before a0 Z = true := hw _ (List.mem_of_getElem? (i := 103) rfl)
theorem w104 {Z a0} (hw : HW Z a0) : (Jvm.Cond.methodLink nm3 (31 : Nat) ({ cls := nm3, name := "<init>", desc := "(Ljava/lang/Object;Lcom/example/rosterd/rosterd/core/Refusal;Ljava/lang/String;Ljava/util/List;)V" } : Jvm.MethodName)).before a0 Z = true := hw _ (List.mem_of_getElem? (i := 104) rfl)
theorem w105 {Z a0} (hw : HW Z a0) : (Jvm.Cond.classLink nm4 (113 : Nat) nm2).before a0 Z = true := hw _ (List.mem_of_getElem? (i := 105) rfl)
theorem w106 {Z a0} (hw : HW Z a0) : (Jvm.Cond.instantiable nm2 (8 : Nat)).before a0 Z = true := hw _ (List.mem_of_getElem? (i := 106) rfl)
theorem w107 {Z a0} (hw : HW Z a0) : (Jvm.Cond.initialized nm2).before a0 Z = true := hw _ (List.mem_of_getElem? (i := 107) rfl)
theorem w108 {Z a0} (hw : HW Z a0) : (Jvm.Cond.methodLink nm4 (115 : Nat) ({ cls := nm2, name := "<init>", desc := "(Lcom/example/rosterd/rosterd/core/Refusal;Ljava/lang/String;)V" } : Jvm.MethodName)).before a0 Z = true := hw _ (List.mem_of_getElem? (i := 108) rfl)
theorem w109 {Z a0} (hw : HW Z a0) : (Jvm.Cond.instanceMethod ({ cls := nm2, name := "<init>", desc := "(Lcom/example/rosterd/rosterd/core/Refusal;Ljava/lang/String;)V" } : Jvm.MethodName)).before a0 Z = true := hw _ (List.mem_of_getElem? (i := 109) rfl)
theorem w110 {Z a0} (hw : HW Z a0) : (Jvm.Cond.code ({ cls := nm2, name := "<init>", desc := "(Lcom/example/rosterd/rosterd/core/Refusal;Ljava/lang/String;)V" } : Jvm.MethodName) prog_37_method_1_code (3 : Nat) (Option.none : Option Jvm.ClassFile.FieldType)).before a0 Z = true := hw _ (List.mem_of_getElem? (i := 110) rfl)
theorem w111 {Z a0} (hw : HW Z a0) : (Jvm.Cond.methodLink nm2 (1 : Nat) ({ cls := nm7, name := "of", desc := "()Ljava/util/List;" } : Jvm.MethodName)).before a0 Z = true := hw _ (List.mem_of_getElem? (i := 111) rfl)
theorem w112 {Z a0} (hw : HW Z a0) : (Jvm.Cond.methodLink nm2 (7 : Nat) ({ cls := nm2, name := "<init>", desc := "(Lcom/example/rosterd/rosterd/core/Refusal;Ljava/lang/String;Ljava/util/List;)V" } : Jvm.MethodName)).before a0 Z = true := hw _ (List.mem_of_getElem? (i := 112) rfl)
theorem w113 {Z a0} (hw : HW Z a0) : (Jvm.Cond.instanceMethod ({ cls := nm2, name := "<init>", desc := "(Lcom/example/rosterd/rosterd/core/Refusal;Ljava/lang/String;Ljava/util/List;)V" } : Jvm.MethodName)).before a0 Z = true := hw _ (List.mem_of_getElem? (i := 113) rfl)
theorem w114 {Z a0} (hw : HW Z a0) : (Jvm.Cond.code ({ cls := nm2, name := "<init>", desc := "(Lcom/example/rosterd/rosterd/core/Refusal;Ljava/lang/String;Ljava/util/List;)V" } : Jvm.MethodName) prog_37_method_2_code (4 : Nat) (Option.none : Option Jvm.ClassFile.FieldType)).before a0 Z = true := hw _ (List.mem_of_getElem? (i := 114) rfl)
theorem w115 {Z a0} (hw : HW Z a0) : (Jvm.Cond.methodLink nm2 (13 : Nat) ({ cls := "java/lang/RuntimeException", name := "<init>", desc := "(Ljava/lang/String;)V" } : Jvm.MethodName)).before a0 Z = true := hw _ (List.mem_of_getElem? (i := 115) rfl)
theorem w116 {Z a0} (hw : HW Z a0) : (Jvm.Cond.instanceMethod ({ cls := "java/lang/RuntimeException", name := "<init>", desc := "(Ljava/lang/String;)V" } : Jvm.MethodName)).before a0 Z = true := hw _ (List.mem_of_getElem? (i := 116) rfl)
theorem w118 {Z a0} (hw : HW Z a0) : (Jvm.Cond.initialized "java/lang/RuntimeException").before a0 Z = true := hw _ (List.mem_of_getElem? (i := 118) rfl)
theorem w119 {Z a0} (hw : HW Z a0) : (Jvm.Cond.code ({ cls := "java/lang/RuntimeException", name := "<init>", desc := "(Ljava/lang/String;)V" } : Jvm.MethodName) jdk_58_method_2_code (2 : Nat) (Option.none : Option Jvm.ClassFile.FieldType)).before a0 Z = true := hw _ (List.mem_of_getElem? (i := 119) rfl)
theorem w120 {Z a0} (hw : HW Z a0) : (Jvm.Cond.methodLink "java/lang/RuntimeException" (7 : Nat) ({ cls := "java/lang/Exception", name := "<init>", desc := "(Ljava/lang/String;)V" } : Jvm.MethodName)).before a0 Z = true := hw _ (List.mem_of_getElem? (i := 120) rfl)
theorem w121 {Z a0} (hw : HW Z a0) : (Jvm.Cond.instanceMethod ({ cls := "java/lang/Exception", name := "<init>", desc := "(Ljava/lang/String;)V" } : Jvm.MethodName)).before a0 Z = true := hw _ (List.mem_of_getElem? (i := 121) rfl)
theorem w124 {Z a0} (hw : HW Z a0) : (Jvm.Cond.initialized "java/lang/Exception").before a0 Z = true := hw _ (List.mem_of_getElem? (i := 124) rfl)
theorem w125 {Z a0} (hw : HW Z a0) : (Jvm.Cond.code ({ cls := "java/lang/Exception", name := "<init>", desc := "(Ljava/lang/String;)V" } : Jvm.MethodName) jdk_59_method_2_code (2 : Nat) (Option.none : Option Jvm.ClassFile.FieldType)).before a0 Z = true := hw _ (List.mem_of_getElem? (i := 125) rfl)
theorem w126 {Z a0} (hw : HW Z a0) : (Jvm.Cond.methodLink "java/lang/Exception" (7 : Nat) ({ cls := nm5, name := "<init>", desc := "(Ljava/lang/String;)V" } : Jvm.MethodName)).before a0 Z = true := hw _ (List.mem_of_getElem? (i := 126) rfl)
theorem w127 {Z a0} (hw : HW Z a0) : (Jvm.Cond.instanceMethod ({ cls := nm5, name := "<init>", desc := "(Ljava/lang/String;)V" } : Jvm.MethodName)).before a0 Z = true := hw _ (List.mem_of_getElem? (i := 127) rfl)
theorem w130 {Z a0} (hw : HW Z a0) : (Jvm.Cond.initialized nm5).before a0 Z = true := hw _ (List.mem_of_getElem? (i := 130) rfl)
theorem w131 {Z a0} (hw : HW Z a0) : (Jvm.Cond.code ({ cls := nm5, name := "<init>", desc := "(Ljava/lang/String;)V" } : Jvm.MethodName) jdk_78_method_2_code (2 : Nat) (Option.none : Option Jvm.ClassFile.FieldType)).before a0 Z = true := hw _ (List.mem_of_getElem? (i := 131) rfl)
theorem w132 {Z a0} (hw : HW Z a0) : (Jvm.Cond.methodLink nm5 (1 : Nat) ({ cls := nm8, name := "<init>", desc := "()V" } : Jvm.MethodName)).before a0 Z = true := hw _ (List.mem_of_getElem? (i := 132) rfl)
theorem w133 {Z a0} (hw : HW Z a0) : (Jvm.Cond.fieldLink nm5 (7 : Nat) nm5 "cause" "Ljava/lang/Throwable;").before a0 Z = true := hw _ (List.mem_of_getElem? (i := 133) rfl)
theorem w134 {Z a0} (hw : HW Z a0) : (Jvm.Cond.lays nm2 nm5 "cause" "Ljava/lang/Throwable;").before a0 Z = true := hw _ (List.mem_of_getElem? (i := 134) rfl)
theorem w135 {Z a0} (hw : HW Z a0) : (Jvm.Cond.fieldLink nm5 (13 : Nat) nm5 "UNASSIGNED_STACK" nm16).before a0 Z = true := hw _ (List.mem_of_getElem? (i := 135) rfl)
theorem w136 {Z a0} (hw : HW Z a0) : (Jvm.Cond.fieldLink nm5 (17 : Nat) nm5 "stackTrace" nm16).before a0 Z = true := hw _ (List.mem_of_getElem? (i := 136) rfl)
theorem w137 {Z a0} (hw : HW Z a0) : (Jvm.Cond.lays nm2 nm5 "stackTrace" nm16).before a0 Z = true := hw _ (List.mem_of_getElem? (i := 137) rfl)
theorem w138 {Z a0} (hw : HW Z a0) : (Jvm.Cond.fieldLink nm5 (20 : Nat) nm5 "SUPPRESSED_SENTINEL" nm10).before a0 Z = true := hw _ (List.mem_of_getElem? (i := 138) rfl)
theorem w139 {Z a0} (hw : HW Z a0) : (Jvm.Cond.fieldLink nm5 (24 : Nat) nm5 "suppressedExceptions" nm10).before a0 Z = true := hw _ (List.mem_of_getElem? (i := 139) rfl)
theorem w140 {Z a0} (hw : HW Z a0) : (Jvm.Cond.lays nm2 nm5 "suppressedExceptions" nm10).before a0 Z = true := hw _ (List.mem_of_getElem? (i := 140) rfl)
theorem w164 {Z a0} (hw : HW Z a0) : (Jvm.Cond.lays nm2 nm5 "detailMessage" nm20).before a0 Z = true := hw _ (List.mem_of_getElem? (i := 164) rfl)
theorem w165 {Z a0} (hw : HW Z a0) : (Jvm.Cond.lays nm2 nm5 "backtrace" "Ljava/lang/Object;").before a0 Z = true := hw _ (List.mem_of_getElem? (i := 165) rfl)
theorem w168 {Z a0} (hw : HW Z a0) : (Jvm.Cond.fieldLink nm5 (31 : Nat) nm5 "detailMessage" nm20).before a0 Z = true := hw _ (List.mem_of_getElem? (i := 168) rfl)
theorem w169 {Z a0} (hw : HW Z a0) : (Jvm.Cond.stringLink nm2 (18 : Nat) "refusal").before a0 Z = true := hw _ (List.mem_of_getElem? (i := 169) rfl)
theorem w172 {Z a0} (hw : HW Z a0) : (Jvm.Cond.methodLink nm2 (20 : Nat) ({ cls := "java/util/Objects", name := "requireNonNull", desc := "(Ljava/lang/Object;Ljava/lang/String;)Ljava/lang/Object;" } : Jvm.MethodName)).before a0 Z = true := hw _ (List.mem_of_getElem? (i := 172) rfl)
theorem w173 {Z a0} (hw : HW Z a0) : (Jvm.Cond.static ({ cls := "java/util/Objects", name := "requireNonNull", desc := "(Ljava/lang/Object;Ljava/lang/String;)Ljava/lang/Object;" } : Jvm.MethodName)).before a0 Z = true := hw _ (List.mem_of_getElem? (i := 173) rfl)
theorem w174 {Z a0} (hw : HW Z a0) : (Jvm.Cond.initialized "java/util/Objects").before a0 Z = true := hw _ (List.mem_of_getElem? (i := 174) rfl)
theorem w175 {Z a0} (hw : HW Z a0) : (Jvm.Cond.code ({ cls := "java/util/Objects", name := "requireNonNull", desc := "(Ljava/lang/Object;Ljava/lang/String;)Ljava/lang/Object;" } : Jvm.MethodName) jdk_31_method_11_code (2 : Nat) (Option.some (Jvm.ClassFile.FieldType.object nm8))).before a0 Z = true := hw _ (List.mem_of_getElem? (i := 175) rfl)
theorem w176 {Z a0} (hw : HW Z a0) : (Jvm.Cond.classLink nm2 (26 : Nat) nm0).before a0 Z = true := hw _ (List.mem_of_getElem? (i := 176) rfl)
theorem w178 {Z a0} (hw : HW Z a0) : (Jvm.Cond.fieldLink nm2 (28 : Nat) nm2 "refusal" nm1).before a0 Z = true := hw _ (List.mem_of_getElem? (i := 178) rfl)
theorem w179 {Z a0} (hw : HW Z a0) : (Jvm.Cond.laysFinal nm2 nm2 "refusal" nm1).before a0 Z = true := hw _ (List.mem_of_getElem? (i := 179) rfl)
theorem w180 {Z a0} (hw : HW Z a0) : (Jvm.Cond.methodLink nm2 (31 : Nat) ({ cls := nm7, name := "copyOf", desc := nm24 } : Jvm.MethodName)).before a0 Z = true := hw _ (List.mem_of_getElem? (i := 180) rfl)
theorem w181 {Z a0} (hw : HW Z a0) : (Jvm.Cond.static ({ cls := nm7, name := "copyOf", desc := nm24 } : Jvm.MethodName)).before a0 Z = true := hw _ (List.mem_of_getElem? (i := 181) rfl)
theorem w182 {Z a0} (hw : HW Z a0) : (Jvm.Cond.code ({ cls := nm7, name := "copyOf", desc := nm24 } : Jvm.MethodName) jdk_40_method_48_code (1 : Nat) (Option.some (Jvm.ClassFile.FieldType.object nm7))).before a0 Z = true := hw _ (List.mem_of_getElem? (i := 182) rfl)
theorem w183 {Z a0} (hw : HW Z a0) : (Jvm.Cond.methodLink nm7 (112 : Nat) ({ cls := nm14, name := "listCopy", desc := nm24 } : Jvm.MethodName)).before a0 Z = true := hw _ (List.mem_of_getElem? (i := 183) rfl)
theorem w184 {Z a0} (hw : HW Z a0) : (Jvm.Cond.static ({ cls := nm14, name := "listCopy", desc := nm24 } : Jvm.MethodName)).before a0 Z = true := hw _ (List.mem_of_getElem? (i := 184) rfl)
theorem w185 {Z a0} (hw : HW Z a0) : (Jvm.Cond.code ({ cls := nm14, name := "listCopy", desc := nm24 } : Jvm.MethodName) jdk_56_method_3_code (2 : Nat) (Option.some (Jvm.ClassFile.FieldType.object nm7))).before a0 Z = true := hw _ (List.mem_of_getElem? (i := 185) rfl)
theorem w186 {Z a0} (hw : HW Z a0) : (Jvm.Cond.classLink nm14 (10 : Nat) "java/util/ImmutableCollections$List12").before a0 Z = true := hw _ (List.mem_of_getElem? (i := 186) rfl)
theorem w192 {Z a0} (hw : HW Z a0) : (Jvm.Cond.classLink nm14 (12 : Nat) nm9).before a0 Z = true := hw _ (List.mem_of_getElem? (i := 192) rfl)
theorem w194 {Z a0} (hw : HW Z a0) : (Jvm.Cond.fieldLinkNest nm14 (14 : Nat) nm9 "allowNulls" "Z" nm14).before a0 Z = true := hw _ (List.mem_of_getElem? (i := 194) rfl)
theorem w196 {Z a0} (hw : HW Z a0) : (Jvm.Cond.classLink nm14 (18 : Nat) nm7).before a0 Z = true := hw _ (List.mem_of_getElem? (i := 196) rfl)
theorem w197 {Z a0} (hw : HW Z a0) : (Jvm.Cond.castable nm9 nm7).before a0 Z = true := hw _ (List.mem_of_getElem? (i := 197) rfl)
theorem w198 {Z a0} (hw : HW Z a0) : (Jvm.Cond.fieldLink nm2 (35 : Nat) nm2 "bindingTargets" nm10).before a0 Z = true := hw _ (List.mem_of_getElem? (i := 198) rfl)
theorem w199 {Z a0} (hw : HW Z a0) : (Jvm.Cond.laysFinal nm2 nm2 "bindingTargets" nm10).before a0 Z = true := hw _ (List.mem_of_getElem? (i := 199) rfl)
theorem w200 {Z a0} (hw : HW Z a0) : (Jvm.Cond.methodLink nm4 (118 : Nat) ({ cls := nm3, name := "refused", desc := "(Ljava/lang/Object;Lcom/example/rosterd/rosterd/core/RosterException;)Lcom/example/rosterd/rosterd/core/Outcome;" } : Jvm.MethodName)).before a0 Z = true := hw _ (List.mem_of_getElem? (i := 200) rfl)
theorem w201 {Z a0} (hw : HW Z a0) : (Jvm.Cond.static ({ cls := nm3, name := "refused", desc := "(Ljava/lang/Object;Lcom/example/rosterd/rosterd/core/RosterException;)Lcom/example/rosterd/rosterd/core/Outcome;" } : Jvm.MethodName)).before a0 Z = true := hw _ (List.mem_of_getElem? (i := 201) rfl)
theorem w202 {Z a0} (hw : HW Z a0) : (Jvm.Cond.code ({ cls := nm3, name := "refused", desc := "(Ljava/lang/Object;Lcom/example/rosterd/rosterd/core/RosterException;)Lcom/example/rosterd/rosterd/core/Outcome;" } : Jvm.MethodName) prog_29_method_3_code (2 : Nat) (Option.some (Jvm.ClassFile.FieldType.object nm3))).before a0 Z = true := hw _ (List.mem_of_getElem? (i := 202) rfl)
theorem w203 {Z a0} (hw : HW Z a0) : (Jvm.Cond.methodLink nm3 (34 : Nat) ({ cls := nm2, name := "refusal", desc := nm25 } : Jvm.MethodName)).before a0 Z = true := hw _ (List.mem_of_getElem? (i := 203) rfl)
theorem w204 {Z a0} (hw : HW Z a0) : (Jvm.Cond.declares ({ cls := nm2, name := "refusal", desc := nm25 } : Jvm.MethodName)).before a0 Z = true := hw _ (List.mem_of_getElem? (i := 204) rfl)
theorem w205 {Z a0} (hw : HW Z a0) : (Jvm.Cond.instanceMethod ({ cls := nm2, name := "refusal", desc := nm25 } : Jvm.MethodName)).before a0 Z = true := hw _ (List.mem_of_getElem? (i := 205) rfl)
theorem w206 {Z a0} (hw : HW Z a0) : (Jvm.Cond.selects nm2 ({ cls := nm2, name := "refusal", desc := nm25 } : Jvm.MethodName) ({ cls := nm2, name := "refusal", desc := nm25 } : Jvm.MethodName)).before a0 Z = true := hw _ (List.mem_of_getElem? (i := 206) rfl)
theorem w207 {Z a0} (hw : HW Z a0) : (Jvm.Cond.code ({ cls := nm2, name := "refusal", desc := nm25 } : Jvm.MethodName) prog_37_method_4_code (1 : Nat) (Option.some (Jvm.ClassFile.FieldType.object nm0))).before a0 Z = true := hw _ (List.mem_of_getElem? (i := 207) rfl)
theorem w208 {Z a0} (hw : HW Z a0) : (Jvm.Cond.methodLink nm3 (39 : Nat) ({ cls := nm2, name := "getMessage", desc := "()Ljava/lang/String;" } : Jvm.MethodName)).before a0 Z = true := hw _ (List.mem_of_getElem? (i := 208) rfl)
theorem w209 {Z a0} (hw : HW Z a0) : (Jvm.Cond.sameMethod nm2 nm5 "getMessage" "()Ljava/lang/String;").before a0 Z = true := hw _ (List.mem_of_getElem? (i := 209) rfl)
theorem w210 {Z a0} (hw : HW Z a0) : (Jvm.Cond.declares ({ cls := nm5, name := "getMessage", desc := "()Ljava/lang/String;" } : Jvm.MethodName)).before a0 Z = true := hw _ (List.mem_of_getElem? (i := 210) rfl)
theorem w211 {Z a0} (hw : HW Z a0) : (Jvm.Cond.instanceMethod ({ cls := nm5, name := "getMessage", desc := "()Ljava/lang/String;" } : Jvm.MethodName)).before a0 Z = true := hw _ (List.mem_of_getElem? (i := 211) rfl)
theorem w212 {Z a0} (hw : HW Z a0) : (Jvm.Cond.selects nm2 ({ cls := nm2, name := "getMessage", desc := "()Ljava/lang/String;" } : Jvm.MethodName) ({ cls := nm5, name := "getMessage", desc := "()Ljava/lang/String;" } : Jvm.MethodName)).before a0 Z = true := hw _ (List.mem_of_getElem? (i := 212) rfl)
theorem w213 {Z a0} (hw : HW Z a0) : (Jvm.Cond.code ({ cls := nm5, name := "getMessage", desc := "()Ljava/lang/String;" } : Jvm.MethodName) jdk_78_method_6_code (1 : Nat) (Option.some (Jvm.ClassFile.FieldType.object nm6))).before a0 Z = true := hw _ (List.mem_of_getElem? (i := 213) rfl)
theorem w214 {Z a0} (hw : HW Z a0) : (Jvm.Cond.methodLink nm3 (43 : Nat) ({ cls := nm2, name := "bindingTargets", desc := "()Ljava/util/List;" } : Jvm.MethodName)).before a0 Z = true := hw _ (List.mem_of_getElem? (i := 214) rfl)
theorem w215 {Z a0} (hw : HW Z a0) : (Jvm.Cond.declares ({ cls := nm2, name := "bindingTargets", desc := "()Ljava/util/List;" } : Jvm.MethodName)).before a0 Z = true := hw _ (List.mem_of_getElem? (i := 215) rfl)
theorem w216 {Z a0} (hw : HW Z a0) : (Jvm.Cond.instanceMethod ({ cls := nm2, name := "bindingTargets", desc := "()Ljava/util/List;" } : Jvm.MethodName)).before a0 Z = true := hw _ (List.mem_of_getElem? (i := 216) rfl)
theorem w217 {Z a0} (hw : HW Z a0) : (Jvm.Cond.selects nm2 ({ cls := nm2, name := "bindingTargets", desc := "()Ljava/util/List;" } : Jvm.MethodName) ({ cls := nm2, name := "bindingTargets", desc := "()Ljava/util/List;" } : Jvm.MethodName)).before a0 Z = true := hw _ (List.mem_of_getElem? (i := 217) rfl)
theorem w218 {Z a0} (hw : HW Z a0) : (Jvm.Cond.code ({ cls := nm2, name := "bindingTargets", desc := "()Ljava/util/List;" } : Jvm.MethodName) prog_37_method_5_code (1 : Nat) (Option.some (Jvm.ClassFile.FieldType.object nm7))).before a0 Z = true := hw _ (List.mem_of_getElem? (i := 218) rfl)
theorem w219 {Z a0} (hw : HW Z a0) : (Jvm.Cond.fieldLink nm4 (19 : Nat) nm0 "NOT_FOUND" nm1).before a0 Z = true := hw _ (List.mem_of_getElem? (i := 219) rfl)
theorem w220 {Z a0} (hw : HW Z a0) : (Jvm.Cond.laysStatic nm0 "NOT_FOUND" nm1).before a0 Z = true := hw _ (List.mem_of_getElem? (i := 220) rfl)
theorem w221 {Z a0} (hw : HW Z a0) : (Jvm.Cond.fieldLink nm4 (34 : Nat) nm0 "ALREADY_IN_ORGANIZATION" nm1).before a0 Z = true := hw _ (List.mem_of_getElem? (i := 221) rfl)
theorem w222 {Z a0} (hw : HW Z a0) : (Jvm.Cond.laysStatic nm0 "ALREADY_IN_ORGANIZATION" nm1).before a0 Z = true := hw _ (List.mem_of_getElem? (i := 222) rfl)
theorem w223 {Z a0} (hw : HW Z a0) : (Jvm.Cond.fieldLink nm4 (58 : Nat) nm0 "NOT_MEMBER" nm1).before a0 Z = true := hw _ (List.mem_of_getElem? (i := 223) rfl)
theorem w224 {Z a0} (hw : HW Z a0) : (Jvm.Cond.laysStatic nm0 "NOT_MEMBER" nm1).before a0 Z = true := hw _ (List.mem_of_getElem? (i := 224) rfl)
theorem w225 {Z a0} (hw : HW Z a0) : (Jvm.Cond.fieldLink nm4 (55 : Nat) nm0 "NOT_BOUND" nm1).before a0 Z = true := hw _ (List.mem_of_getElem? (i := 225) rfl)
theorem w226 {Z a0} (hw : HW Z a0) : (Jvm.Cond.laysStatic nm0 "NOT_BOUND" nm1).before a0 Z = true := hw _ (List.mem_of_getElem? (i := 226) rfl)
theorem w227 {Z a0} (hw : HW Z a0) : (Jvm.Cond.fieldLink nm4 (31 : Nat) nm0 "LOGIN_ID_TAKEN" nm1).before a0 Z = true := hw _ (List.mem_of_getElem? (i := 227) rfl)
theorem w228 {Z a0} (hw : HW Z a0) : (Jvm.Cond.laysStatic nm0 "LOGIN_ID_TAKEN" nm1).before a0 Z = true := hw _ (List.mem_of_getElem? (i := 228) rfl)
theorem w229 {Z a0} (hw : HW Z a0) : (Jvm.Cond.fieldLink nm4 (40 : Nat) nm0 "DEPTH_LIMIT_EXCEEDED" nm1).before a0 Z = true := hw _ (List.mem_of_getElem? (i := 229) rfl)
theorem w230 {Z a0} (hw : HW Z a0) : (Jvm.Cond.laysStatic nm0 "DEPTH_LIMIT_EXCEEDED" nm1).before a0 Z = true := hw _ (List.mem_of_getElem? (i := 230) rfl)
theorem w231 {Z a0} (hw : HW Z a0) : (Jvm.Cond.classLink nm11 (1 : Nat) nm11).before a0 Z = true := hw _ (List.mem_of_getElem? (i := 231) rfl)
theorem w232 {Z a0} (hw : HW Z a0) : (Jvm.Cond.instantiable nm11 (1 : Nat)).before a0 Z = true := hw _ (List.mem_of_getElem? (i := 232) rfl)
theorem w233 {Z a0} (hw : HW Z a0) : (Jvm.Cond.methodLink nm11 (199 : Nat) ({ cls := nm11, name := "<init>", desc := "(I)V" } : Jvm.MethodName)).before a0 Z = true := hw _ (List.mem_of_getElem? (i := 233) rfl)
theorem w234 {Z a0} (hw : HW Z a0) : (Jvm.Cond.instanceMethod ({ cls := nm11, name := "<init>", desc := "(I)V" } : Jvm.MethodName)).before a0 Z = true := hw _ (List.mem_of_getElem? (i := 234) rfl)
theorem w236 {Z a0} (hw : HW Z a0) : (Jvm.Cond.code ({ cls := nm11, name := "<init>", desc := "(I)V" } : Jvm.MethodName) jdk_33_method_23_code (2 : Nat) (Option.none : Option Jvm.ClassFile.FieldType)).before a0 Z = true := hw _ (List.mem_of_getElem? (i := 236) rfl)
theorem w237 {Z a0} (hw : HW Z a0) : (Jvm.Cond.methodLink nm11 (202 : Nat) ({ cls := "java/lang/Number", name := "<init>", desc := "()V" } : Jvm.MethodName)).before a0 Z = true := hw _ (List.mem_of_getElem? (i := 237) rfl)
theorem w238 {Z a0} (hw : HW Z a0) : (Jvm.Cond.instanceMethod ({ cls := "java/lang/Number", name := "<init>", desc := "()V" } : Jvm.MethodName)).before a0 Z = true := hw _ (List.mem_of_getElem? (i := 238) rfl)
theorem w241 {Z a0} (hw : HW Z a0) : (Jvm.Cond.initialized "java/lang/Number").before a0 Z = true := hw _ (List.mem_of_getElem? (i := 241) rfl)
theorem w242 {Z a0} (hw : HW Z a0) : (Jvm.Cond.code ({ cls := "java/lang/Number", name := "<init>", desc := "()V" } : Jvm.MethodName) jdk_18_method_1_code (1 : Nat) (Option.none : Option Jvm.ClassFile.FieldType)).before a0 Z = true := hw _ (List.mem_of_getElem? (i := 242) rfl)
theorem w243 {Z a0} (hw : HW Z a0) : (Jvm.Cond.methodLink "java/lang/Number" (1 : Nat) ({ cls := nm8, name := "<init>", desc := "()V" } : Jvm.MethodName)).before a0 Z = true := hw _ (List.mem_of_getElem? (i := 243) rfl)
theorem w244 {Z a0} (hw : HW Z a0) : (Jvm.Cond.fieldLink nm11 (205 : Nat) nm11 "value" "I").before a0 Z = true := hw _ (List.mem_of_getElem? (i := 244) rfl)
theorem w245 {Z a0} (hw : HW Z a0) : (Jvm.Cond.laysFinal nm11 nm11 "value" "I").before a0 Z = true := hw _ (List.mem_of_getElem? (i := 245) rfl)
theorem w246 {Z a0} (hw : HW Z a0) : (Jvm.Cond.fieldLink nm4 (28 : Nat) nm0 "INVALID_POLICY_DOCUMENT" nm1).before a0 Z = true := hw _ (List.mem_of_getElem? (i := 246) rfl)
theorem w247 {Z a0} (hw : HW Z a0) : (Jvm.Cond.laysStatic nm0 "INVALID_POLICY_DOCUMENT" nm1).before a0 Z = true := hw _ (List.mem_of_getElem? (i := 247) rfl)
theorem w248 {Z a0} (hw : HW Z a0) : (Jvm.Cond.fieldLink nm4 (49 : Nat) nm0 "SYSTEM_POLICY_NOT_MODIFIABLE" nm1).before a0 Z = true := hw _ (List.mem_of_getElem? (i := 248) rfl)
theorem w249 {Z a0} (hw : HW Z a0) : (Jvm.Cond.laysStatic nm0 "SYSTEM_POLICY_NOT_MODIFIABLE" nm1).before a0 Z = true := hw _ (List.mem_of_getElem? (i := 249) rfl)
theorem w250 {Z a0} (hw : HW Z a0) : (Jvm.Cond.fieldLink nm4 (70 : Nat) nm0 "NOT_IN_ORGANIZATION" nm1).before a0 Z = true := hw _ (List.mem_of_getElem? (i := 250) rfl)
theorem w251 {Z a0} (hw : HW Z a0) : (Jvm.Cond.laysStatic nm0 "NOT_IN_ORGANIZATION" nm1).before a0 Z = true := hw _ (List.mem_of_getElem? (i := 251) rfl)
theorem w252 {Z a0} (hw : HW Z a0) : (Jvm.Cond.fieldLink nm4 (16 : Nat) nm0 "DENIED_BY_GUARDRAIL" nm1).before a0 Z = true := hw _ (List.mem_of_getElem? (i := 252) rfl)
theorem w253 {Z a0} (hw : HW Z a0) : (Jvm.Cond.laysStatic nm0 "DENIED_BY_GUARDRAIL" nm1).before a0 Z = true := hw _ (List.mem_of_getElem? (i := 253) rfl)
theorem w254 {Z a0} (hw : HW Z a0) : (Jvm.Cond.fieldLink nm4 (13 : Nat) nm0 "FORBIDDEN" nm1).before a0 Z = true := hw _ (List.mem_of_getElem? (i := 254) rfl)
theorem w255 {Z a0} (hw : HW Z a0) : (Jvm.Cond.laysStatic nm0 "FORBIDDEN" nm1).before a0 Z = true := hw _ (List.mem_of_getElem? (i := 255) rfl)
theorem w256 {Z a0} (hw : HW Z a0) : (Jvm.Cond.fieldLink nm4 (22 : Nat) nm0 "POLICY_TOO_LARGE" nm1).before a0 Z = true := hw _ (List.mem_of_getElem? (i := 256) rfl)
theorem w257 {Z a0} (hw : HW Z a0) : (Jvm.Cond.laysStatic nm0 "POLICY_TOO_LARGE" nm1).before a0 Z = true := hw _ (List.mem_of_getElem? (i := 257) rfl)
theorem w258 {Z a0} (hw : HW Z a0) : (Jvm.Cond.fieldLink nm4 (52 : Nat) nm0 "POLICY_IN_USE" nm1).before a0 Z = true := hw _ (List.mem_of_getElem? (i := 258) rfl)
theorem w259 {Z a0} (hw : HW Z a0) : (Jvm.Cond.laysStatic nm0 "POLICY_IN_USE" nm1).before a0 Z = true := hw _ (List.mem_of_getElem? (i := 259) rfl)
theorem w260 {Z a0} (hw : HW Z a0) : (Jvm.Cond.fieldLink nm4 (37 : Nat) nm0 "NAME_TAKEN" nm1).before a0 Z = true := hw _ (List.mem_of_getElem? (i := 260) rfl)
theorem w261 {Z a0} (hw : HW Z a0) : (Jvm.Cond.laysStatic nm0 "NAME_TAKEN" nm1).before a0 Z = true := hw _ (List.mem_of_getElem? (i := 261) rfl)
theorem w262 {Z a0} (hw : HW Z a0) : (Jvm.Cond.fieldLink nm4 (25 : Nat) nm0 "MALFORMED_POLICY_DOCUMENT" nm1).before a0 Z = true := hw _ (List.mem_of_getElem? (i := 262) rfl)
theorem w263 {Z a0} (hw : HW Z a0) : (Jvm.Cond.laysStatic nm0 "MALFORMED_POLICY_DOCUMENT" nm1).before a0 Z = true := hw _ (List.mem_of_getElem? (i := 263) rfl)
theorem w264 {Z a0} (hw : HW Z a0) : (Jvm.Cond.fieldLink nm4 (46 : Nat) nm0 "UNIT_NOT_EMPTY" nm1).before a0 Z = true := hw _ (List.mem_of_getElem? (i := 264) rfl)
theorem w265 {Z a0} (hw : HW Z a0) : (Jvm.Cond.laysStatic nm0 "UNIT_NOT_EMPTY" nm1).before a0 Z = true := hw _ (List.mem_of_getElem? (i := 265) rfl)
theorem w266 {Z a0} (hw : HW Z a0) : (Jvm.Cond.fieldLink nm4 (43 : Nat) nm0 "ROOT_NOT_MODIFIABLE" nm1).before a0 Z = true := hw _ (List.mem_of_getElem? (i := 266) rfl)
theorem w267 {Z a0} (hw : HW Z a0) : (Jvm.Cond.laysStatic nm0 "ROOT_NOT_MODIFIABLE" nm1).before a0 Z = true := hw _ (List.mem_of_getElem? (i := 267) rfl)
theorem w268 {Z a0} (hw : HW Z a0) : (Jvm.Cond.fieldLink nm4 (67 : Nat) nm0 "ORGANIZATION_NOT_EMPTY" nm1).before a0 Z = true := hw _ (List.mem_of_getElem? (i := 268) rfl)
theorem w269 {Z a0} (hw : HW Z a0) : (Jvm.Cond.laysStatic nm0 "ORGANIZATION_NOT_EMPTY" nm1).before a0 Z = true := hw _ (List.mem_of_getElem? (i := 269) rfl)
theorem w270 {Z a0} (hw : HW Z a0) : (Jvm.Cond.fieldLink nm4 (64 : Nat) nm0 "ACCOUNT_NOT_REMOVABLE" nm1).before a0 Z = true := hw _ (List.mem_of_getElem? (i := 270) rfl)
theorem w271 {Z a0} (hw : HW Z a0) : (Jvm.Cond.laysStatic nm0 "ACCOUNT_NOT_REMOVABLE" nm1).before a0 Z = true := hw _ (List.mem_of_getElem? (i := 271) rfl)
theorem w272 {Z a0} (hw : HW Z a0) : (Jvm.Cond.fieldLink nm4 (76 : Nat) nm0 "INVITATION_NOT_PENDING" nm1).before a0 Z = true := hw _ (List.mem_of_getElem? (i := 272) rfl)
theorem w273 {Z a0} (hw : HW Z a0) : (Jvm.Cond.laysStatic nm0 "INVITATION_NOT_PENDING" nm1).before a0 Z = true := hw _ (List.mem_of_getElem? (i := 273) rfl)
theorem w274 {Z a0} (hw : HW Z a0) : (Jvm.Cond.fieldLink nm4 (73 : Nat) nm0 "INVITATION_ALREADY_SENT" nm1).before a0 Z = true := hw _ (List.mem_of_getElem? (i := 274) rfl)
theorem w275 {Z a0} (hw : HW Z a0) : (Jvm.Cond.laysStatic nm0 "INVITATION_ALREADY_SENT" nm1).before a0 Z = true := hw _ (List.mem_of_getElem? (i := 275) rfl)
theorem w276 {Z a0} (hw : HW Z a0) : (Jvm.Cond.fieldLink nm4 (61 : Nat) nm0 "DELEGATION_POLICY_EXISTS" nm1).before a0 Z = true := hw _ (List.mem_of_getElem? (i := 276) rfl)
theorem w277 {Z a0} (hw : HW Z a0) : (Jvm.Cond.laysStatic nm0 "DELEGATION_POLICY_EXISTS" nm1).before a0 Z = true := hw _ (List.mem_of_getElem? (i := 277) rfl)
open Jvm.Free.Exc Jvm.Free.Str
theorem own_in : ∀ a ∈ Bundle.stringAtoms, a ∈ tables_1 := by decide +kernel
theorem own_atoms {Z : State} {a0 : Array Value} (hw : HW Z a0) : ∀ a ∈ Bundle.stringAtoms, a.before a0 Z = true := fun a ha => hw a (own_in a ha)
section KW
variable {p : Program} {l : Launch} {e : Env} {R : Room} {s : State} {vm0 : Vm} {m : MethodId} {args : Array Value} {below : List Frame} {meth : Method} {c : Code} {T : State} {locs : List Loc} {cells slots : Nat} {Z : State} {a0 : Array Value} {h : Heap} {st0 : State} {g : JFrame} {y : MethodName} {bytes : ByteArray} {ml : Nat} {rt : Option FieldType} {rm : Room} {as' : Array Value} {Q : Option Value → Heap → List Loc → Prop}
theorem kstatB (X : Stand p l e R (s.setVm vm0) m args below meth c T locs cells slots) (hx : p.tables.exec = Jvm.exec) (hZ : Z.Warmed39 vm0) {own : String} {index : Nat} (hown : vm0.findClass own = some m.cls) {k0 : Nat} (hS : s.Since vm0 k0) (hk : k0 ≤ h.size) (w1 : (Jvm.Cond.methodLink own index y).before a0 Z = true) (w2 : (Jvm.Cond.static y).before a0 Z = true) (w3 : (Jvm.Cond.initialized y.cls).before a0 Z = true) (w4 : (Jvm.Cond.code y bytes ml rt).before a0 Z = true) {W : Nat} (hB : BackS l R p e below (s.setVm vm0) args y 3 W (fun A a => a = as' ∧ A.U.heap = h ∧ A.cells + rm.cells ≤ R.cells ∧ A.slots + rm.slots ≤ R.slots) (fun A _ v B => ∃ L, Q v B.U.heap L ∧ B.locs = A.locs ++ L ∧ B.cells = A.cells + rm.cells ∧ B.slots = A.slots + rm.slots)) (eT : T.heap = h) (k : Kt p e below T st0 g) {M : Nat} (hml : c.maxLocals = M) {ps : List FieldType} {r : Option FieldType} (pd : parseMethodDescriptor y.desc = some ⟨ps, r⟩) (argsL rest : List Value) (hd : decode c.code g.pc = .ok (.invokestatic index, 3))
  (hg : g.method = m) (hsize : g.locals.size = M) (hln : argsL.length = ps.length) (hst : g.stack = argsL.reverse ++ rest) (ha : argsL.toArray = as') (hW : 2 * g.monitorRoom + (rest.map fun v => v.category).sum = W) (hy : y.cls ≠ "java/lang/invoke/MethodHandle" ∧ y.cls ≠ "java/lang/invoke/VarHandle" := by decide) (hc : cells + rm.cells ≤ R.cells := by decide) (hs : slots + rm.slots ≤ R.slots := by decide) :
  ∃ v T' L', Stand p l e R (s.setVm T'.vm) m args below meth c T' (locs ++ L') (cells + rm.cells) (slots + rm.slots) ∧ Q v T'.heap L' ∧ s.Since T'.vm T'.heap.size ∧ Z.Warmed39 T'.vm ∧ T'.vm.findClass own = some m.cls ∧ Kt p e below T' st0 { g with pc := g.pc + 3, stack := v.toList ++ rest } := by
 obtain ⟨v, _, ⟨T', L, k', n'⟩, -, X', hS', hg', ⟨Lc, hQ, e1, e2, e3⟩, st⟩ := callSS X hx hown (mvT (s := s.setVm vm0) hZ w1) (mvT (s := s.setVm vm0) hZ w2) (mvT (s := s.setVm vm0) hZ w3) (mvT (s := s.setVm vm0) hZ w4) hy hB hg (hsize.trans hml.symm) (argsL := argsL) (rest := rest) (lenOf pd hln) hst (Nat.le_of_eq hW) hd (fun _ _ => ⟨ha, eT, hc, hs⟩)
 dsimp only [Pt.U, Pt.locs, Pt.cells, Pt.slots] at X' hS' hg' e1 e2 e3 st hQ
 subst e1 e2 e3
 obtain ⟨X2, hS2, hZ2, ho2⟩ := rebS hS (by rw [eT]; exact hk) X' hS' hg' hZ hown
 exact ⟨v, T', Lc, X2, hQ, hS2, hZ2, ho2, fun t q => k t (st.trans q)⟩
theorem kspecB (X : Stand p l e R (s.setVm vm0) m args below meth c T locs cells slots) (hx : p.tables.exec = Jvm.exec) (hZ : Z.Warmed39 vm0) {own : String} {index : Nat} (hown : vm0.findClass own = some m.cls) {k0 : Nat} (hS : s.Since vm0 k0) (hk : k0 ≤ h.size) (w1 : (Jvm.Cond.methodLink own index y).before a0 Z = true) (w2 : (Jvm.Cond.instanceMethod y).before a0 Z = true) (w4 : (Jvm.Cond.code y bytes ml none).before a0 Z = true) {W : Nat} (hB : BackS l R p e below (s.setVm vm0) args y 3 W (fun A a => a = as' ∧ A.U.heap = h ∧ A.cells + rm.cells ≤ R.cells ∧ A.slots + rm.slots ≤ R.slots) (fun A _ v B => ∃ L, Q v B.U.heap L ∧ B.locs = A.locs ++ L ∧ B.cells = A.cells + rm.cells ∧ B.slots = A.slots + rm.slots)) (eT : T.heap = h) (k : Kt p e below T st0 g) {M : Nat} (hml : c.maxLocals = M) {ps : List FieldType} {r : Option FieldType} (pd : parseMethodDescriptor y.desc = some ⟨ps, r⟩) (a : Addr) (argsL rest : List Value) (hd : decode c.code g.pc = .ok (.invokespecial index, 3))
  (hg : g.method = m) (hsize : g.locals.size = M) (hln : argsL.length = ps.length) (hst : g.stack = argsL.reverse ++ .ref a :: rest) (ha : (Value.ref a :: argsL).toArray = as') (hW : 2 * g.monitorRoom + (rest.map fun v => v.category).sum = W) (hy1 : y.name = "<init>" := by rfl) (hy : y.cls ≠ "java/lang/invoke/MethodHandle" ∧ y.cls ≠ "java/lang/invoke/VarHandle" := by decide) (hc : cells + rm.cells ≤ R.cells := by decide) (hs : slots + rm.slots ≤ R.slots := by decide) :
  ∃ v T' L', Stand p l e R (s.setVm T'.vm) m args below meth c T' (locs ++ L') (cells + rm.cells) (slots + rm.slots) ∧ Q v T'.heap L' ∧ s.Since T'.vm T'.heap.size ∧ Z.Warmed39 T'.vm ∧ T'.vm.findClass own = some m.cls ∧ Kt p e below T' st0 { g with pc := g.pc + 3, stack := v.toList ++ rest } := by
 obtain ⟨v, _, ⟨T', L, k', n'⟩, -, X', hS', hg', ⟨Lc, hQ, e1, e2, e3⟩, st⟩ := X.specialBackS hx hy1 hown (mvT (s := s.setVm vm0) hZ w1) (mvT (s := s.setVm vm0) hZ w2) (mvT (s := s.setVm vm0) hZ w4) hy hB hg (hsize.trans hml.symm) (Steps.refl _) (a := a) (argsL := argsL) (rest := rest) (lenOf pd hln) hst (Nat.le_of_eq hW) hd (fun _ _ => ⟨ha, eT, hc, hs⟩)
 dsimp only [Pt.U, Pt.locs, Pt.cells, Pt.slots] at X' hS' hg' e1 e2 e3 st hQ
 subst e1 e2 e3
 obtain ⟨X2, hS2, hZ2, ho2⟩ := rebS hS (by rw [eT]; exact hk) X' hS' hg' hZ hown
 exact ⟨v, T', Lc, X2, hQ, hS2, hZ2, ho2, fun t q => k t (st.trans q)⟩
theorem kldc (X : Stand p l e R (s.setVm vm0) m args below meth c T locs cells slots) (hx : p.tables.exec = Jvm.exec) (hZ : Z.Warmed39 vm0) {own text : String} {index : Nat} (hown : vm0.findClass own = some m.cls) {k0 : Nat} (hS : s.Since vm0 k0) (hk : k0 ≤ h.size) (w : (Jvm.Cond.stringLink own index text).before a0 Z = true) (wS : ∀ a ∈ Bundle.stringAtoms, a.before a0 Z = true) (eT : T.heap = h) (k : Kt p e below T st0 g) (n : Nat) (hd : decode c.code g.pc = .ok (.ldc index, 2)) (hg : g.method = m) (hn : 4 * text.toList.length ≤ n) (hbig : n ≤ 536870912) (hc : cells + 2 ≤ R.cells) (hl : slots + (n + 4) ≤ R.slots) {n0 : Nat} (O0 : Old Z n0 h) :
  ∃ (a : Addr) (T' : State) (h' : Heap) (k1 : Nat), Stand p l e R (s.setVm T'.vm) m args below meth c T' locs (cells + 2) (slots + (n + 4)) ∧ T'.heap = h' ∧ Ext h h' ∧ Old Z n0 h' ∧ s.Since T'.vm k1 ∧ k1 ≤ h'.size ∧ Z.Warmed39 T'.vm ∧ T'.vm.findClass own = some m.cls ∧ Kt p e below T' st0 { g with pc := g.pc + 2, stack := .ref a :: g.stack } := by
 obtain ⟨a, T', h', k1, X', e', E, hS', hk', hZ', ho', st⟩ := ldcS X hx hZ hown w wS eT hS hk hg hd hn hbig hc hl
 exact ⟨a, T', h', k1, X', e', E, O0.ext E, hS', hk', hZ', ho', fun t q => k t (st t q)⟩
theorem kldcV (X : Stand p l e R (s.setVm s.vm) m args below meth c T [] cells slots) (hx : p.tables.exec = Jvm.exec) (hZ : Z.Warmed39 s.vm) {own text : String} {index : Nat} (hown : s.vm.findClass own = some m.cls) (w : (Jvm.Cond.stringLink own index text).before a0 Z = true) (wS : ∀ a ∈ Bundle.stringAtoms, a.before a0 Z = true) (eT : T.heap = h) (k : Kt p e below T st0 g) (n : Nat) (hd : decode c.code g.pc = .ok (.ldc index, 2)) (hg : g.method = m) {h0 : Heap} (hh : s.heap = h0) {n0 : Nat} (Oh : Old Z n0 h0) (hI : s.vm.interned = Z.vm.interned) (hlit : Jvm.Lit.constHeld Z own index) (hcw : Jvm.Lit.compactW.before a0 Z = true) {vs : List Value} {z : Int32} (ht : (∀ c ∈ text.toList, c.toNat < 256) ∧ text.toList.map (fun c => Value.int (Jvm.Lit.byteI c.toNat.toUInt16)) = vs) (hz : ¬ z < 0) (hl : z.toNatClampNeg = vs.length) (hn : 4 * text.toList.length ≤ n) (hbig : n ≤ 536870912) (hc : cells + 2 ≤ R.cells) (hl' : slots + (n + 4) ≤ R.slots) (O0 : Old Z n0 h) :
  ∃ (a : Addr) (T' : State) (h' : Heap) (k1 : Nat) (b : Addr) (kb : ClassId), Stand p l e R (s.setVm T'.vm) m args below meth c T' [] (cells + 2) (slots + (n + 4)) ∧ T'.heap = h' ∧ Ext h h' ∧ Old Z n0 h' ∧ s.Since T'.vm k1 ∧ k1 ≤ h'.size ∧ Z.Warmed39 T'.vm ∧ T'.vm.findClass own = some m.cls ∧ Exa Z h' a nm6 ∧ Fld Z h' a nm6 "coder" "B" (.int 0) ∧ Fld Z h' a nm6 "value" "[B" (rr b) ∧ Arv Z h' b kb .byte z vs (.int 0) ∧ Lit (s.setVm T'.vm) own index a ∧ Kt p e below T' st0 { g with pc := g.pc + 2, stack := .ref a :: g.stack } := by
 have hib : IB Z s.vm [] := ⟨#[], by rw [hI]; simp, fun q hq => by simp at hq⟩
 obtain ⟨a, T', h', k1, b, kb, X', e', E, hS', hk', hZ', ho', f1, f2, f3, f4, -, -, -, L, st⟩ := ldcSVL X hx hZ hown w wS eT ((State.WarmedH.refl s).since 0) (Nat.zero_le _) (Fr.nil _) (fun b cl q => by rw [hh]; exact Oh.2.2 b cl q) hib (by simp) hlit hcw ht hz hl hg hd hn hbig hc hl'
 exact ⟨a, T', h', k1, b, kb, X', e', E, O0.ext E, hS', hk', hZ', ho', f1, f2, f3, f4, L, fun t q => k t (st t q)⟩
theorem backOfSI {len W : Nat}
  (hM : MFI l Z y bytes ml rt rm [] as' h Q) (hZ : Z.Warmed39 vm0) (hI : vm0.interned = Z.vm.interned) (wc : (Jvm.Cond.code y bytes ml rt).before a0 Z = true) (wz : (Jvm.Cond.initialized y.cls).before a0 Z = true) (hf : rm.frames + 1 ≤ R.frames) (hl : W + (ml + 11) + rm.locals ≤ R.locals) :
  BackS l R p e below (s.setVm vm0) args y len W (fun A a => a = as' ∧ A.U.heap = h ∧ A.cells + rm.cells ≤ R.cells ∧ A.slots + rm.slots ≤ R.slots)
   (fun A _ v B => ∃ L, Q v B.U.heap L ∧ B.locs = A.locs ++ L ∧ B.cells = A.cells + rm.cells ∧ B.slots = A.slots + rm.slots) :=
 BackS.of_freeW (bytes := bytes) (maxL := ml) (ret := rt) (E := fun _ _ o t L k n => k = rm.cells ∧ n = rm.slots ∧ ∃ v, o = .returned v ∧ Q v t.heap L) hM hf hl
  (fun m meth c A a Y hp => have hU : Z.Warmed39 A.U.vm := wtrans (s := s.setVm vm0) hZ Y.warmed
   ⟨by show (Jvm.Cond.and _ .tt).before a A.U = true; rw [Jvm.Cond.before_and, mv hU wc]; rfl, mv hU wc, mv hU wz, hp.2.2.1, hp.2.2.2⟩)
  (fun m meth c A a g mk Y hp => ⟨hp.1, wtrans (s := s.setVm vm0) hZ Y.warmed, hp.2.1, Y.warmed.interned_eq.trans hI⟩) (fun _ _ _ _ _ _ _ _ _ => trivial)
  (fun _ _ _ _ ⟨v, L, h1, h2, h3⟩ => ⟨L, _, _, h3, rfl, rfl, v, h1, h2⟩)
  (fun m meth c A a g mk v t L k n Y hp _ _ ⟨e1, e2, v', e3, e4⟩ => by cases e3; subst e1 e2; exact ⟨L, e4, rfl, rfl, rfl⟩)
end KW
theorem own_len {s : State} {args : Array Value} {t : Term} {a : Addr} {cl : Cell} {ty : FieldType} {n : Int32} (ev : t.eval args s none [] s = some (rr a)) (A : Arr s s.heap a cl ty) (h : (Term.length t).eval args s none [] s = some (.int n)) : cl.slots.size < 2 ^ 31 ∧ cl.slots.size.toInt32 = n := by
 have ha : s.arrayAt? a = some cl := A.fin (Vm.Alike.refl _)
 have hl := SBG.length_lt ev ha h
 rw [len_f ev ha hl] at h
 exact ⟨hl, by simpa using h⟩
theorem own_fin (x : Int32) : ∃ k : Fin 256, (x &&& 255) = Int32.ofNat k.val := by
 have h : (x &&& 255).toBitVec.toNat < 256 := by
  simp only [Int32.toBitVec_and, BitVec.toNat_and]
  exact Nat.lt_succ_of_le Nat.and_le_right
 refine ⟨⟨_, h⟩, ?_⟩
 apply Int32.toBitVec_inj.mp
 show _ = BitVec.ofNat 32 _
 rw [BitVec.ofNat_toNat]; simp
theorem own_small (x : Int32) : ¬ ((255 : Int32) < (nar .char ((x &&& (255 : Int32)).toUInt32.toUInt16.toUInt32.toInt32))) := by
 have t : ∀ k : Fin 256, ¬ ((255 : Int32) < (nar .char ((Int32.ofNat k.val).toUInt32.toUInt16.toUInt32.toInt32))) := by decide +kernel
 obtain ⟨k, e⟩ := own_fin x
 rw [e]; exact t k
theorem own_stx {args : Array Value} {s : State} {C f d : String} {v : Value} (h : (Term.static C f d).eval args s none [] s = some v) (idx : List Nat) : (Term.static C f d).eval args s none idx s = some v := by simpa [Term.eval] using h
theorem kbox {p : Program} {l : Launch} {e : Env} {R : Room} {s : State} {m : MethodId} {args : Array Value} {below : List Frame} {meth : Method} {c : Code} {T : State} {locs : List Loc} {cells slots : Nat} {Z : State} {h : Heap} {st0 : State} {g : JFrame} (X : Stand p l e R s m args below meth c T locs cells slots) (hx : p.tables.exec = Jvm.exec) (hZ : Z.Warmed39 s.vm) (eT : T.heap = h) {n0 : Nat} (O0 : Old Z n0 h) {a : Addr} {cl : Cell} {K d : String} {z : Int32} {val : Int32 → Value} (B : Bxs Z a cl K d z val) {j : Int32} (q1 : ¬ j < 0) (q2 : j < z) (k : Kt p e below T st0 g) (hg : g.method = m) {rest : List Value} (hs : g.stack = .int j :: .ref a :: rest) (hd : decode c.code g.pc = .ok (.aaload, 1)) :
  ∃ b : Addr, Exa Z Z.heap b K ∧ Fld Z Z.heap b K "value" d (val j) ∧ Kt p e below T st0 { g with pc := g.pc + 1, stack := .ref b :: rest } := by
 obtain ⟨A, S, hz, H⟩ := B
 obtain ⟨b, e1, e2, e3⟩ := H j (inb_of S ⟨q1, q2⟩)
 have Ar := A.ext O0.2
 exact ⟨b, e2, e3, fun t q => k t (X.aaload hx (by rw [eT]; exact Ar.1) (State.isArrayOf_alike hZ.alike Ar.2.1) rfl Ar.2.2 (inb_of S ⟨q1, q2⟩) e1 hg hs hd _ q)⟩
theorem kvirtU {p : Program} {l : Launch} {e : Env} {R : Room} {s : State} {m : MethodId} {args : Array Value} {below : List Frame} {meth : Method} {c : Code} {T : State} {locs : List Loc} {cells slots : Nat} {Z : State} {a0 : Array Value} {h : Heap} {st0 : State} {g : JFrame} {y x : MethodName} {bytes : ByteArray} {ml : Nat} {rt : Option FieldType} {rm : Room} {as' : Array Value} {Q : Option Value → Heap → List Loc → Prop} (X : Stand p l e R s m args below meth c T locs cells slots) (hx : p.tables.exec = Jvm.exec) (hZ : Z.Warmed39 s.vm) {own C owner : String} {index : Nat} (hown : s.vm.findClass own = some m.cls) (w1 : (Jvm.Cond.methodLink own index x).before a0 Z = true) (ws : (Jvm.Cond.sameMethod x.cls owner x.name x.desc).before a0 Z = true) (w2 : (Jvm.Cond.declares ⟨owner, x.name, x.desc⟩).before a0 Z = true) (w3 : (Jvm.Cond.selects C x y).before a0 Z = true) (w4 : (Jvm.Cond.instanceMethod y).before a0 Z = true) (w5 : (Jvm.Cond.code y bytes ml rt).before a0 Z = true) (w6 : (Jvm.Cond.initialized y.cls).before a0 Z = true) (hM : MFP l Z y bytes ml rt rm [] as' h Q) (eT : T.heap = h) {b : Addr} (E : Exa Z h b C) (k : Kt p e below T st0 g) {M : Nat} (hml : c.maxLocals = M) {ps : List FieldType} {r : Option FieldType} (pd : parseMethodDescriptor x.desc = some ⟨ps, r⟩) (argsL rest : List Value) (W : Nat) (hd : decode c.code g.pc = .ok (.invokevirtual index, 3))
  (hg : g.method = m) (hsize : g.locals.size = M) (hln : argsL.length = ps.length) (hst : g.stack = argsL.reverse ++ .ref b :: rest) (ha : (Value.ref b :: argsL).toArray = as') (hW : 2 * g.monitorRoom + (rest.map fun v => v.category).sum = W) (hy : owner ≠ "java/lang/invoke/MethodHandle" ∧ owner ≠ "java/lang/invoke/VarHandle" := by decide) (hf : rm.frames + 1 ≤ R.frames := by decide) (hl : W + (ml + 11) + rm.locals ≤ R.locals := by decide) (hc : cells + rm.cells ≤ R.cells := by decide) (hs : slots + rm.slots ≤ R.slots := by decide) :
  ∃ v T' L', Stand p l e R s m args below meth c T' (locs ++ L') (cells + rm.cells) (slots + rm.slots) ∧ Q v T'.heap L' ∧ Kt p e below T' st0 { g with pc := g.pc + 3, stack := v.toList ++ rest } := by
 obtain ⟨cB, kB, qa, qb, qc⟩ := isOf hZ eT E
 obtain ⟨v, _, ⟨T', L, k', n'⟩, -, X', ⟨Lc, hQ, e1, e2, e3⟩, st⟩ := X.virtualBackUp hx (x := x) (y := y) hown (mvT hZ w1) (mvT hZ ws) (mvT hZ w2) hy (mvT hZ w3) (mvT hZ w4) (backOf (W := W) hM hZ w5 w6 hf hl) qa qc hg (hsize.trans hml.symm) (Steps.refl _) (argsL := argsL) (rest := rest) (lenOf pd hln) hst (Nat.le_of_eq hW) hd (fun _ _ => ⟨ha, eT, hc, hs⟩)
 dsimp only [Pt.U, Pt.locs, Pt.cells, Pt.slots] at X' e1 e2 e3 st hQ
 subst e1 e2 e3
 exact ⟨v, T', Lc, X', hQ, fun t q => k t (st.trans q)⟩
theorem kinu {p : Program} {l : Launch} {e : Env} {R : Room} {s : State} {m : MethodId} {args : Array Value} {below : List Frame} {meth : Method} {c : Code} {T : State} {locs : List Loc} {cells slots : Nat} {Z : State} {a0 : Array Value} {h : Heap} {st0 : State} {g : JFrame} (X : Stand p l e R s m args below meth c T locs cells slots) (hx : p.tables.exec = Jvm.exec) (hZ : Z.Warmed39 s.vm) {own K C : String} {index : Nat} (hown : s.vm.findClass own = some m.cls) (w : (Jvm.Cond.classLink own index K).before a0 Z = true) (eT : T.heap = h) {a : Addr} (E : Exa Z h a C) (k : Kt p e below T st0 g) (hg : g.method = m) {rest : List Value} (hs : g.stack = .ref a :: rest) (hd : decode c.code g.pc = .ok (.instanceof index, 3)) :
  ∃ (v : Int32) (T' : State), (v = 0 ∨ v = 1) ∧ Stand p l e R s m args below meth c T' locs cells slots ∧ T'.heap = h ∧ Kt p e below T' st0 { g with pc := g.pc + 3, stack := .int v :: rest } := by
 have hoZ : Z.vm.findClass own = some m.cls := by rw [← hZ.alike.findClass]; exact hown
 obtain ⟨cT, f2, -⟩ := Jvm.Cond.classLink_spec hoZ w {} rfl
 have E' := E
 obtain ⟨cell, kc, e1, e2, e3, e4, -⟩ := E
 cases hq : Z.vm.assignable cell.cls cT with
 | true =>
  obtain ⟨T', X', e', st⟩ := instY X hx hZ hown w eT (⟨cell, cT, e1, f2, by rw [e4, hq]; rfl⟩ : Ins Z h a K true) hg hs hd
  exact ⟨1, T', Or.inr rfl, X', e', fun t q => k t (st t q)⟩
 | false =>
  obtain ⟨T', X', e', st⟩ := instNo X hx hZ hown w eT E' ⟨cell.cls, cT, e2, f2, hq⟩ hg hs hd
  exact ⟨0, T', Or.inl rfl, X', e', fun t q => k t (st t q)⟩
abbrev MFK (l : Launch) (Z : State) (y : MethodName) (bytes : ByteArray) (ml : Nat) (rt : Option FieldType) (rm : Room) (ws : List Jvm.Cond) (A : Array Value) (h0 : Heap) (Q : Option Value → Heap → List Loc → Prop) : Prop :=
 MetFree l y (head1 (Jvm.Cond.code y bytes ml rt :: ws) rm) (fun a U => a = A ∧ Z.Warmed39 U.vm ∧ U.heap = h0) (fun _ _ bl s _ => s.vm.MethodsKnown ∧ s.vm.FramesKnown bl) (fun _ U o U' => ∃ v L, o = .returned v ∧ Q v U'.heap L ∧ ReturnedEndW U o U' L rm.cells rm.slots)
abbrev MFKJ (l : Launch) (Z : State) (y : MethodName) (bytes : ByteArray) (ml : Nat) (rt : Option FieldType) (rm : Room) (ws : List Jvm.Cond) (A : Array Value) (h0 : Heap) (Q : Option Value → Heap → List Loc → Prop) : Prop :=
 MetFree l y (head1 (Jvm.Cond.code y bytes ml rt :: ws) rm) (fun a U => a = A ∧ Z.Warmed39 U.vm ∧ U.heap = h0) (fun _ _ _ s _ => framesKnown s = true ∧ tablesKnown s = true) (fun _ U o U' => ∃ v L, o = .returned v ∧ Q v U'.heap L ∧ ReturnedEndW U o U' L rm.cells rm.slots)
theorem kexc {p : Program} {l : Launch} {e : Env} {R : Room} {s : State} {m : MethodId} {args : Array Value} {below : List Frame} {meth : Method} {c : Code} {T : State} {locs : List Loc} {cells slots : Nat} {Z : State} {a0 : Array Value} {h : Heap} {st0 : State} {g : JFrame} (X : Stand p l e R s m args below meth c T locs cells slots) (hx : p.tables.exec = Jvm.exec) (hl : l.stackTraces = true) (hZ : Z.Warmed39 s.vm) {own rc : String} (hown : s.vm.findClass own = some m.cls) {links : List Link} {ic n : Nat} (hok : linksOk 1 links = true)
  (w1 : (Jvm.Cond.methodLink own ic (ctor 1 (headName links))).before a0 Z = true) (w2 : (Jvm.Cond.instanceMethod (ctor 1 (headName links))).before a0 Z = true) (wT : (chainTab 1 rc links).before a0 Z = true) (wi : (Jvm.Cond.instantiable rc n).before a0 Z = true) (r : ∀ d ∈ twoRefs, d.before a0 Z = true)
  (hT0 : ThS Z s.heap) (hTK : s.vm.MethodsKnown) (hBelow : s.vm.FramesKnown below) (eT : T.heap = h) {a : Addr} (E : Exa Z h a rc) (N : Unt h a) (B : Fld Z h a tN "backtrace" obD .null) (B2 : Fld Z h a tN "detailMessage" msgD .null) {msg : Value} (hmsg : msg.isRef = true) (k : Kt p e below T st0 g)
  (hg : g.method = m) {M : Nat} (hml : c.maxLocals = M) (hsize : g.locals.size = M) {rest : List Value} (hs : g.stack = msg :: .ref a :: rest) (hd : decode c.code g.pc = .ok (.invokespecial ic, 3)) (W : Nat) (hW : 2 * g.monitorRoom + (rest.map fun v => v.category).sum = W)
  (hf : 4 + links.length ≤ R.frames) (hlo : W + (56 + 14 * links.length) ≤ R.locals) (hc : cells + 1 ≤ R.cells) (hsl : slots + 2752 ≤ R.slots) {n0 : Nat} (O0 : Old Z n0 h) (Nf : Fr n0 locs) (ge : n0 ≤ a) :
  ∃ (T' : State) (h' : Heap), Stand p l e R s m args below meth c T' (locs ++ sixLocs Z a) (cells + 1) (slots + 2752) ∧ T'.heap = h' ∧ Kp Z h h' a ∧ Keep h h' [a] ∧ Old Z n0 h' ∧ Fr n0 (locs ++ sixLocs Z a) ∧ Exa Z h' a rc ∧ Fld Z h' a tN "detailMessage" msgD msg ∧ Kt p e below T' st0 { g with pc := g.pc + 3, stack := rest } := by
 obtain ⟨T', h', X', e', K, E', -, F1, -, -, st⟩ := excL1 X hx hl hZ hown hok w1 w2 wT wi r hT0 (ThS.start.ext O0.2) hTK hBelow eT E N B B2 hmsg hg (hsize.trans hml.symm) hs hd hf (by rw [hW]; exact hlo) hc hsl
 exact ⟨T', h', X', e', K, keep_of_kp K, O0.keep (keep_of_kp K) (allS ge all0), Fr.six Nf ge, E', F1, fun t q => k t (st t q)⟩
theorem own_addI (x : Int32) (h1 : ¬ (x < (-128 : Int32))) (h2 : ¬ ((127 : Int32) < x)) : ¬ ((x + (128 : Int32)) < (0 : Int32)) ∧ (x + (128 : Int32)) < (256 : Int32) := by
 rw [Int32.lt_iff_toInt_lt] at h1 h2
 have e1 : (-128 : Int32).toInt = -128 := by decide
 have e2 : (127 : Int32).toInt = 127 := by decide
 have e3 : (128 : Int32).toInt = 128 := by decide
 have e4 : (0 : Int32).toInt = 0 := by decide
 have e5 : (256 : Int32).toInt = 256 := by decide
 rw [e1] at h1; rw [e2] at h2
 rw [Int32.lt_iff_toInt_lt, Int32.lt_iff_toInt_lt, Int32.toInt_add, e3, e4, e5, Int.bmod_eq_of_le (by omega) (by omega)]
 omega
theorem own_lcl {a b : Int64} (h : ¬ ((lcmpW a b) < (0 : Int32))) : ¬ a.toInt < b.toInt := fun q => by
 apply h
 have n1 : ¬ (a > b) := by rw [gt_iff_lt, Int64.lt_iff_toInt_lt]; omega
 have n2 : ¬ (a = b) := fun e => by rw [e] at q; omega
 unfold lcmpW
 rw [if_neg n1, if_neg n2]; decide
theorem own_lcg {a b : Int64} (h : ¬ ((0 : Int32) < (lcmpW a b))) : ¬ b.toInt < a.toInt := fun q => by
 apply h
 have l : a > b := by rw [gt_iff_lt, Int64.lt_iff_toInt_lt]; exact q
 unfold lcmpW
 rw [if_pos l]; decide
theorem own_addJ (x : Int64) (h1 : ¬ ((lcmpW x (-128 : Int64)) < (0 : Int32))) (h2 : ¬ ((0 : Int32) < (lcmpW x (127 : Int64)))) : ¬ (((x.toInt32) + (128 : Int32)) < (0 : Int32)) ∧ ((x.toInt32) + (128 : Int32)) < (256 : Int32) := by
 have a := own_lcl h1
 have b := own_lcg h2
 have e1 : (-128 : Int64).toInt = -128 := by decide
 have e2 : (127 : Int64).toInt = 127 := by decide
 rw [e1] at a; rw [e2] at b
 have e0 : x.toInt32.toInt = x.toInt := by rw [Int64.toInt_toInt32, Int.bmod_eq_of_le (by omega) (by omega)]
 apply own_addI
 ·rw [Int32.lt_iff_toInt_lt, e0]; have : (-128 : Int32).toInt = -128 := by decide
  rw [this]; exact a
 ·rw [Int32.lt_iff_toInt_lt, e0]; have : (127 : Int32).toInt = 127 := by decide
  rw [this]; exact b
abbrev own_rc : String := nm2
def own_words : List Jvm.Cond := [.native tFill0, .initialized tN, .superclass tN nm8, .instanceMethod tFill, .codeSync tFill LibCode.Throwable.Fill.code 1 (some (.object tN)), .instanceMethod tFill0, .instanceMethod oInit, .code oInit ⟨#[0xb1]⟩ 1 none, .methodLink tN 1 oInit, .methodLink tN 27 tFill, .methodLink tN 202 tFill0, .fieldLink tN 7 tN "cause" thD, .lays own_rc tN "cause" thD, .fieldLink tN 17 tN "stackTrace" steD, .lays own_rc tN "stackTrace" steD, .fieldLink tN 24 tN "suppressedExceptions" listD, .lays own_rc tN "suppressedExceptions" listD, .fieldLink tN 13 tN "UNASSIGNED_STACK" steD, .laysStatic tN "UNASSIGNED_STACK" steD, .fieldLink tN 20 tN "SUPPRESSED_SENTINEL" listD, .laysStatic tN "SUPPRESSED_SENTINEL" listD, .lays own_rc tN "detailMessage" msgD, .declares tFill, .selects own_rc tFill0 tFill0, .selects own_rc tFill tFill, .fieldLink tN 198 tN "backtrace" obD, .lays own_rc tN "backtrace" obD, .arrayOver (.object nm8), .soleField tN "backtrace", .soleField tN "depth", .lays own_rc tN "depth" "I", .instantiable own_rc 8]
theorem own_xok : own_words.all xOk = true := by decide +kernel
theorem own_cin : ∀ w ∈ own_words, w ∈ tables_1 := by decide +kernel
theorem own_same {s T : State} {L : List Loc} {n k : Nat} {a : Addr} (S : s.sameButNew T L n k) (hb : ∀ y ∈ L, y.base = a) : Keep s.heap T.heap [a] := by
 refine ⟨S.2.1, fun x cx hx hn => ?_, fun x cx hx => ?_⟩
 ·obtain ⟨c', h1, h2, -, h4⟩ := S.2.2.2.2.2 x cx hx
  have : c'.slots = cx.slots := Array.ext_getElem? fun i => h4 i fun hm => hn (List.mem_singleton.mpr (hb _ hm))
  rw [h1, h2, this]
 ·obtain ⟨c', h1, h2, h3, -⟩ := S.2.2.2.2.2 x cx hx
  exact ⟨c', h1, by rw [h2], by rw [h2], h3⟩
theorem own_mk {vm : Vm} {m : MethodId} (h : methodKnown vm m = true) : vm.knowsMethod m := by
 unfold methodKnown at h
 cases hk : vm.classes[m.cls]? with
 | none => rw [hk] at h; cases h
 | some kl =>
  refine ⟨kl, hk, fun cf hcf => ?_⟩
  rw [hk] at h
  simpa [hcf] using h
theorem own_known {s : State} {m : MethodId} {args : Array Value} {below : List Frame} (hf : s.frames = .invoking m args :: below) (hT : tablesKnown s = true) (hF : framesKnown s = true) : s.vm.MethodsKnown ∧ s.vm.FramesKnown below := by
 refine ⟨fun m' x hx => ?_, fun y hy m' hm => ?_⟩
 ·cases hk : s.vm.classes[m'.cls]? with
  | none => simp [Vm.method?, hk] at hx
  | some kl =>
   refine ⟨kl, hk, fun cf hcf => ?_⟩
   have hx' : kl.methods[m'.idx]? = some x := by simpa [Vm.method?, hk] using hx
   obtain ⟨hlt, hq⟩ := Array.getElem?_eq_some_iff.mp hk
   have q := (Array.all_eq_true.mp (show s.vm.classes.all _ = true from hT)) _ hlt
   rw [hq] at q
   have sz : kl.methods.size = cf.methods.size := by simpa [hcf] using q
   have hl := (Array.getElem?_eq_some_iff.mp hx').1
   rw [sz] at hl
   simp [hl]
 ·have q := List.all_eq_true.mp (show s.frames.all _ = true from hF) y (by rw [hf]; exact List.mem_cons_of_mem _ hy)
  cases y with
  | java g => cases hm; exact own_mk q
  | native g => cases hm; exact own_mk q
  | _ => cases hm
set_option maxHeartbeats 4000000 in
theorem own_thr {s : State} {args : Array Value} {pl : Platform} (howns : pl.frameOwnsMonitors = true) (hfin : pl.finalization = false) (hpl : pl.magicAccessors = ({} : Platform).magicAccessors) (Wd : ∀ x ∈ own_words, x.holds args s none s [] = true) :
  ∃ (TT : ThrowableC) (B : BackC) (fD : Field), TT.Links pl s ∧ B.Links TT pl s ∧ s.vm.findClass tN = some TT.cT ∧ s.methodNamed? tFill = some TT.fill ∧ s.methodNamed? tFill0 = some TT.fill0 ∧
   s.fieldFound? tN "stackTrace" steD = some (TT.cT, TT.kT, TT.i17, TT.fStack) ∧ TT.fStack.type = .array (.object nm18) ∧ s.fieldFound? tN "UNASSIGNED_STACK" steD = some (TT.cT, TT.kT, TT.i13, TT.fUnassigned) ∧
   s.fieldFound? tN "backtrace" obD = some (TT.cT, TT.kT, B.i198, B.fBack) ∧ B.fBack.type = .object nm8 ∧ (∃ i, s.fieldFound? tN "depth" "I" = some (TT.cT, TT.kT, i, fD)) ∧ fD.type = .int ∧
   TT.kT.fields.find? (fun f => f.name == "backtrace" && !f.isStatic) = some B.fBack ∧ TT.kT.fields.find? (fun f => f.name == "depth" && !f.isStatic) = some fD := by
 obtain ⟨⟨ct, j0⟩, mt0, hn0, hm0, hnat0, hcode0, hlk0, hsg0⟩ := Cond.native_spec (Wd (.native tFill0) (List.mem_of_getElem? (i := 0) rfl))
 have hct : s.vm.findClass tN = some ct := findClass_of_methodNamed hn0
 obtain ⟨kt, hkt, hnm⟩ := Vm.findClass_spec hct
 have hini := Cond.initialized_spec hct hkt (Wd (.initialized tN) (List.mem_of_getElem? (i := 1) rfl))
 obtain ⟨_, k1, _, _, hk1, _, _, hord, _, hni⟩ := Cond.superclass_spec hct (Wd (.superclass tN nm8) (List.mem_of_getElem? (i := 2) rfl))
 obtain rfl : kt = k1 := Option.some.inj (hkt.symm.trans hk1)
 obtain ⟨jF, mF, hnF, hmF, hatF, hstF, habF, -, -⟩ := Cond.ownMethod (x := tFill) hct hkt (Wd (.instanceMethod tFill) (List.mem_of_getElem? (i := 3) rfl))
 obtain ⟨mF', cF, hmF', hcF, hbF, hlF, hrF, hlkF, -, hsgF⟩ := Cond.codeSync_spec hnF (Wd (.codeSync tFill LibCode.Throwable.Fill.code 1 (some (.object tN))) (List.mem_of_getElem? (i := 4) rfl))
 obtain rfl : mF = mF' := Option.some.inj (hmF.symm.trans hmF')
 obtain ⟨j0', mt0', hn0', hm0', hat0, hst0, hab0, hnm0, hds0⟩ := Cond.ownMethod (x := tFill0) hct hkt (Wd (.instanceMethod tFill0) (List.mem_of_getElem? (i := 5) rfl))
 obtain rfl : j0 = j0' := by have := Option.some.inj (hn0.symm.trans hn0'); simpa using this
 obtain rfl : mt0 = mt0' := Option.some.inj (hm0.symm.trans hm0')
 obtain ⟨mO, mtO, hnO, hmO, hstO, habO⟩ := Cond.instanceMethod_spec (Wd (.instanceMethod oInit) (List.mem_of_getElem? (i := 6) rfl))
 obtain ⟨mtO', cO, hmO', hcO, hbO, hlO, -, hlkO, -, hsgO⟩ := Cond.code_spec hnO (Wd (.code oInit ⟨#[0xb1]⟩ 1 none) (List.mem_of_getElem? (i := 7) rfl))
 obtain rfl : mtO = mtO' := Option.some.inj (hmO.symm.trans hmO')
 obtain ⟨kO, hkO, hnmO⟩ := Vm.findClass_spec (findClass_of_methodNamed hnO)
 obtain ⟨hnO1, hdsO⟩ := name_of_methodNamed hnO hmO
 obtain ⟨ci1, t1, cf, l1, r1, hcf, p1⟩ := Cond.linkedMethod hct hkt hnO (Wd (.methodLink tN 1 oInit) (List.mem_of_getElem? (i := 8) rfl)) pl hpl
 obtain ⟨ci27, t27, cf', l27, r27, hcf', p27⟩ := Cond.linkedMethod hct hkt hnF (Wd (.methodLink tN 27 tFill) (List.mem_of_getElem? (i := 9) rfl)) pl hpl
 obtain rfl : cf = cf' := Option.some.inj (hcf.symm.trans hcf')
 obtain ⟨ci202, t202, cf', l202, r202, hcf', p202⟩ := Cond.linkedMethod hct hkt hn0 (Wd (.methodLink tN 202 tFill0) (List.mem_of_getElem? (i := 10) rfl)) pl hpl
 obtain rfl : cf = cf' := Option.some.inj (hcf.symm.trans hcf')
 obtain ⟨ci7, i7, f7, l7, g7, a7, s7, nf7, n7, t7, ff7⟩ := Cond.ownField (t := .object tN) hct hkt (by decide +kernel) (Wd (.fieldLink tN 7 tN "cause" thD) (List.mem_of_getElem? (i := 11) rfl)) (Wd (.lays own_rc tN "cause" thD) (List.mem_of_getElem? (i := 12) rfl)) pl hpl
 obtain ⟨ci17, i17, f17, l17, g17, a17, s17, nf17, n17, t17, ff17⟩ := Cond.ownField (t := .array (.object nm18)) hct hkt (by decide +kernel) (Wd (.fieldLink tN 17 tN "stackTrace" steD) (List.mem_of_getElem? (i := 13) rfl)) (Wd (.lays own_rc tN "stackTrace" steD) (List.mem_of_getElem? (i := 14) rfl)) pl hpl
 obtain ⟨ci24, i24, f24, l24, g24, a24, s24, nf24, n24, t24, ff24⟩ := Cond.ownField (t := .object nm7) hct hkt (by decide +kernel) (Wd (.fieldLink tN 24 tN "suppressedExceptions" listD) (List.mem_of_getElem? (i := 15) rfl)) (Wd (.lays own_rc tN "suppressedExceptions" listD) (List.mem_of_getElem? (i := 16) rfl)) pl hpl
 obtain ⟨ci13, i13, f13, aS, cS0, l13, g13, a13, s13, -, -, hsta, hcS0, hisS, -, -, ff13⟩ := Cond.ownStatic (t := .array (.object nm18)) hct hkt (by decide +kernel) (Wd (.fieldLink tN 13 tN "UNASSIGNED_STACK" steD) (List.mem_of_getElem? (i := 17) rfl)) (Wd (.laysStatic tN "UNASSIGNED_STACK" steD) (List.mem_of_getElem? (i := 18) rfl)) pl hpl
 obtain ⟨ci20, i20, f20, _, _, l20, g20, a20, s20, -, -, -, -, -, -, -, ff20⟩ := Cond.ownStatic (t := .object nm7) hct hkt (by decide +kernel) (Wd (.fieldLink tN 20 tN "SUPPRESSED_SENTINEL" listD) (List.mem_of_getElem? (i := 19) rfl)) (Wd (.laysStatic tN "SUPPRESSED_SENTINEL" listD) (List.mem_of_getElem? (i := 20) rfl)) pl hpl
 obtain ⟨_, _, cM, kM, iM, fM, _, _, ffM, sM, nfM, -⟩ := Cond.lays_spec (Wd (.lays own_rc tN "detailMessage" msgD) (List.mem_of_getElem? (i := 21) rfl))
 obtain ⟨ci198, i198, fB, l198, g198, a198, sB, -, nB, tB, ffB⟩ := Cond.ownField (t := .object nm8) hct hkt (by decide +kernel) (Wd (.fieldLink tN 198 tN "backtrace" obD) (List.mem_of_getElem? (i := 25) rfl)) (Wd (.lays own_rc tN "backtrace" obD) (List.mem_of_getElem? (i := 26) rfl)) pl hpl
 obtain ⟨_, _, cD, kD, iD, fD, _, _, ffD, sD, -⟩ := Cond.lays_spec (Wd (.lays own_rc tN "depth" "I") (List.mem_of_getElem? (i := 30) rfl))
 obtain rfl : ct = cD := Option.some.inj (hct.symm.trans (Cond.lays_declared (Wd (.lays own_rc tN "depth" "I") (List.mem_of_getElem? (i := 30) rfl)) ffD))
 obtain ⟨hkD, atD⟩ := State.fieldFound?_spec ffD
 obtain rfl : kt = kD := Option.some.inj (hkt.symm.trans hkD)
 obtain ⟨nD, tD⟩ := State.fieldFound?_type ffD (t := .int) (by decide +kernel)
 have hfb := Cond.soleField_find hct hkt (Wd (.soleField tN "backtrace") (List.mem_of_getElem? (i := 28) rfl)) a198 nB sB
 have hfd := Cond.soleField_find hct hkt (Wd (.soleField tN "depth") (List.mem_of_getElem? (i := 29) rfl)) atD nD sD
 have pF : mF.sig.parameters = [] := by
  have h : (parseMethodDescriptor tFill.desc).map (·.parameters) = some [] := by decide +kernel
  rw [hsgF] at h; simpa using h
 have p0 : mt0.sig.parameters = [.int] := by
  have h : (parseMethodDescriptor tFill0.desc).map (·.parameters) = some [.int] := by decide +kernel
  rw [hsg0] at h; simpa using h
 have pO : mtO.sig.parameters.length = 0 := by
  have h : (parseMethodDescriptor oInit.desc).map (·.parameters.length) = some 0 := by decide +kernel
  rw [hsgO] at h; simpa using h
 refine ⟨{ cT := ct, kT := kt, cO := ct, aS := aS, fillIdx := jF, fill0Idx := j0, initSIdx := jF, obj := mO, kObj := kO, methFill := mF, methFill0 := mt0, methInitS := mF, methObj := mtO, codeFill := cF, codeInitS := cF, codeObj := cO, fBack := f7, fDepth := f7, fStack := f17, fCause := f7, fSupp := f24, fMsg := fM, fUnassigned := f13, fSentinel := f20, cfT := cf, ci1 := ci1, n1 := t1, ci27 := ci27, n27 := t27, ci202 := ci202, n202 := t202, ci7 := ci7, i7 := i7, ci13 := ci13, i13 := i13, ci17 := ci17, i17 := i17, ci20 := ci20, i20 := i20, ci24 := ci24, i24 := i24 }, { ci198 := ci198, i198 := i198, fBack := fB }, fD, ?_, ⟨l198, g198, a198, sB⟩, hct, hnF, hn0, ff17, t17, ff13, ffB, tB, ⟨iD, ffD⟩, tD, hfb, hfd⟩
 exact { owns := howns, noFinalization := hfin, cls := hkt, name := hnm, boot := Vm.findClass_boot hct hkt, notInterface := hni, initialized := hini, statics := hsta, fillAt := hatF, fillCode := hcF, fillBytes := hbF, fillLocals := hlF, fillLocks := hlkF, fillStatic := hstF, fillAbstract := habF, fillReturns := hrF, fillParams := pF, fill0At := hat0, fill0Name := hnm0, fill0Desc := hds0, fill0Params := p0, fill0Static := hst0, fill0Native := hnat0, fill0Code := hcode0, fill0Locks := hlk0, fill0Abstract := hab0, stackInstance := s17, stackNotFinal := nf17, unassignedStatic := s13, objClass := hkO, objClassName := hnmO, objMethod := hmO, objName := hnO1, objStatic := hstO, objAbstract := habO, objFound := by rw [hdsO]; exact lookupSpecial_of_named hnO hmO hstO, objParams := pO, objCode := hcO, objBytes := hbO, objLocks := hlkO, causeInstance := s7, causeNotFinal := nf7, sentinelStatic := s20, suppInstance := s24, suppNotFinal := nf24, msgInstance := sM, msgNotFinal := nfM, stackApartSupp := Cond.lays_apart (Wd (.lays own_rc tN "stackTrace" steD) (List.mem_of_getElem? (i := 14) rfl)) (Wd (.lays own_rc tN "suppressedExceptions" listD) (List.mem_of_getElem? (i := 16) rfl)) ff17 ff24 (by rw [n17, n24]; decide), file := hcf, mlink1 := l1, mright1 := r1, pool1 := p1, mlink27 := l27, mright27 := r27, pool27 := p27, mlink202 := l202, mright202 := r202, pool202 := p202, link7 := l7, right7 := g7, at7 := a7, link13 := l13, right13 := g13, at13 := a13, link17 := l17, right17 := g17, at17 := a17, link20 := l20, right20 := g20, at20 := a20, link24 := l24, right24 := g24, at24 := a24 }
set_option maxHeartbeats 8000000 in
theorem kfill {p : Program} {l : Launch} {e : Env} {R : Room} {s : State} {m : MethodId} {args : Array Value} {below : List Frame} {meth : Method} {c : Code} {T : State} {locs : List Loc} {cells slots : Nat} {Z st0 : State} {a0 : Array Value} {h h0 : Heap} {g : JFrame} {n0 : Nat}
  (X : Stand p l e R s m args below meth c T locs cells slots) (hx : p.tables.exec = Jvm.exec) (hl : l.stackTraces = true) (hZ : Z.Warmed39 s.vm) (hw : HW Z a0) (hown : s.vm.findClass tN = some m.cls) (hh : s.heap = h0) (O0 : Old Z n0 h0) (hTK : s.vm.MethodsKnown) (hBelow : s.vm.FramesKnown below) (eT : T.heap = h)
  {a : Addr} (E : Exa Z h a own_rc) (N : Unt h a) (B : Fld Z h a tN "backtrace" obD .null) {u : Value} (hu : u.isRef = true) (S : Sta Z h tN "UNASSIGNED_STACK" steD u) (F : Fld Z h a tN "stackTrace" steD u) (k : Kt p e below T st0 g)
  (hg : g.method = m) {M : Nat} (hml : c.maxLocals = M) (hsize : g.locals.size = M) {rest : List Value} (hs : g.stack = .ref a :: rest) (hd : decode c.code g.pc = .ok (.invokevirtual 27, 3)) (W : Nat) (hW : 2 * g.monitorRoom + (rest.map fun v => v.category).sum = W)
  (hf : 3 ≤ R.frames) (hlo : W + 42 ≤ R.locals) (hc : cells + 1 ≤ R.cells) (hsl : slots + 2752 ≤ R.slots) (hb : ∀ y ∈ locs, y.base = a) (Nf : Fr n0 locs) (ge : n0 ≤ a) :
  ∃ (T' : State) (h' : Heap), Stand p l e R s m args below meth c T' (locs ++ sixLocs Z a) (cells + 1) (slots + 2752) ∧ T'.heap = h' ∧ Keep h0 h' [a] ∧ Old Z n0 h' ∧ Fr n0 (locs ++ sixLocs Z a) ∧ Exa Z h' a own_rc ∧
   (∀ (O n d : String) (ty : FieldType) (v : Value), Fld Z h a O n d v → Laid Z a0 own_rc O n d → parseFieldDescriptor d = some ty → n ≠ "backtrace" → n ≠ "depth" → n ≠ "stackTrace" → Fld Z h' a O n d v) ∧
   Kt p e below T' st0 { g with pc := g.pc + 3, stack := .ref a :: rest } := by
 have hT0 : ThS Z s.heap := by rw [hh]; exact ThS.start.ext O0.2
 have WZ : ∀ x ∈ own_words, x.before a0 Z = true := fun x hm => hw x (own_cin x hm)
 have Wb : ∀ x ∈ own_words, x.before args s = true := fun x hm => mvX hT0 hZ (List.all_eq_true.mp own_xok x hm) (WZ x hm)
 have Wd : ∀ x ∈ own_words, x.holds args s none s [] = true := fun x hm => Wb x hm
 have hal := hZ.alike
 have htr : e.platform.stackTraces = true := by rw [X.admits.platform]; exact hl
 obtain ⟨TT, BB, fD, L, LB, hct, hnF, hn0, ff17, t17, ff13, ffB, tB, ⟨iD, ffD⟩, tD, hfb, hfd⟩ := own_thr (args := args) (s := s) (pl := e.platform) (by rw [X.admits.platform]) (by rw [X.admits.platform]) (by rw [X.admits.platform]) Wd
 obtain ⟨cell, kX, e1, e2, e3, e4, e5⟩ := E
 obtain ⟨cell', u1, u2, u3⟩ := N
 cases e1.symm.trans u1
 obtain ⟨_, kX', x1, x2, x3, -⟩ := Cond.instantiable_spec (WZ (.instantiable own_rc 8) (List.mem_of_getElem? (i := 31) rfl))
 cases e2.symm.trans x1
 cases e3.symm.trans x2
 have hfound : s.vm.findClass own_rc = some cell.cls := by rw [hal.findClass]; exact e2
 obtain ⟨kS, y1, y2⟩ := hal.2.2 _ _ e3
 have hord2 : kS.kind = .ordinary := by rw [y2]; exact x3
 have hsz : cell.slots.size = kS.instanceTypes.size := by rw [y2]; exact e5 x3
 obtain ⟨tyS, -⟩ := Cond.laysAt hfound y1 ff17 (Wd (.lays own_rc tN "stackTrace" steD) (List.mem_of_getElem? (i := 14) rfl))
 obtain ⟨tyB, -⟩ := Cond.laysAt hfound y1 ffB (Wd (.lays own_rc tN "backtrace" obD) (List.mem_of_getElem? (i := 26) rfl))
 obtain ⟨tyD, -⟩ := Cond.laysAt hfound y1 ffD (Wd (.lays own_rc tN "depth" "I") (List.mem_of_getElem? (i := 30) rfl))
 have tk : ∀ {f : Field} {v : Value}, kS.instanceTypes[f.slot]? = some f.type → fits f.type v = true → Jvm.Takes s cell f v := fun {f v} h1 h2 => by
  obtain ⟨q1, q2⟩ := Takes.of_laid (v := v) y1 hord2 h1 h2
  exact ⟨by rw [hsz]; simpa using q1, by rw [u2]; exact q2⟩
 have hsel0 : selectMethod e.platform s.vm cell.cls TT.fill0 = .method TT.fill0 := by
  obtain ⟨c2, r2, m2, q1, q2, q3, q4, -⟩ := Cond.selects_spec (Wd (.selects own_rc tFill0 tFill0) (List.mem_of_getElem? (i := 23) rfl))
  cases Option.some.inj (q1.symm.trans hfound)
  cases Option.some.inj (q2.symm.trans (State.methodFound?_of_named hn0 (by decide)))
  cases Option.some.inj (q3.symm.trans hn0)
  rw [Launch.admits_selectMethod X.admits]; exact q4
 obtain ⟨cfU, iU, kU, fU, st, cS, g1, g2, g3, g4, g5, g6, g7⟩ := S
 obtain ⟨k2, v1, v2⟩ := State.fieldFound?_setVm (s := Z) hal g1
 have z := Option.some.inj ((show s.fieldFound? tN "UNASSIGNED_STACK" steD = _ from v1).symm.trans ff13)
 simp only [Prod.mk.injEq] at z
 obtain ⟨-, z2, -, z4⟩ := z
 have hst : st = TT.aS := by
  have h9 : k2.statics = some TT.aS := by rw [z2]; exact L.statics
  rw [v2] at h9
  exact Option.some.inj (g4.symm.trans h9)
 have hcS : h[TT.aS]? = some cS := by rw [← hst]; exact g5
 have hneS : TT.aS ≠ a := fun zz => by
  rw [zz, e1] at hcS
  rw [← Option.some.inj hcS, u2] at g6
  cases g6
 obtain ⟨cB1, cfB, kB, iB, fB1, b1, b2, -, -, -, -, b7⟩ := B
 cases e1.symm.trans b1
 obtain ⟨k3, w1, -⟩ := State.fieldFound?_setVm (s := Z) hal b2
 have zb := Option.some.inj ((show s.fieldFound? tN "backtrace" obD = _ from w1).symm.trans ffB)
 simp only [Prod.mk.injEq] at zb
 obtain ⟨-, -, -, zb⟩ := zb
 obtain ⟨cB2, cfS, kS1, iS, fS1, d1, d2, -, -, -, -, d7⟩ := F
 cases e1.symm.trans d1
 obtain ⟨k4, w2, -⟩ := State.fieldFound?_setVm (s := Z) hal d2
 have zs := Option.some.inj ((show s.fieldFound? tN "stackTrace" steD = _ from w2).symm.trans ff17)
 simp only [Prod.mk.injEq] at zs
 obtain ⟨-, -, -, zs⟩ := zs
 obtain ⟨cZD, kZD, iZD, hZD⟩ := Jvm.Free.BdW.found_ride (U := s) (U' := Z) hal.symm ⟨_, _, _, ffD⟩
 obtain ⟨comp, cA, kA, -, -, hkA, hkdA, hA⟩ := Cond.arrayOver_spec (Wb (.arrayOver (.object nm8)) (List.mem_of_getElem? (i := 27) rfl))
 have hSE := Wb (.selects own_rc tFill tFill) (List.mem_of_getElem? (i := 24) rfl)
 obtain ⟨v6, vm6, ⟨T6, L6, c6, n6⟩, hW6, X6, ⟨hv6, C6, n, hn, hD6, q1, q2, q3, q4, hL6, hc6, hn6⟩, stp⟩ := X.virtualBack hx (own := tN) (C := own_rc) (index := 27) (y := tFill) (z := tFill) hown (Wb (.methodLink tN 27 tFill) (List.mem_of_getElem? (i := 9) rfl)) (Wb (.declares tFill) (List.mem_of_getElem? (i := 22) rfl)) (notFace_of_selects hSE) hSE (Wb (.instanceMethod tFill) (List.mem_of_getElem? (i := 3) rfl)) (by decide)
  (fillPaysAny (l := l) (W := W) hx htr TT L hnF (u0 := ⟨u, hu⟩) (self := a) (cell := cell) (cellS := cS) (fun _ => by rw [u2]; simp) (by rw [u2]; simp) (by rw [u3]) (by rw [u3]) (by rw [← zs]; exact d7) hsel0 hneS (fun zz => by rw [zz] at g6; cases g6) (by rw [← z4]; exact g7) (tk tyS (by rw [t17]; exact fits_refV_array _ ⟨u, hu⟩))
   ⟨BB, LB, by rw [← zb]; exact b7⟩ hTK hBelow hct hA hkA hkdA hfb hfd
   (fun x => tk tyB (by rw [tB]; rfl)) (fun x => tk tyD (by rw [tD]; rfl)) (by omega) (by omega))
  (b := a) (cB := cell.cls) hfound ⟨cell, by rw [eT]; exact e1, rfl, by rw [u2]; rfl⟩ (g := g) hg (hsize.trans hml.symm) (Steps.refl _) (argsL := []) (rest := rest)
  (fun sig hsg => by rw [show parseMethodDescriptor tFill.desc = some ⟨[], some (.object tN)⟩ from by decide +kernel] at hsg; rw [← Option.some.inj hsg]; rfl) hs (Nat.le_of_eq hW) hd
  (fun vmx hWx => ⟨rfl, hc, hsl, by show T.heap[a]? = _; rw [eT]; exact e1, by show T.heap[TT.aS]? = _; rw [eT]; exact hcS⟩)
 dsimp only [Pt.U, Pt.locs, Pt.cells, Pt.slots] at X6 hD6 hL6 hc6 hn6 stp
 subst hv6 hL6 hc6 hn6
 have hL : ∀ x ∈ [(⟨a, BB.fBack.slot⟩ : Loc), ⟨a, fD.slot⟩, ⟨a, TT.fStack.slot⟩], Six s a x := by
  intro x hy
  simp only [List.mem_cons, List.not_mem_nil, or_false] at hy
  rcases hy with rfl | rfl | rfl
  ·exact ⟨("backtrace", obD), _, by simp [sixNames], ⟨_, _, _, ffB⟩, rfl⟩
  ·exact ⟨("depth", "I"), _, by simp [sixNames], ⟨_, _, _, ffD⟩, rfl⟩
  ·exact ⟨("stackTrace", steD), _, by simp [sixNames], ⟨_, _, _, ff17⟩, rfl⟩
 have Y := (wider X6 hZ hL).more (Nat.le_refl _) (Nat.add_le_add_left hn _)
 have K : Keep h0 T6.heap [a] := by
  rw [← hh]
  exact own_same (T := T6.setVm s.vm) Y.same fun y hy => (List.mem_append.mp hy).elim (hb y) fun q => by obtain ⟨nd, -, rfl⟩ := List.mem_map.mp q; rfl
 refine ⟨T6, T6.heap, Y, rfl, K, O0.keep K (allS ge all0), Fr.six Nf ge, ⟨C6, kX, hD6, by rw [q1]; exact e2, by rw [q1]; exact e3, by rw [q2]; exact e4, fun zz => by rw [q3]; exact e5 zz⟩, ?_, fun t q => k t (stp.trans q)⟩
 intro O n1 d ty v F1 Lf ht nb nd ns
 obtain ⟨c9, cf9, k9, i9, f9, r1, r2, r3, r4, r5, r6, r7⟩ := F1
 cases e1.symm.trans r1
 have s1 : f9.slot ≠ BB.fBack.slot := by
  have h9 := slot_ne Lf (Or.inl (WZ (.lays own_rc tN "backtrace" obD) (List.mem_of_getElem? (i := 26) rfl))) nb ht (t' := .object nm8) (by decide +kernel)
  rw [← zb]; simpa [Jvm.RoadKit.slotOf, r2, b2] using h9
 have s2 : f9.slot ≠ fD.slot := by
  have h9 := slot_ne Lf (Or.inl (WZ (.lays own_rc tN "depth" "I") (List.mem_of_getElem? (i := 30) rfl))) nd ht (t' := .int) (by decide +kernel)
  simpa [Jvm.RoadKit.slotOf, r2, hZD] using h9
 have s3 : f9.slot ≠ TT.fStack.slot := by
  have h9 := slot_ne Lf (Or.inl (WZ (.lays own_rc tN "stackTrace" steD) (List.mem_of_getElem? (i := 14) rfl))) ns ht (t' := .array (.object nm18)) (by decide +kernel)
  rw [← zs]; simpa [Jvm.RoadKit.slotOf, r2, d2] using h9
 exact ⟨C6, cf9, k9, i9, f9, hD6, r2, r3, by rw [q2]; exact r4, by rw [q2]; exact r5, by rw [q1]; exact r6, by rw [q4 _ s1 s2 s3]; exact r7⟩
theorem pn_java_lang_StringUTF16 : plainName nm23 = true := by first | (simp [plainName, overriddenIn]; done) | decide +kernel
theorem d0_0 : decode jdk_52_method_21_code 0 = .ok (.iconst 0, 1) := by decide +kernel
theorem d0_1 : decode jdk_52_method_21_code 1 = .ok (.istore 5, 2) := by decide +kernel
theorem d0_3 : decode jdk_52_method_21_code 3 = .ok (.iload 5, 2) := by decide +kernel
theorem d0_5 : decode jdk_52_method_21_code 5 = .ok (.iload 4, 2) := by decide +kernel
theorem d0_7 : decode jdk_52_method_21_code 7 = .ok (.if_icmp .ge 37, 3) := by decide +kernel
theorem d0_10 : decode jdk_52_method_21_code 10 = .ok (.aload_n 0, 1) := by decide +kernel
theorem d0_11 : decode jdk_52_method_21_code 11 = .ok (.iload_n 1, 1) := by decide +kernel
theorem d0_12 : decode jdk_52_method_21_code 12 = .ok (.caload, 1) := by decide +kernel
theorem d0_13 : decode jdk_52_method_21_code 13 = .ok (.istore 6, 2) := by decide +kernel
theorem d0_15 : decode jdk_52_method_21_code 15 = .ok (.iload 6, 2) := by decide +kernel
theorem d0_17 : decode jdk_52_method_21_code 17 = .ok (.sipush 255, 3) := by decide +kernel
theorem d0_20 : decode jdk_52_method_21_code 20 = .ok (.if_icmp .le 6, 3) := by decide +kernel
theorem d0_26 : decode jdk_52_method_21_code 26 = .ok (.aload_n 2, 1) := by decide +kernel
theorem d0_27 : decode jdk_52_method_21_code 27 = .ok (.iload_n 3, 1) := by decide +kernel
theorem d0_28 : decode jdk_52_method_21_code 28 = .ok (.iload 6, 2) := by decide +kernel
theorem d0_30 : decode jdk_52_method_21_code 30 = .ok (.i2b, 1) := by decide +kernel
theorem d0_31 : decode jdk_52_method_21_code 31 = .ok (.bastore, 1) := by decide +kernel
theorem d0_32 : decode jdk_52_method_21_code 32 = .ok (.iinc 1 1, 3) := by decide +kernel
theorem d0_35 : decode jdk_52_method_21_code 35 = .ok (.iinc 3 1, 3) := by decide +kernel
theorem d0_38 : decode jdk_52_method_21_code 38 = .ok (.iinc 5 1, 3) := by decide +kernel
theorem d0_41 : decode jdk_52_method_21_code 41 = .ok (.goto (-38), 3) := by decide +kernel
theorem d0_44 : decode jdk_52_method_21_code 44 = .ok (.iload 4, 2) := by decide +kernel
theorem d0_46 : decode jdk_52_method_21_code 46 = .ok (.ireturn, 1) := by decide +kernel
theorem ef_cmp5_2 (m : MethodId) (s_ : Addr) (d_ : Addr) : entryFrame m #[(rr s_), (ii 0), (rr d_), (ii 0), (ii 2)] 7 = mkF m 0 #[vr s_, vi 0, vr d_, vi 0, vi 2, u_, u_] [] := by first | (simp [entryFrame, mkF, argsToLocals, Value.category]; done) | rfl
def Q_cmp5_2 (Z : State) (s_ : Addr) (ks_ : ClassId) (d_ : Addr) (kd_ : ClassId) (c0_ : Int32) (c1_ : Int32) (h0 : Heap) (n0 : Nat) (v : Option Value) (h : Heap) (L : List Loc) : Prop := v = some (ii 2) ∧ Fr n0 L ∧ Keep h0 h [d_] ∧ Arv Z h d_ kd_ .byte (2 : Int32) [(.int (nar .byte (c0_.toInt8.toInt32))), (.int (nar .byte (c1_.toInt8.toInt32)))] (ii 0)
set_option maxRecDepth 65536 in
set_option maxHeartbeats 40000000 in
theorem rm_cmp5_2 (l : Launch) (Z : State) (a0 : Array Value) (hw : HW Z a0) (ws : List Jvm.Cond) (s_ : Addr) (ks_ : ClassId) (d_ : Addr) (kd_ : ClassId) (c0_ : Int32) (c1_ : Int32) (h0 : Heap) (n0 : Nat) (O0 : Old Z n0 h0) (A0_ : Arv Z h0 s_ ks_ .char (2 : Int32) [(.int c0_), (.int c1_)] (ii 0)) (A1_ : Arv Z h0 d_ kd_ .byte (2 : Int32) [(ii 0), (ii 0)] (ii 0)) (G2_ : n0 ≤ d_) (NE3_ : s_ ≠ d_) (hs0_ : ¬ ((255 : Int32) < c0_)) (hs1_ : ¬ ((255 : Int32) < c1_)) :
  MFP l Z (⟨nm23, "compress", "([CI[BII)I"⟩ : MethodName) jdk_52_method_21_code 7 (some .int) ({ frames := 0, cells := 0, slots := 0, locals := 0 } : Room) ws #[(rr s_), (ii 0), (rr d_), (ii 0), (ii 2)] h0 (Q_cmp5_2 Z s_ ks_ d_ kd_ c0_ c1_ h0 n0) := by
 refine MetFree.of_bodySF (plainFor_of_name pn_java_lang_StringUTF16) hisR ?_
 intro p e s m args below meth c s₁ Bd hml0 hP hK
 obtain ⟨rfl, hZ, hh⟩ := hP
 have hx := Bd.exec
 have hby := Bd.bytes
 have hml : c.maxLocals = 7 := hml0
 have hown : s.vm.findClass nm23 = some m.cls := findClass_of_methodNamed Bd.named
 have hnm := (name_of_methodNamed Bd.named Bd.method).1
 have X0 : Stand p l e ({ frames := 0, cells := 0, slots := 0, locals := 0 } : Room) s m #[(rr s_), (ii 0), (rr d_), (ii 0), (ii 2)] below meth c s₁ [] 0 0 := Stand.of_body Bd
 have e0 : s₁.heap = h0 := by rw [← hh, Bd.state]; rfl
 have N0 := Fr.nil n0
 have kp0 : Keep h0 h0 [d_] := Keep.refl _ _
 have c0 : ∀ t, S_ p e below s₁ m 0 #[vr s_, vi 0, vr d_, vi 0, vi 2, u_, u_] [] t → Steps p.tables e below (s₁.setTop (entryFrame m #[(rr s_), (ii 0), (rr d_), (ii 0), (ii 2)] 7)) t := fun t k => castTop (ef_cmp5_2 m s_ d_) k
 generalize s₁.setTop (entryFrame m #[(rr s_), (ii 0), (rr d_), (ii 0), (ii 2)] 7) = st0 at c0 ⊢
 replace c0 : Kt p e below s₁ st0 (mkF m 0 #[vr s_, vi 0, vr d_, vi 0, vi 2, u_, u_] []) := c0
 have c1 : Kt p e below s₁ st0 (mkF m 31 #[vr s_, vi 0, vr d_, vi 0, vi 2, vi 0, vi c0_] [(.int (c0_.toInt8.toInt32)), (ii 0), (rr d_)]) := fun t k => by
  refine c0 t ?_
  show S_ p e below s₁ m 0 #[vr s_, vi 0, vr d_, vi 0, vi 2, u_, u_] [] t
  refine XS.iconst X0.here hx rfl (hb hby d0_0) ?_
  show S_ p e below s₁ m 1 #[vr s_, vi 0, vr d_, vi 0, vi 2, u_, u_] [(ii 0)] t
  refine XS.istore X0.here hx rfl (hb hby d0_1) rfl (l' := #[vr s_, vi 0, vr d_, vi 0, vi 2, vi 0, u_]) rfl ?_
  show S_ p e below s₁ m 3 #[vr s_, vi 0, vr d_, vi 0, vi 2, vi 0, u_] [] t
  refine XS.iload X0.here hx rfl (hb hby d0_3) rfl ?_
  show S_ p e below s₁ m 5 #[vr s_, vi 0, vr d_, vi 0, vi 2, vi 0, u_] [(ii 0)] t
  refine XS.iload X0.here hx rfl (hb hby d0_5) rfl ?_
  show S_ p e below s₁ m 7 #[vr s_, vi 0, vr d_, vi 0, vi 2, vi 0, u_] [(ii 2), (ii 0)] t
  refine XS.icmpNo X0.here hx rfl (hb hby d0_7) rfl rfl ?_
  show S_ p e below s₁ m 10 #[vr s_, vi 0, vr d_, vi 0, vi 2, vi 0, u_] [] t
  refine XS.aloadN X0.here hx rfl (hb hby d0_10) rfl rfl ?_
  show S_ p e below s₁ m 11 #[vr s_, vi 0, vr d_, vi 0, vi 2, vi 0, u_] [(rr s_)] t
  refine XS.iloadN X0.here hx rfl (hb hby d0_11) rfl ?_
  show S_ p e below s₁ m 12 #[vr s_, vi 0, vr d_, vi 0, vi 2, vi 0, u_] [(ii 0), (rr s_)] t
  refine ldC X0 hx hZ e0 A0_ (v := (.int c0_)) (by decide) (by decide) rfl rfl rfl (hb hby d0_12) ?_
  show S_ p e below s₁ m 13 #[vr s_, vi 0, vr d_, vi 0, vi 2, vi 0, u_] [(.int c0_)] t
  refine XS.istore X0.here hx rfl (hb hby d0_13) rfl (l' := #[vr s_, vi 0, vr d_, vi 0, vi 2, vi 0, vi c0_]) rfl ?_
  show S_ p e below s₁ m 15 #[vr s_, vi 0, vr d_, vi 0, vi 2, vi 0, vi c0_] [] t
  refine XS.iload X0.here hx rfl (hb hby d0_15) rfl ?_
  show S_ p e below s₁ m 17 #[vr s_, vi 0, vr d_, vi 0, vi 2, vi 0, vi c0_] [(.int c0_)] t
  refine XS.sipush X0.here hx rfl (hb hby d0_17) ?_
  show S_ p e below s₁ m 20 #[vr s_, vi 0, vr d_, vi 0, vi 2, vi 0, vi c0_] [(ii 255), (.int c0_)] t
  refine yC X0.here hx rfl 20 26 rfl (hb hby d0_20) rfl (flt hs0_).2.2.2 ?_
  show S_ p e below s₁ m 26 #[vr s_, vi 0, vr d_, vi 0, vi 2, vi 0, vi c0_] [] t
  refine XS.aloadN X0.here hx rfl (hb hby d0_26) rfl rfl ?_
  show S_ p e below s₁ m 27 #[vr s_, vi 0, vr d_, vi 0, vi 2, vi 0, vi c0_] [(rr d_)] t
  refine XS.iloadN X0.here hx rfl (hb hby d0_27) rfl ?_
  show S_ p e below s₁ m 28 #[vr s_, vi 0, vr d_, vi 0, vi 2, vi 0, vi c0_] [(ii 0), (rr d_)] t
  refine XS.iload X0.here hx rfl (hb hby d0_28) rfl ?_
  show S_ p e below s₁ m 30 #[vr s_, vi 0, vr d_, vi 0, vi 2, vi 0, vi c0_] [(.int c0_), (ii 0), (rr d_)] t
  refine XS.i2b X0.here hx rfl (hb hby d0_30) rfl ?_
  exact k
 obtain ⟨T2, h2, X2, e2, W2, f5, o3, N4, c2⟩ := kstB X0 hx hZ e0 A1_ (j := (0 : Int32)) (by decide) (by decide) 0 rfl (Nat.le_of_ble_eq_true rfl) c1 rfl rfl (hb hby d0_31) O0 N0 G2_
 have f6 : Arv Z h2 d_ kd_ .byte (2 : Int32) [(.int (nar .byte (c0_.toInt8.toInt32))), (ii 0)] (ii 0) := f5
 have kp7 := kp0.wr W2 (Or.inl (List.mem_of_getElem? (i := 0) rfl))
 have c8 : Kt p e below T2 st0 (mkF m 31 #[vr s_, vi 1, vr d_, vi 1, vi 2, vi 1, vi c1_] [(.int (c1_.toInt8.toInt32)), (ii 1), (rr d_)]) := fun t k => by
  refine c2 t ?_
  show S_ p e below T2 m 32 #[vr s_, vi 0, vr d_, vi 0, vi 2, vi 0, vi c0_] [] t
  refine XS.iinc X2.here hx rfl (hb hby d0_32) rfl (l' := #[vr s_, vi 1, vr d_, vi 0, vi 2, vi 0, vi c0_]) rfl ?_
  show S_ p e below T2 m 35 #[vr s_, vi 1, vr d_, vi 0, vi 2, vi 0, vi c0_] [] t
  refine XS.iinc X2.here hx rfl (hb hby d0_35) rfl (l' := #[vr s_, vi 1, vr d_, vi 1, vi 2, vi 0, vi c0_]) rfl ?_
  show S_ p e below T2 m 38 #[vr s_, vi 1, vr d_, vi 1, vi 2, vi 0, vi c0_] [] t
  refine XS.iinc X2.here hx rfl (hb hby d0_38) rfl (l' := #[vr s_, vi 1, vr d_, vi 1, vi 2, vi 1, vi c0_]) rfl ?_
  show S_ p e below T2 m 41 #[vr s_, vi 1, vr d_, vi 1, vi 2, vi 1, vi c0_] [] t
  refine yG X2.here hx rfl 41 3 rfl (hb hby d0_41) ?_
  show S_ p e below T2 m 3 #[vr s_, vi 1, vr d_, vi 1, vi 2, vi 1, vi c0_] [] t
  refine XS.iload X2.here hx rfl (hb hby d0_3) rfl ?_
  show S_ p e below T2 m 5 #[vr s_, vi 1, vr d_, vi 1, vi 2, vi 1, vi c0_] [(ii 1)] t
  refine XS.iload X2.here hx rfl (hb hby d0_5) rfl ?_
  show S_ p e below T2 m 7 #[vr s_, vi 1, vr d_, vi 1, vi 2, vi 1, vi c0_] [(ii 2), (ii 1)] t
  refine XS.icmpNo X2.here hx rfl (hb hby d0_7) rfl rfl ?_
  show S_ p e below T2 m 10 #[vr s_, vi 1, vr d_, vi 1, vi 2, vi 1, vi c0_] [] t
  refine XS.aloadN X2.here hx rfl (hb hby d0_10) rfl rfl ?_
  show S_ p e below T2 m 11 #[vr s_, vi 1, vr d_, vi 1, vi 2, vi 1, vi c0_] [(rr s_)] t
  refine XS.iloadN X2.here hx rfl (hb hby d0_11) rfl ?_
  show S_ p e below T2 m 12 #[vr s_, vi 1, vr d_, vi 1, vi 2, vi 1, vi c0_] [(ii 1), (rr s_)] t
  refine ldC X2 hx hZ e2 (A0_.other W2 NE3_) (v := (.int c1_)) (by decide) (by decide) rfl rfl rfl (hb hby d0_12) ?_
  show S_ p e below T2 m 13 #[vr s_, vi 1, vr d_, vi 1, vi 2, vi 1, vi c0_] [(.int c1_)] t
  refine XS.istore X2.here hx rfl (hb hby d0_13) rfl (l' := #[vr s_, vi 1, vr d_, vi 1, vi 2, vi 1, vi c1_]) rfl ?_
  show S_ p e below T2 m 15 #[vr s_, vi 1, vr d_, vi 1, vi 2, vi 1, vi c1_] [] t
  refine XS.iload X2.here hx rfl (hb hby d0_15) rfl ?_
  show S_ p e below T2 m 17 #[vr s_, vi 1, vr d_, vi 1, vi 2, vi 1, vi c1_] [(.int c1_)] t
  refine XS.sipush X2.here hx rfl (hb hby d0_17) ?_
  show S_ p e below T2 m 20 #[vr s_, vi 1, vr d_, vi 1, vi 2, vi 1, vi c1_] [(ii 255), (.int c1_)] t
  refine yC X2.here hx rfl 20 26 rfl (hb hby d0_20) rfl (flt hs1_).2.2.2 ?_
  show S_ p e below T2 m 26 #[vr s_, vi 1, vr d_, vi 1, vi 2, vi 1, vi c1_] [] t
  refine XS.aloadN X2.here hx rfl (hb hby d0_26) rfl rfl ?_
  show S_ p e below T2 m 27 #[vr s_, vi 1, vr d_, vi 1, vi 2, vi 1, vi c1_] [(rr d_)] t
  refine XS.iloadN X2.here hx rfl (hb hby d0_27) rfl ?_
  show S_ p e below T2 m 28 #[vr s_, vi 1, vr d_, vi 1, vi 2, vi 1, vi c1_] [(ii 1), (rr d_)] t
  refine XS.iload X2.here hx rfl (hb hby d0_28) rfl ?_
  show S_ p e below T2 m 30 #[vr s_, vi 1, vr d_, vi 1, vi 2, vi 1, vi c1_] [(.int c1_), (ii 1), (rr d_)] t
  refine XS.i2b X2.here hx rfl (hb hby d0_30) rfl ?_
  exact k
 obtain ⟨T9, h9, X9, e9, W9, f12, o10, N11, c9⟩ := kstB X2 hx hZ e2 f6 (j := (1 : Int32)) (by decide) (by decide) 1 rfl (Nat.le_of_ble_eq_true rfl) c8 rfl rfl (hb hby d0_31) o3 N4 G2_
 have f13 : Arv Z h9 d_ kd_ .byte (2 : Int32) [(.int (nar .byte (c0_.toInt8.toInt32))), (.int (nar .byte (c1_.toInt8.toInt32)))] (ii 0) := f12
 have kp14 := kp7.wr W9 (Or.inl (List.mem_of_getElem? (i := 0) rfl))
 obtain ⟨fs, hr, hrun, hended, hW, hsame⟩ := X9.leave (v := some (ii 2)) (fun h => by rw [Bd.returns] at h; cases h)
 refine ⟨_, _, c9 _ ?_, hrun, hended, _, _, rfl, ?_, ⟨_, rfl⟩, hW, hsame.mono (by decide) (by decide)⟩
 ·show S_ p e below T9 m 32 #[vr s_, vi 1, vr d_, vi 1, vi 2, vi 1, vi c1_] [] _
  refine XS.iinc X9.here hx rfl (hb hby d0_32) rfl (l' := #[vr s_, vi 2, vr d_, vi 1, vi 2, vi 1, vi c1_]) rfl ?_
  show S_ p e below T9 m 35 #[vr s_, vi 2, vr d_, vi 1, vi 2, vi 1, vi c1_] [] _
  refine XS.iinc X9.here hx rfl (hb hby d0_35) rfl (l' := #[vr s_, vi 2, vr d_, vi 2, vi 2, vi 1, vi c1_]) rfl ?_
  show S_ p e below T9 m 38 #[vr s_, vi 2, vr d_, vi 2, vi 2, vi 1, vi c1_] [] _
  refine XS.iinc X9.here hx rfl (hb hby d0_38) rfl (l' := #[vr s_, vi 2, vr d_, vi 2, vi 2, vi 2, vi c1_]) rfl ?_
  show S_ p e below T9 m 41 #[vr s_, vi 2, vr d_, vi 2, vi 2, vi 2, vi c1_] [] _
  refine yG X9.here hx rfl 41 3 rfl (hb hby d0_41) ?_
  show S_ p e below T9 m 3 #[vr s_, vi 2, vr d_, vi 2, vi 2, vi 2, vi c1_] [] _
  refine XS.iload X9.here hx rfl (hb hby d0_3) rfl ?_
  show S_ p e below T9 m 5 #[vr s_, vi 2, vr d_, vi 2, vi 2, vi 2, vi c1_] [(ii 2)] _
  refine XS.iload X9.here hx rfl (hb hby d0_5) rfl ?_
  show S_ p e below T9 m 7 #[vr s_, vi 2, vr d_, vi 2, vi 2, vi 2, vi c1_] [(ii 2), (ii 2)] _
  refine yC X9.here hx rfl 7 44 rfl (hb hby d0_7) rfl rfl ?_
  show S_ p e below T9 m 44 #[vr s_, vi 2, vr d_, vi 2, vi 2, vi 2, vi c1_] [] _
  refine XS.iload X9.here hx rfl (hb hby d0_44) rfl ?_
  show S_ p e below T9 m 46 #[vr s_, vi 2, vr d_, vi 2, vi 2, vi 2, vi c1_] [(ii 2)] _
  exact retOut X9 hx Bd.returns rfl (Or.inl ⟨rfl, Or.inl rfl, _, rfl⟩) (hb hby d0_46) hr
 ·show Q_cmp5_2 Z s_ ks_ d_ kd_ c0_ c1_ h0 n0 _ T9.heap _
  rw [e9]
  exact ⟨rfl, N11, kp14, f13⟩
theorem d1_0 : decode jdk_52_method_16_code 0 = .ok (.iload_n 2, 1) := by decide +kernel
theorem d1_1 : decode jdk_52_method_16_code 1 = .ok (.newarray .byte, 2) := by decide +kernel
theorem d1_3 : decode jdk_52_method_16_code 3 = .ok (.astore_n 3, 1) := by decide +kernel
theorem d1_4 : decode jdk_52_method_16_code 4 = .ok (.aload_n 0, 1) := by decide +kernel
theorem d1_5 : decode jdk_52_method_16_code 5 = .ok (.iload_n 1, 1) := by decide +kernel
theorem d1_6 : decode jdk_52_method_16_code 6 = .ok (.aload_n 3, 1) := by decide +kernel
theorem d1_7 : decode jdk_52_method_16_code 7 = .ok (.iconst 0, 1) := by decide +kernel
theorem d1_8 : decode jdk_52_method_16_code 8 = .ok (.iload_n 2, 1) := by decide +kernel
theorem d1_9 : decode jdk_52_method_16_code 9 = .ok (.invokestatic 115, 3) := by decide +kernel
theorem pd_pACIABIIrI : parseMethodDescriptor "([CI[BII)I" = some ⟨[(.array .char), .int, (.array .byte), .int, .int], some .int⟩ := by decide +kernel
theorem d1_12 : decode jdk_52_method_16_code 12 = .ok (.istore 4, 2) := by decide +kernel
theorem d1_14 : decode jdk_52_method_16_code 14 = .ok (.iload 4, 2) := by decide +kernel
theorem d1_16 : decode jdk_52_method_16_code 16 = .ok (.iload_n 2, 1) := by decide +kernel
theorem d1_17 : decode jdk_52_method_16_code 17 = .ok (.if_icmp .eq 40, 3) := by decide +kernel
theorem d1_57 : decode jdk_52_method_16_code 57 = .ok (.aload_n 3, 1) := by decide +kernel
theorem d1_58 : decode jdk_52_method_16_code 58 = .ok (.areturn, 1) := by decide +kernel
theorem ef_cmp3_2 (m : MethodId) (s_ : Addr) : entryFrame m #[(rr s_), (ii 0), (ii 2)] 6 = mkF m 0 #[vr s_, vi 0, vi 2, u_, u_, u_] [] := by first | (simp [entryFrame, mkF, argsToLocals, Value.category]; done) | rfl
def Q_cmp3_2 (Z : State) (s_ : Addr) (ks_ : ClassId) (c0_ : Int32) (c1_ : Int32) (h0 : Heap) (n0 : Nat) (v : Option Value) (h : Heap) (L : List Loc) : Prop := ∃ (b_ : Addr), ∃ (kb_ : ClassId), v = some (rr b_) ∧ Fr n0 L ∧ Keep h0 h [] ∧ Arv Z h b_ kb_ .byte (2 : Int32) [(.int (nar .byte (c0_.toInt8.toInt32))), (.int (nar .byte (c1_.toInt8.toInt32)))] (ii 0) ∧ n0 ≤ b_ ∧ h0.size ≤ b_
set_option maxRecDepth 65536 in
set_option maxHeartbeats 40000000 in
theorem rm_cmp3_2 (l : Launch) (Z : State) (a0 : Array Value) (hw : HW Z a0) (ws : List Jvm.Cond) (s_ : Addr) (ks_ : ClassId) (c0_ : Int32) (c1_ : Int32) (h0 : Heap) (n0 : Nat) (O0 : Old Z n0 h0) (A0_ : Arv Z h0 s_ ks_ .char (2 : Int32) [(.int c0_), (.int c1_)] (ii 0)) (hs0_ : ¬ ((255 : Int32) < c0_)) (hs1_ : ¬ ((255 : Int32) < c1_)) :
  MFP l Z (⟨nm23, "compress", "([CII)[B"⟩ : MethodName) jdk_52_method_16_code 6 (some (.array .byte)) ({ frames := 1, cells := 1, slots := 2, locals := 18 } : Room) ws #[(rr s_), (ii 0), (ii 2)] h0 (Q_cmp3_2 Z s_ ks_ c0_ c1_ h0 n0) := by
 refine MetFree.of_bodySF (plainFor_of_name pn_java_lang_StringUTF16) hisR ?_
 intro p e s m args below meth c s₁ Bd hml0 hP hK
 obtain ⟨rfl, hZ, hh⟩ := hP
 have hx := Bd.exec
 have hby := Bd.bytes
 have hml : c.maxLocals = 6 := hml0
 have hown : s.vm.findClass nm23 = some m.cls := findClass_of_methodNamed Bd.named
 have hnm := (name_of_methodNamed Bd.named Bd.method).1
 have X0 : Stand p l e ({ frames := 1, cells := 1, slots := 2, locals := 18 } : Room) s m #[(rr s_), (ii 0), (ii 2)] below meth c s₁ [] 0 0 := Stand.of_body Bd
 have e0 : s₁.heap = h0 := by rw [← hh, Bd.state]; rfl
 have N0 := Fr.nil n0
 have kp0 : Keep h0 h0 [] := Keep.refl _ _
 have c0 : ∀ t, S_ p e below s₁ m 0 #[vr s_, vi 0, vi 2, u_, u_, u_] [] t → Steps p.tables e below (s₁.setTop (entryFrame m #[(rr s_), (ii 0), (ii 2)] 6)) t := fun t k => castTop (ef_cmp3_2 m s_) k
 generalize s₁.setTop (entryFrame m #[(rr s_), (ii 0), (ii 2)] 6) = st0 at c0 ⊢
 replace c0 : Kt p e below s₁ st0 (mkF m 0 #[vr s_, vi 0, vi 2, u_, u_, u_] []) := c0
 have c1 : Kt p e below s₁ st0 (mkF m 1 #[vr s_, vi 0, vi 2, u_, u_, u_] [(ii 2)]) := fun t k => by
  refine c0 t ?_
  show S_ p e below s₁ m 0 #[vr s_, vi 0, vi 2, u_, u_, u_] [] t
  refine XS.iloadN X0.here hx rfl (hb hby d1_0) rfl ?_
  exact k
 obtain ⟨b2, T2, h2, k2, z2, g2, X2, e2, E2, o3, A2, c2⟩ := knewP (aty := .byte) X0 hx hZ (w34 hw) e0 c1 rfl (hb hby d1_1) rfl (by decide) 2 (by decide) (by decide) (by decide) (by decide) O0
 have kp5 := kp0.ext E2
 have z6 := Nat.le_trans kp0.1 z2
 have f4 : Arv Z h2 b2 k2 .byte (2 : Int32) [(ii 0), (ii 0)] (ii 0) := A2.pad (pad_rep [] (ii 0) 2)
 have q7 := Nat.ne_of_lt (Nat.lt_of_lt_of_le A0_.lt z2)
 have c8 : Kt p e below T2 st0 (mkF m 9 #[vr s_, vi 0, vi 2, vr b2, u_, u_] [(ii 2), (ii 0), (rr b2), (ii 0), (rr s_)]) := fun t k => by
  refine c2 t ?_
  show S_ p e below T2 m 3 #[vr s_, vi 0, vi 2, u_, u_, u_] [(rr b2)] t
  refine XS.astoreN X2.here hx rfl (hb hby d1_3) rfl rfl (l' := #[vr s_, vi 0, vi 2, vr b2, u_, u_]) rfl ?_
  show S_ p e below T2 m 4 #[vr s_, vi 0, vi 2, vr b2, u_, u_] [] t
  refine XS.aloadN X2.here hx rfl (hb hby d1_4) rfl rfl ?_
  show S_ p e below T2 m 5 #[vr s_, vi 0, vi 2, vr b2, u_, u_] [(rr s_)] t
  refine XS.iloadN X2.here hx rfl (hb hby d1_5) rfl ?_
  show S_ p e below T2 m 6 #[vr s_, vi 0, vi 2, vr b2, u_, u_] [(ii 0), (rr s_)] t
  refine XS.aloadN X2.here hx rfl (hb hby d1_6) rfl rfl ?_
  show S_ p e below T2 m 7 #[vr s_, vi 0, vi 2, vr b2, u_, u_] [(rr b2), (ii 0), (rr s_)] t
  refine XS.iconst X2.here hx rfl (hb hby d1_7) ?_
  show S_ p e below T2 m 8 #[vr s_, vi 0, vi 2, vr b2, u_, u_] [(ii 0), (rr b2), (ii 0), (rr s_)] t
  refine XS.iloadN X2.here hx rfl (hb hby d1_8) rfl ?_
  exact k
 obtain ⟨_, T9, L9, X9, hQ9, c9⟩ := kstat X2 hx hZ hown (w35 hw) (w36 hw) (w32 hw) (w37 hw) (rm_cmp5_2 l Z a0 hw [] s_ ks_ b2 k2 c0_ c1_ h2 n0 o3 (A0_.ext E2) f4 g2 q7 hs0_ hs1_) e2 c8 hml pd_pACIABIIrI [(rr s_), (ii 0), (rr b2), (ii 0), (ii 2)] [] 0 (hb hby d1_9) rfl rfl rfl rfl rfl rfl
 obtain ⟨rfl, N10q, K11, p12⟩ := hQ9
 have N10 := Fr.app N0 N10q
 have o13 := o3.keep K11 (allS g2 all0)
 have kp14 := kp5.trans K11 (allS (Or.inr z6) all0)
 obtain ⟨fs, hr, hrun, hended, hW, hsame⟩ := X9.leave (v := some (rr b2)) (fun h => by rw [Bd.returns] at h; cases h)
 refine ⟨_, _, c9 _ ?_, hrun, hended, _, _, rfl, ?_, ⟨_, rfl⟩, hW, hsame.mono (by decide) (by decide)⟩
 ·show S_ p e below T9 m 12 #[vr s_, vi 0, vi 2, vr b2, u_, u_] [(ii 2)] _
  refine XS.istore X9.here hx rfl (hb hby d1_12) rfl (l' := #[vr s_, vi 0, vi 2, vr b2, vi 2, u_]) rfl ?_
  show S_ p e below T9 m 14 #[vr s_, vi 0, vi 2, vr b2, vi 2, u_] [] _
  refine XS.iload X9.here hx rfl (hb hby d1_14) rfl ?_
  show S_ p e below T9 m 16 #[vr s_, vi 0, vi 2, vr b2, vi 2, u_] [(ii 2)] _
  refine XS.iloadN X9.here hx rfl (hb hby d1_16) rfl ?_
  show S_ p e below T9 m 17 #[vr s_, vi 0, vi 2, vr b2, vi 2, u_] [(ii 2), (ii 2)] _
  refine yC X9.here hx rfl 17 57 rfl (hb hby d1_17) rfl rfl ?_
  show S_ p e below T9 m 57 #[vr s_, vi 0, vi 2, vr b2, vi 2, u_] [] _
  refine XS.aloadN X9.here hx rfl (hb hby d1_57) rfl rfl ?_
  show S_ p e below T9 m 58 #[vr s_, vi 0, vi 2, vr b2, vi 2, u_] [(rr b2)] _
  exact retOut X9 hx Bd.returns rfl (Or.inr (Or.inr (Or.inr (Or.inr ⟨rfl, rfl, rfl⟩)))) (hb hby d1_58) hr
 ·show Q_cmp3_2 Z s_ ks_ c0_ c1_ h0 n0 _ T9.heap _
  exact ⟨b2, k2, rfl, N10, kp14, p12, g2, z6⟩
theorem d2_0 : decode jdk_52_method_15_code 0 = .ok (.iload_n 1, 1) := by decide +kernel
theorem d2_1 : decode jdk_52_method_15_code 1 = .ok (.aload_n 0, 1) := by decide +kernel
theorem d2_2 : decode jdk_52_method_15_code 2 = .ok (.arraylength, 1) := by decide +kernel
theorem d2_3 : decode jdk_52_method_15_code 3 = .ok (.isub, 1) := by decide +kernel
theorem d2_4 : decode jdk_52_method_15_code 4 = .ok (.bipush 31, 2) := by decide +kernel
theorem d2_6 : decode jdk_52_method_15_code 6 = .ok (.iushr, 1) := by decide +kernel
theorem d2_7 : decode jdk_52_method_15_code 7 = .ok (.i2b, 1) := by decide +kernel
theorem d2_8 : decode jdk_52_method_15_code 8 = .ok (.ireturn, 1) := by decide +kernel
theorem ef_codl_2 (m : MethodId) (s_ : Addr) : entryFrame m #[(rr s_), (ii 2)] 2 = mkF m 0 #[vr s_, vi 2] [] := by first | (simp [entryFrame, mkF, argsToLocals, Value.category]; done) | rfl
def Q_codl_2 (Z : State) (s_ : Addr) (ks_ : ClassId) (vs_ : List Value) (h0 : Heap) (n0 : Nat) (v : Option Value) (h : Heap) (L : List Loc) : Prop := v = some (ii 0) ∧ Fr n0 L ∧ h = h0
set_option maxRecDepth 65536 in
set_option maxHeartbeats 40000000 in
theorem rm_codl_2 (l : Launch) (Z : State) (a0 : Array Value) (hw : HW Z a0) (ws : List Jvm.Cond) (s_ : Addr) (ks_ : ClassId) (vs_ : List Value) (h0 : Heap) (n0 : Nat) (O0 : Old Z n0 h0) (A0_ : Arv Z h0 s_ ks_ .byte (2 : Int32) vs_ (ii 0)) :
  MFP l Z (⟨nm23, "coderFromArrayLen", "([BI)B"⟩ : MethodName) jdk_52_method_15_code 2 (some .byte) ({ frames := 0, cells := 0, slots := 0, locals := 0 } : Room) ws #[(rr s_), (ii 2)] h0 (Q_codl_2 Z s_ ks_ vs_ h0 n0) := by
 refine MetFree.of_bodySF (plainFor_of_name pn_java_lang_StringUTF16) hisR ?_
 intro p e s m args below meth c s₁ Bd hml0 hP hK
 obtain ⟨rfl, hZ, hh⟩ := hP
 have hx := Bd.exec
 have hby := Bd.bytes
 have hml : c.maxLocals = 2 := hml0
 have hown : s.vm.findClass nm23 = some m.cls := findClass_of_methodNamed Bd.named
 have hnm := (name_of_methodNamed Bd.named Bd.method).1
 have X0 : Stand p l e ({ frames := 0, cells := 0, slots := 0, locals := 0 } : Room) s m #[(rr s_), (ii 2)] below meth c s₁ [] 0 0 := Stand.of_body Bd
 have e0 : s₁.heap = h0 := by rw [← hh, Bd.state]; rfl
 have N0 := Fr.nil n0
 have kp0 : Keep h0 h0 [] := Keep.refl _ _
 have c0 : ∀ t, S_ p e below s₁ m 0 #[vr s_, vi 2] [] t → Steps p.tables e below (s₁.setTop (entryFrame m #[(rr s_), (ii 2)] 2)) t := fun t k => castTop (ef_codl_2 m s_) k
 generalize s₁.setTop (entryFrame m #[(rr s_), (ii 2)] 2) = st0 at c0 ⊢
 replace c0 : Kt p e below s₁ st0 (mkF m 0 #[vr s_, vi 2] []) := c0
 obtain ⟨fs, hr, hrun, hended, hW, hsame⟩ := X0.leave (v := some (ii 0)) (fun h => by rw [Bd.returns] at h; cases h)
 refine ⟨_, _, c0 _ ?_, hrun, hended, _, _, rfl, ?_, ⟨_, rfl⟩, hW, hsame.mono (by decide) (by decide)⟩
 ·show S_ p e below s₁ m 0 #[vr s_, vi 2] [] _
  refine XS.iloadN X0.here hx rfl (hb hby d2_0) rfl ?_
  show S_ p e below s₁ m 1 #[vr s_, vi 2] [(ii 2)] _
  refine XS.aloadN X0.here hx rfl (hb hby d2_1) rfl rfl ?_
  show S_ p e below s₁ m 2 #[vr s_, vi 2] [(rr s_), (ii 2)] _
  refine ldLen X0 hx hZ e0 A0_ rfl rfl (hb hby d2_2) ?_
  show S_ p e below s₁ m 3 #[vr s_, vi 2] [(ii 2), (ii 2)] _
  refine XS.isub X0.here hx rfl (hb hby d2_3) rfl ?_
  show S_ p e below s₁ m 4 #[vr s_, vi 2] [(ii 0)] _
  refine XS.bipush X0.here hx rfl (hb hby d2_4) ?_
  show S_ p e below s₁ m 6 #[vr s_, vi 2] [(ii 31), (ii 0)] _
  refine XS.iushr X0.here hx rfl (hb hby d2_6) rfl ?_
  show S_ p e below s₁ m 7 #[vr s_, vi 2] [(ii 0)] _
  refine XS.i2b X0.here hx rfl (hb hby d2_7) rfl ?_
  show S_ p e below s₁ m 8 #[vr s_, vi 2] [(ii 0)] _
  exact retN X0 hx (t := .byte) Bd.returns (by simp) (hb hby d2_8) hr
 ·show Q_codl_2 Z s_ ks_ vs_ h0 n0 _ s₁.heap _
  rw [e0]
  exact ⟨rfl, N0, rfl⟩
theorem pn_java_lang_String : plainName nm6 = true := by first | (simp [plainName, overriddenIn]; done) | decide +kernel
theorem d3_0 : decode jdk_42_method_149_code 0 = .ok (.aload_n 0, 1) := by decide +kernel
theorem d3_1 : decode jdk_42_method_149_code 1 = .ok (.invokespecial 1, 3) := by decide +kernel
theorem d3_4 : decode jdk_42_method_149_code 4 = .ok (.iload_n 3, 1) := by decide +kernel
theorem d3_5 : decode jdk_42_method_149_code 5 = .ok (.ifCond .ne 22, 3) := by decide +kernel
theorem d3_27 : decode jdk_42_method_149_code 27 = .ok (.getstatic 38, 3) := by decide +kernel
theorem d3_30 : decode jdk_42_method_149_code 30 = .ok (.ifCond .eq 28, 3) := by decide +kernel
theorem d3_33 : decode jdk_42_method_149_code 33 = .ok (.aload_n 1, 1) := by decide +kernel
theorem d3_34 : decode jdk_42_method_149_code 34 = .ok (.iload_n 2, 1) := by decide +kernel
theorem d3_35 : decode jdk_42_method_149_code 35 = .ok (.iload_n 3, 1) := by decide +kernel
theorem d3_36 : decode jdk_42_method_149_code 36 = .ok (.invokestatic 177, 3) := by decide +kernel
theorem pd_pACIIrAB : parseMethodDescriptor "([CII)[B" = some ⟨[(.array .char), .int, .int], some (.array .byte)⟩ := by decide +kernel
theorem d3_39 : decode jdk_42_method_149_code 39 = .ok (.astore 5, 2) := by decide +kernel
theorem d3_41 : decode jdk_42_method_149_code 41 = .ok (.aload_n 0, 1) := by decide +kernel
theorem d3_42 : decode jdk_42_method_149_code 42 = .ok (.aload 5, 2) := by decide +kernel
theorem d3_44 : decode jdk_42_method_149_code 44 = .ok (.iload_n 3, 1) := by decide +kernel
theorem d3_45 : decode jdk_42_method_149_code 45 = .ok (.invokestatic 47, 3) := by decide +kernel
theorem pd_pABIrB : parseMethodDescriptor "([BI)B" = some ⟨[(.array .byte), .int], some .byte⟩ := by decide +kernel
theorem d3_48 : decode jdk_42_method_149_code 48 = .ok (.putfield 15, 3) := by decide +kernel
theorem d3_51 : decode jdk_42_method_149_code 51 = .ok (.aload_n 0, 1) := by decide +kernel
theorem d3_52 : decode jdk_42_method_149_code 52 = .ok (.aload 5, 2) := by decide +kernel
theorem d3_54 : decode jdk_42_method_149_code 54 = .ok (.putfield 9, 3) := by decide +kernel
theorem d3_57 : decode jdk_42_method_149_code 57 = .ok (.return_, 1) := by decide +kernel
theorem ef_str4_2 (m : MethodId) (x_ : Addr) (s_ : Addr) : entryFrame m #[(rr x_), (rr s_), (ii 0), (ii 2), .null] 6 = mkF m 0 #[vr x_, vr s_, vi 0, vi 2, .val .null, u_] [] := by first | (simp [entryFrame, mkF, argsToLocals, Value.category]; done) | rfl
def Q_str4_2 (Z : State) (x_ : Addr) (s_ : Addr) (ks_ : ClassId) (z_ : Int32) (c0_ : Int32) (c1_ : Int32) (h0 : Heap) (n0 : Nat) (v : Option Value) (h : Heap) (L : List Loc) : Prop := v = none ∧ Fr n0 L ∧ Keep h0 h [x_] ∧ Exa Z h x_ nm6 ∧ Fld Z h x_ nm6 "coder" "B" (ii 0) ∧ ∃ (b_ : Addr), ∃ (kb_ : ClassId), Fld Z h x_ nm6 "value" "[B" (rr b_) ∧ Arv Z h b_ kb_ .byte (2 : Int32) [(.int (nar .byte (c0_.toInt8.toInt32))), (.int (nar .byte (c1_.toInt8.toInt32)))] (ii 0) ∧ n0 ≤ b_ ∧ h0.size ≤ b_
set_option maxRecDepth 65536 in
set_option maxHeartbeats 40000000 in
theorem rm_str4_2 (l : Launch) (Z : State) (a0 : Array Value) (hw : HW Z a0) (ws : List Jvm.Cond) (x_ : Addr) (s_ : Addr) (ks_ : ClassId) (z_ : Int32) (c0_ : Int32) (c1_ : Int32) (h0 : Heap) (n0 : Nat) (O0 : Old Z n0 h0) (E0_ : Exa Z h0 x_ nm6) (F1_ : Fld Z h0 x_ nm6 "value" "[B" .null) (F2_ : Fld Z h0 x_ nm6 "coder" "B" (ii 0)) (G3_ : n0 ≤ x_) (A4_ : Arv Z h0 s_ ks_ .char (2 : Int32) [(.int c0_), (.int c1_)] (ii 0)) (ZS5_ : Sta Z Z.heap nm6 "COMPACT_STRINGS" "Z" (.int z_)) (hz_ : ¬ (z_ = (0 : Int32))) (hs0_ : ¬ ((255 : Int32) < c0_)) (hs1_ : ¬ ((255 : Int32) < c1_)) :
  MFP l Z (⟨nm6, "<init>", "([CIILjava/lang/Void;)V"⟩ : MethodName) jdk_42_method_149_code 6 none ({ frames := 2, cells := 1, slots := 2, locals := 35 } : Room) ws #[(rr x_), (rr s_), (ii 0), (ii 2), .null] h0 (Q_str4_2 Z x_ s_ ks_ z_ c0_ c1_ h0 n0) := by
 refine MetFree.of_bodySF (plainFor_of_name pn_java_lang_String) hisR ?_
 intro p e s m args below meth c s₁ Bd hml0 hP hK
 obtain ⟨rfl, hZ, hh⟩ := hP
 have hx := Bd.exec
 have hby := Bd.bytes
 have hml : c.maxLocals = 6 := hml0
 have hown : s.vm.findClass nm6 = some m.cls := findClass_of_methodNamed Bd.named
 have hnm := (name_of_methodNamed Bd.named Bd.method).1
 have X0 : Stand p l e ({ frames := 2, cells := 1, slots := 2, locals := 35 } : Room) s m #[(rr x_), (rr s_), (ii 0), (ii 2), .null] below meth c s₁ [] 0 0 := Stand.of_body Bd
 have e0 : s₁.heap = h0 := by rw [← hh, Bd.state]; rfl
 have N0 := Fr.nil n0
 have kp0 : Keep h0 h0 [x_] := Keep.refl _ _
 have c0 : ∀ t, S_ p e below s₁ m 0 #[vr x_, vr s_, vi 0, vi 2, .val .null, u_] [] t → Steps p.tables e below (s₁.setTop (entryFrame m #[(rr x_), (rr s_), (ii 0), (ii 2), .null] 6)) t := fun t k => castTop (ef_str4_2 m x_ s_) k
 generalize s₁.setTop (entryFrame m #[(rr x_), (rr s_), (ii 0), (ii 2), .null] 6) = st0 at c0 ⊢
 replace c0 : Kt p e below s₁ st0 (mkF m 0 #[vr x_, vr s_, vi 0, vi 2, .val .null, u_] []) := c0
 have c1 : Kt p e below s₁ st0 (mkF m 1 #[vr x_, vr s_, vi 0, vi 2, .val .null, u_] [(rr x_)]) := fun t k => by
  refine c0 t ?_
  show S_ p e below s₁ m 0 #[vr x_, vr s_, vi 0, vi 2, .val .null, u_] [] t
  refine XS.aloadN X0.here hx rfl (hb hby d3_0) rfl rfl ?_
  exact k
 obtain ⟨T2, X2, e2, c2⟩ := kinit X0 hx hZ hown (w26 hw) (w27 hw) (w28 hw) e0 c1 rfl hml rfl rfl (hb hby d3_1) 0 (own_w rfl) (by decide) (by decide)
 have c3 : Kt p e below T2 st0 (mkF m 27 #[vr x_, vr s_, vi 0, vi 2, .val .null, u_] []) := fun t k => by
  refine c2 t ?_
  show S_ p e below T2 m 4 #[vr x_, vr s_, vi 0, vi 2, .val .null, u_] [] t
  refine XS.iloadN X2.here hx rfl (hb hby d3_4) rfl ?_
  show S_ p e below T2 m 5 #[vr x_, vr s_, vi 0, vi 2, .val .null, u_] [(ii 2)] t
  refine yI X2.here hx rfl 5 27 rfl (hb hby d3_5) rfl rfl ?_
  exact k
 obtain ⟨T4, X4, e4, c4⟩ := kgetS X2 hx hZ hown (host := "") (Or.inl (w29 hw)) Via.refl e2 (ZS5_.ext O0.2) c3 rfl (hb hby d3_27)
 have c5 : Kt p e below T4 st0 (mkF m 36 #[vr x_, vr s_, vi 0, vi 2, .val .null, u_] [(ii 2), (ii 0), (rr s_)]) := fun t k => by
  refine c4 t ?_
  show S_ p e below T4 m 30 #[vr x_, vr s_, vi 0, vi 2, .val .null, u_] [(.int z_)] t
  refine XS.ifNo X4.here hx rfl (hb hby d3_30) rfl ((if0 _ _).trans (feq hz_).1) ?_
  show S_ p e below T4 m 33 #[vr x_, vr s_, vi 0, vi 2, .val .null, u_] [] t
  refine XS.aloadN X4.here hx rfl (hb hby d3_33) rfl rfl ?_
  show S_ p e below T4 m 34 #[vr x_, vr s_, vi 0, vi 2, .val .null, u_] [(rr s_)] t
  refine XS.iloadN X4.here hx rfl (hb hby d3_34) rfl ?_
  show S_ p e below T4 m 35 #[vr x_, vr s_, vi 0, vi 2, .val .null, u_] [(ii 0), (rr s_)] t
  refine XS.iloadN X4.here hx rfl (hb hby d3_35) rfl ?_
  exact k
 obtain ⟨_, T6, L6, X6, hQ6, c6⟩ := kstat X4 hx hZ hown (w30 hw) (w31 hw) (w32 hw) (w33 hw) (rm_cmp3_2 l Z a0 hw [] s_ ks_ c0_ c1_ h0 n0 O0 A4_ hs0_ hs1_) e4 c5 hml pd_pACIIrAB [(rr s_), (ii 0), (ii 2)] [] 0 (hb hby d3_36) rfl rfl rfl rfl rfl rfl
 obtain ⟨b7, k8, rfl, N9q, K10, p11, p12, p13⟩ := hQ6
 have N9 := Fr.app N0 N9q
 have o14 := O0.keep K10 all0
 have kp15 := kp0.trans K10 all0
 have z16 := Nat.le_trans kp0.1 p13
 have g17 := Nat.le_trans (Nat.le_trans (Nat.le_of_eq O0.1.symm) O0.2.1) p13
 have c18 : Kt p e below T6 st0 (mkF m 45 #[vr x_, vr s_, vi 0, vi 2, .val .null, vr b7] [(ii 2), (rr b7), (rr x_)]) := fun t k => by
  refine c6 t ?_
  show S_ p e below T6 m 39 #[vr x_, vr s_, vi 0, vi 2, .val .null, u_] [(rr b7)] t
  refine XS.astore X6.here hx rfl (hb hby d3_39) rfl rfl (l' := #[vr x_, vr s_, vi 0, vi 2, .val .null, vr b7]) rfl ?_
  show S_ p e below T6 m 41 #[vr x_, vr s_, vi 0, vi 2, .val .null, vr b7] [] t
  refine XS.aloadN X6.here hx rfl (hb hby d3_41) rfl rfl ?_
  show S_ p e below T6 m 42 #[vr x_, vr s_, vi 0, vi 2, .val .null, vr b7] [(rr x_)] t
  refine XS.aload X6.here hx rfl (hb hby d3_42) rfl rfl ?_
  show S_ p e below T6 m 44 #[vr x_, vr s_, vi 0, vi 2, .val .null, vr b7] [(rr b7), (rr x_)] t
  refine XS.iloadN X6.here hx rfl (hb hby d3_44) rfl ?_
  exact k
 obtain ⟨_, T19, L19, X19, hQ19, c19⟩ := kstat X6 hx hZ hown (w38 hw) (w39 hw) (w32 hw) (w40 hw) (rm_codl_2 l Z a0 hw [] b7 k8 [(.int (nar .byte (c0_.toInt8.toInt32))), (.int (nar .byte (c1_.toInt8.toInt32)))] T6.heap n0 o14 p11) rfl c18 hml pd_pABIrB [(rr b7), (ii 2)] [(rr x_)] 1 (hb hby d3_45) rfl rfl rfl rfl rfl rfl
 obtain ⟨rfl, N20q, K21⟩ := hQ19
 have N20 := Fr.app N9 N20q
 obtain ⟨T22, h22, X22, e22, W22, f23, o25, N24, c22⟩ := kput X19 hx hZ .byte hown (host := "") (Or.inl (w41 hw)) Via.refl K21 (F2_.keep K10 nin0) (E0_.keep K10) (Or.inr ⟨(w42 hw), rfl, hnm⟩) (w17 hw) c19 rfl rfl (hb hby d3_48) (by decide) rfl rfl o14 N20 G3_
 have kp26 := kp15.wr W22 (Or.inl (List.mem_of_getElem? (i := 0) rfl))
 have f27 := (F1_.keep K10 nin0).other W22 (Or.inr (slot_ne (Or.inr (w44 hw)) (Or.inr (w42 hw)) (by decide) (t := (.array .byte)) (t' := .byte) (by decide) (by decide)))
 have c28 : Kt p e below T22 st0 (mkF m 54 #[vr x_, vr s_, vi 0, vi 2, .val .null, vr b7] [(rr b7), (rr x_)]) := fun t k => by
  refine c22 t ?_
  show S_ p e below T22 m 51 #[vr x_, vr s_, vi 0, vi 2, .val .null, vr b7] [] t
  refine XS.aloadN X22.here hx rfl (hb hby d3_51) rfl rfl ?_
  show S_ p e below T22 m 52 #[vr x_, vr s_, vi 0, vi 2, .val .null, vr b7] [(rr x_)] t
  refine XS.aload X22.here hx rfl (hb hby d3_52) rfl rfl ?_
  exact k
 obtain ⟨T29, h29, X29, e29, W29, f30, o32, N31, c29⟩ := kput X22 hx hZ (.array .byte) hown (host := "") (Or.inl (w43 hw)) Via.refl e22 f27 ((E0_.keep K10).wr W22) (Or.inr ⟨(w44 hw), rfl, hnm⟩) (w17 hw) c28 rfl rfl (hb hby d3_54) (by decide) rfl rfl o25 N24 G3_
 have kp33 := kp26.wr W29 (Or.inl (List.mem_of_getElem? (i := 0) rfl))
 have f34 := f23.other W29 (Or.inr (slot_ne (Or.inr (w42 hw)) (Or.inr (w44 hw)) (by decide) (t := .byte) (t' := (.array .byte)) (by decide) (by decide)))
 have q35 := Ne.symm (Nat.ne_of_lt (Nat.lt_of_lt_of_le E0_.lt p13))
 obtain ⟨fs, hr, hrun, hended, hW, hsame⟩ := X29.leave (v := none) (fun _ => rfl)
 refine ⟨_, _, c29 _ ?_, hrun, hended, _, _, rfl, ?_, ⟨_, rfl⟩, hW, hsame.mono (by decide) (by decide)⟩
 ·show S_ p e below T29 m 57 #[vr x_, vr s_, vi 0, vi 2, .val .null, vr b7] [] _
  exact X29.returnOut hx Bd.returns (hb hby d3_57) hr
 ·show Q_str4_2 Z x_ s_ ks_ z_ c0_ c1_ h0 n0 _ T29.heap _
  rw [e29]
  exact ⟨rfl, N31, kp33, (((E0_.keep K10).wr W22).wr W29), f34, b7, k8, f30, ((p11.other W22 q35).other W29 q35), g17, z16⟩
theorem d4_0 : decode jdk_42_method_3_code 0 = .ok (.aload_n 0, 1) := by decide +kernel
theorem d4_1 : decode jdk_42_method_3_code 1 = .ok (.aload_n 1, 1) := by decide +kernel
theorem d4_2 : decode jdk_42_method_3_code 2 = .ok (.iconst 0, 1) := by decide +kernel
theorem d4_3 : decode jdk_42_method_3_code 3 = .ok (.aload_n 1, 1) := by decide +kernel
theorem d4_4 : decode jdk_42_method_3_code 4 = .ok (.arraylength, 1) := by decide +kernel
theorem d4_5 : decode jdk_42_method_3_code 5 = .ok (.aconst_null, 1) := by decide +kernel
theorem d4_6 : decode jdk_42_method_3_code 6 = .ok (.invokespecial 27, 3) := by decide +kernel
theorem pd_pACIILjava_lang_Void_rV : parseMethodDescriptor "([CIILjava/lang/Void;)V" = some ⟨[(.array .char), .int, .int, (.object "java/lang/Void")], none⟩ := by decide +kernel
theorem d4_9 : decode jdk_42_method_3_code 9 = .ok (.return_, 1) := by decide +kernel
theorem ef_str1_2 (m : MethodId) (x_ : Addr) (s_ : Addr) : entryFrame m #[(rr x_), (rr s_)] 2 = mkF m 0 #[vr x_, vr s_] [] := by first | (simp [entryFrame, mkF, argsToLocals, Value.category]; done) | rfl
def Q_str1_2 (Z : State) (x_ : Addr) (s_ : Addr) (ks_ : ClassId) (z_ : Int32) (c0_ : Int32) (c1_ : Int32) (h0 : Heap) (n0 : Nat) (v : Option Value) (h : Heap) (L : List Loc) : Prop := v = none ∧ Fr n0 L ∧ Keep h0 h [x_] ∧ Exa Z h x_ nm6 ∧ Fld Z h x_ nm6 "coder" "B" (ii 0) ∧ ∃ (b_ : Addr), ∃ (kb_ : ClassId), Fld Z h x_ nm6 "value" "[B" (rr b_) ∧ Arv Z h b_ kb_ .byte (2 : Int32) [(.int (nar .byte (c0_.toInt8.toInt32))), (.int (nar .byte (c1_.toInt8.toInt32)))] (ii 0) ∧ n0 ≤ b_ ∧ h0.size ≤ b_
set_option maxRecDepth 65536 in
set_option maxHeartbeats 40000000 in
theorem rm_str1_2 (l : Launch) (Z : State) (a0 : Array Value) (hw : HW Z a0) (ws : List Jvm.Cond) (x_ : Addr) (s_ : Addr) (ks_ : ClassId) (z_ : Int32) (c0_ : Int32) (c1_ : Int32) (h0 : Heap) (n0 : Nat) (O0 : Old Z n0 h0) (E0_ : Exa Z h0 x_ nm6) (F1_ : Fld Z h0 x_ nm6 "value" "[B" .null) (F2_ : Fld Z h0 x_ nm6 "coder" "B" (ii 0)) (G3_ : n0 ≤ x_) (A4_ : Arv Z h0 s_ ks_ .char (2 : Int32) [(.int c0_), (.int c1_)] (ii 0)) (ZS5_ : Sta Z Z.heap nm6 "COMPACT_STRINGS" "Z" (.int z_)) (hz_ : ¬ (z_ = (0 : Int32))) (hs0_ : ¬ ((255 : Int32) < c0_)) (hs1_ : ¬ ((255 : Int32) < c1_)) :
  MFP l Z (⟨nm6, "<init>", "([C)V"⟩ : MethodName) jdk_42_method_3_code 2 none ({ frames := 3, cells := 1, slots := 2, locals := 52 } : Room) ws #[(rr x_), (rr s_)] h0 (Q_str1_2 Z x_ s_ ks_ z_ c0_ c1_ h0 n0) := by
 refine MetFree.of_bodySF (plainFor_of_name pn_java_lang_String) hisR ?_
 intro p e s m args below meth c s₁ Bd hml0 hP hK
 obtain ⟨rfl, hZ, hh⟩ := hP
 have hx := Bd.exec
 have hby := Bd.bytes
 have hml : c.maxLocals = 2 := hml0
 have hown : s.vm.findClass nm6 = some m.cls := findClass_of_methodNamed Bd.named
 have hnm := (name_of_methodNamed Bd.named Bd.method).1
 have X0 : Stand p l e ({ frames := 3, cells := 1, slots := 2, locals := 52 } : Room) s m #[(rr x_), (rr s_)] below meth c s₁ [] 0 0 := Stand.of_body Bd
 have e0 : s₁.heap = h0 := by rw [← hh, Bd.state]; rfl
 have N0 := Fr.nil n0
 have kp0 : Keep h0 h0 [x_] := Keep.refl _ _
 have c0 : ∀ t, S_ p e below s₁ m 0 #[vr x_, vr s_] [] t → Steps p.tables e below (s₁.setTop (entryFrame m #[(rr x_), (rr s_)] 2)) t := fun t k => castTop (ef_str1_2 m x_ s_) k
 generalize s₁.setTop (entryFrame m #[(rr x_), (rr s_)] 2) = st0 at c0 ⊢
 replace c0 : Kt p e below s₁ st0 (mkF m 0 #[vr x_, vr s_] []) := c0
 have c1 : Kt p e below s₁ st0 (mkF m 6 #[vr x_, vr s_] [.null, (ii 2), (ii 0), (rr s_), (rr x_)]) := fun t k => by
  refine c0 t ?_
  show S_ p e below s₁ m 0 #[vr x_, vr s_] [] t
  refine XS.aloadN X0.here hx rfl (hb hby d4_0) rfl rfl ?_
  show S_ p e below s₁ m 1 #[vr x_, vr s_] [(rr x_)] t
  refine XS.aloadN X0.here hx rfl (hb hby d4_1) rfl rfl ?_
  show S_ p e below s₁ m 2 #[vr x_, vr s_] [(rr s_), (rr x_)] t
  refine XS.iconst X0.here hx rfl (hb hby d4_2) ?_
  show S_ p e below s₁ m 3 #[vr x_, vr s_] [(ii 0), (rr s_), (rr x_)] t
  refine XS.aloadN X0.here hx rfl (hb hby d4_3) rfl rfl ?_
  show S_ p e below s₁ m 4 #[vr x_, vr s_] [(rr s_), (ii 0), (rr s_), (rr x_)] t
  refine ldLen X0 hx hZ e0 A4_ rfl rfl (hb hby d4_4) ?_
  show S_ p e below s₁ m 5 #[vr x_, vr s_] [(ii 2), (ii 0), (rr s_), (rr x_)] t
  refine XS.aconstNull X0.here hx rfl (hb hby d4_5) ?_
  exact k
 obtain ⟨_, T2, L2, X2, hQ2, c2⟩ := kspec X0 hx hZ hown (w22 hw) (w23 hw) (w18 hw) (w25 hw) (rm_str4_2 l Z a0 hw [] x_ s_ ks_ z_ c0_ c1_ h0 n0 O0 E0_ F1_ F2_ G3_ A4_ ZS5_ hz_ hs0_ hs1_) e0 c1 hml pd_pACIILjava_lang_Void_rV x_ [(rr s_), (ii 0), (ii 2), .null] [] 0 (hb hby d4_6) rfl rfl rfl rfl rfl rfl
 obtain ⟨rfl, N3q, K4, p5, p6, b7, k8, p9, p10, p11, p12⟩ := hQ2
 have N3 := Fr.app N0 N3q
 have o13 := O0.keep K4 (allS G3_ all0)
 have kp14 := kp0.trans K4 (allS (Or.inl (List.mem_of_getElem? (i := 0) rfl)) all0)
 have z15 := Nat.le_trans kp0.1 p12
 have g16 := Nat.le_trans (Nat.le_trans (Nat.le_of_eq O0.1.symm) O0.2.1) p12
 obtain ⟨fs, hr, hrun, hended, hW, hsame⟩ := X2.leave (v := none) (fun _ => rfl)
 refine ⟨_, _, c2 _ ?_, hrun, hended, _, _, rfl, ?_, ⟨_, rfl⟩, hW, hsame.mono (by decide) (by decide)⟩
 ·show S_ p e below T2 m 9 #[vr x_, vr s_] [] _
  exact X2.returnOut hx Bd.returns (hb hby d4_9) hr
 ·show Q_str1_2 Z x_ s_ ks_ z_ c0_ c1_ h0 n0 _ T2.heap _
  exact ⟨rfl, N3, kp14, p5, p6, b7, k8, p9, p10, g16, z15⟩
theorem pn_com_example_rosterd_rosterd_core_OutcomeSucceededPinLaw : plainName nm4 = true := by first | (simp [plainName, overriddenIn]; done) | decide +kernel
theorem d5_0 : decode method_2_code 0 = .ok (.iload_n 0, 1) := by decide +kernel
theorem d5_1 : decode method_2_code 1 = .ok (.ifCond .ne 7, 3) := by decide +kernel
theorem d5_4 : decode method_2_code 4 = .ok (.getstatic 7, 3) := by decide +kernel
theorem d5_7 : decode method_2_code 7 = .ok (.areturn, 1) := by decide +kernel
theorem d5_8 : decode method_2_code 8 = .ok (.iload_n 0, 1) := by decide +kernel
theorem d5_9 : decode method_2_code 9 = .ok (.iconst 1, 1) := by decide +kernel
theorem d5_10 : decode method_2_code 10 = .ok (.if_icmp .ne 7, 3) := by decide +kernel
theorem d5_13 : decode method_2_code 13 = .ok (.getstatic 13, 3) := by decide +kernel
theorem d5_16 : decode method_2_code 16 = .ok (.areturn, 1) := by decide +kernel
theorem d5_17 : decode method_2_code 17 = .ok (.iload_n 0, 1) := by decide +kernel
theorem d5_18 : decode method_2_code 18 = .ok (.iconst 2, 1) := by decide +kernel
theorem d5_19 : decode method_2_code 19 = .ok (.if_icmp .ne 7, 3) := by decide +kernel
theorem d5_22 : decode method_2_code 22 = .ok (.getstatic 16, 3) := by decide +kernel
theorem d5_25 : decode method_2_code 25 = .ok (.areturn, 1) := by decide +kernel
theorem d5_26 : decode method_2_code 26 = .ok (.iload_n 0, 1) := by decide +kernel
theorem d5_27 : decode method_2_code 27 = .ok (.iconst 3, 1) := by decide +kernel
theorem d5_28 : decode method_2_code 28 = .ok (.if_icmp .ne 7, 3) := by decide +kernel
theorem d5_31 : decode method_2_code 31 = .ok (.getstatic 19, 3) := by decide +kernel
theorem d5_34 : decode method_2_code 34 = .ok (.areturn, 1) := by decide +kernel
theorem d5_35 : decode method_2_code 35 = .ok (.iload_n 0, 1) := by decide +kernel
theorem d5_36 : decode method_2_code 36 = .ok (.iconst 4, 1) := by decide +kernel
theorem d5_37 : decode method_2_code 37 = .ok (.if_icmp .ne 7, 3) := by decide +kernel
theorem d5_40 : decode method_2_code 40 = .ok (.getstatic 22, 3) := by decide +kernel
theorem d5_43 : decode method_2_code 43 = .ok (.areturn, 1) := by decide +kernel
theorem d5_44 : decode method_2_code 44 = .ok (.iload_n 0, 1) := by decide +kernel
theorem d5_45 : decode method_2_code 45 = .ok (.iconst 5, 1) := by decide +kernel
theorem d5_46 : decode method_2_code 46 = .ok (.if_icmp .ne 7, 3) := by decide +kernel
theorem d5_49 : decode method_2_code 49 = .ok (.getstatic 25, 3) := by decide +kernel
theorem d5_52 : decode method_2_code 52 = .ok (.areturn, 1) := by decide +kernel
theorem d5_53 : decode method_2_code 53 = .ok (.iload_n 0, 1) := by decide +kernel
theorem d5_54 : decode method_2_code 54 = .ok (.bipush 6, 2) := by decide +kernel
theorem d5_56 : decode method_2_code 56 = .ok (.if_icmp .ne 7, 3) := by decide +kernel
theorem d5_59 : decode method_2_code 59 = .ok (.getstatic 28, 3) := by decide +kernel
theorem d5_62 : decode method_2_code 62 = .ok (.areturn, 1) := by decide +kernel
theorem d5_63 : decode method_2_code 63 = .ok (.iload_n 0, 1) := by decide +kernel
theorem d5_64 : decode method_2_code 64 = .ok (.bipush 7, 2) := by decide +kernel
theorem d5_66 : decode method_2_code 66 = .ok (.if_icmp .ne 7, 3) := by decide +kernel
theorem d5_69 : decode method_2_code 69 = .ok (.getstatic 31, 3) := by decide +kernel
theorem d5_72 : decode method_2_code 72 = .ok (.areturn, 1) := by decide +kernel
theorem d5_73 : decode method_2_code 73 = .ok (.iload_n 0, 1) := by decide +kernel
theorem d5_74 : decode method_2_code 74 = .ok (.bipush 8, 2) := by decide +kernel
theorem d5_76 : decode method_2_code 76 = .ok (.if_icmp .ne 7, 3) := by decide +kernel
theorem d5_79 : decode method_2_code 79 = .ok (.getstatic 34, 3) := by decide +kernel
theorem d5_82 : decode method_2_code 82 = .ok (.areturn, 1) := by decide +kernel
theorem d5_83 : decode method_2_code 83 = .ok (.iload_n 0, 1) := by decide +kernel
theorem d5_84 : decode method_2_code 84 = .ok (.bipush 9, 2) := by decide +kernel
theorem d5_86 : decode method_2_code 86 = .ok (.if_icmp .ne 7, 3) := by decide +kernel
theorem d5_89 : decode method_2_code 89 = .ok (.getstatic 37, 3) := by decide +kernel
theorem d5_92 : decode method_2_code 92 = .ok (.areturn, 1) := by decide +kernel
theorem d5_93 : decode method_2_code 93 = .ok (.iload_n 0, 1) := by decide +kernel
theorem d5_94 : decode method_2_code 94 = .ok (.bipush 10, 2) := by decide +kernel
theorem d5_96 : decode method_2_code 96 = .ok (.if_icmp .ne 7, 3) := by decide +kernel
theorem d5_99 : decode method_2_code 99 = .ok (.getstatic 40, 3) := by decide +kernel
theorem d5_102 : decode method_2_code 102 = .ok (.areturn, 1) := by decide +kernel
theorem d5_103 : decode method_2_code 103 = .ok (.iload_n 0, 1) := by decide +kernel
theorem d5_104 : decode method_2_code 104 = .ok (.bipush 11, 2) := by decide +kernel
theorem d5_106 : decode method_2_code 106 = .ok (.if_icmp .ne 7, 3) := by decide +kernel
theorem d5_109 : decode method_2_code 109 = .ok (.getstatic 43, 3) := by decide +kernel
theorem d5_112 : decode method_2_code 112 = .ok (.areturn, 1) := by decide +kernel
theorem d5_113 : decode method_2_code 113 = .ok (.iload_n 0, 1) := by decide +kernel
theorem d5_114 : decode method_2_code 114 = .ok (.bipush 12, 2) := by decide +kernel
theorem d5_116 : decode method_2_code 116 = .ok (.if_icmp .ne 7, 3) := by decide +kernel
theorem d5_119 : decode method_2_code 119 = .ok (.getstatic 46, 3) := by decide +kernel
theorem d5_122 : decode method_2_code 122 = .ok (.areturn, 1) := by decide +kernel
theorem d5_123 : decode method_2_code 123 = .ok (.iload_n 0, 1) := by decide +kernel
theorem d5_124 : decode method_2_code 124 = .ok (.bipush 13, 2) := by decide +kernel
theorem d5_126 : decode method_2_code 126 = .ok (.if_icmp .ne 7, 3) := by decide +kernel
theorem d5_129 : decode method_2_code 129 = .ok (.getstatic 49, 3) := by decide +kernel
theorem d5_132 : decode method_2_code 132 = .ok (.areturn, 1) := by decide +kernel
theorem d5_133 : decode method_2_code 133 = .ok (.iload_n 0, 1) := by decide +kernel
theorem d5_134 : decode method_2_code 134 = .ok (.bipush 14, 2) := by decide +kernel
theorem d5_136 : decode method_2_code 136 = .ok (.if_icmp .ne 7, 3) := by decide +kernel
theorem d5_139 : decode method_2_code 139 = .ok (.getstatic 52, 3) := by decide +kernel
theorem d5_142 : decode method_2_code 142 = .ok (.areturn, 1) := by decide +kernel
theorem d5_143 : decode method_2_code 143 = .ok (.iload_n 0, 1) := by decide +kernel
theorem d5_144 : decode method_2_code 144 = .ok (.bipush 15, 2) := by decide +kernel
theorem d5_146 : decode method_2_code 146 = .ok (.if_icmp .ne 7, 3) := by decide +kernel
theorem d5_149 : decode method_2_code 149 = .ok (.getstatic 55, 3) := by decide +kernel
theorem d5_152 : decode method_2_code 152 = .ok (.areturn, 1) := by decide +kernel
theorem d5_153 : decode method_2_code 153 = .ok (.iload_n 0, 1) := by decide +kernel
theorem d5_154 : decode method_2_code 154 = .ok (.bipush 16, 2) := by decide +kernel
theorem d5_156 : decode method_2_code 156 = .ok (.if_icmp .ne 7, 3) := by decide +kernel
theorem d5_159 : decode method_2_code 159 = .ok (.getstatic 58, 3) := by decide +kernel
theorem d5_162 : decode method_2_code 162 = .ok (.areturn, 1) := by decide +kernel
theorem d5_163 : decode method_2_code 163 = .ok (.iload_n 0, 1) := by decide +kernel
theorem d5_164 : decode method_2_code 164 = .ok (.bipush 17, 2) := by decide +kernel
theorem d5_166 : decode method_2_code 166 = .ok (.if_icmp .ne 7, 3) := by decide +kernel
theorem d5_169 : decode method_2_code 169 = .ok (.getstatic 61, 3) := by decide +kernel
theorem d5_172 : decode method_2_code 172 = .ok (.areturn, 1) := by decide +kernel
theorem d5_173 : decode method_2_code 173 = .ok (.iload_n 0, 1) := by decide +kernel
theorem d5_174 : decode method_2_code 174 = .ok (.bipush 18, 2) := by decide +kernel
theorem d5_176 : decode method_2_code 176 = .ok (.if_icmp .ne 7, 3) := by decide +kernel
theorem d5_179 : decode method_2_code 179 = .ok (.getstatic 64, 3) := by decide +kernel
theorem d5_182 : decode method_2_code 182 = .ok (.areturn, 1) := by decide +kernel
theorem d5_183 : decode method_2_code 183 = .ok (.iload_n 0, 1) := by decide +kernel
theorem d5_184 : decode method_2_code 184 = .ok (.bipush 19, 2) := by decide +kernel
theorem d5_186 : decode method_2_code 186 = .ok (.if_icmp .ne 7, 3) := by decide +kernel
theorem d5_189 : decode method_2_code 189 = .ok (.getstatic 67, 3) := by decide +kernel
theorem d5_192 : decode method_2_code 192 = .ok (.areturn, 1) := by decide +kernel
theorem d5_193 : decode method_2_code 193 = .ok (.iload_n 0, 1) := by decide +kernel
theorem d5_194 : decode method_2_code 194 = .ok (.bipush 20, 2) := by decide +kernel
theorem d5_196 : decode method_2_code 196 = .ok (.if_icmp .ne 7, 3) := by decide +kernel
theorem d5_199 : decode method_2_code 199 = .ok (.getstatic 70, 3) := by decide +kernel
theorem d5_202 : decode method_2_code 202 = .ok (.areturn, 1) := by decide +kernel
theorem d5_203 : decode method_2_code 203 = .ok (.iload_n 0, 1) := by decide +kernel
theorem d5_204 : decode method_2_code 204 = .ok (.bipush 21, 2) := by decide +kernel
theorem d5_206 : decode method_2_code 206 = .ok (.if_icmp .ne 7, 3) := by decide +kernel
theorem d5_209 : decode method_2_code 209 = .ok (.getstatic 73, 3) := by decide +kernel
theorem d5_212 : decode method_2_code 212 = .ok (.areturn, 1) := by decide +kernel
theorem d5_213 : decode method_2_code 213 = .ok (.iload_n 0, 1) := by decide +kernel
theorem d5_214 : decode method_2_code 214 = .ok (.bipush 22, 2) := by decide +kernel
theorem d5_216 : decode method_2_code 216 = .ok (.if_icmp .ne 7, 3) := by decide +kernel
theorem d5_219 : decode method_2_code 219 = .ok (.getstatic 76, 3) := by decide +kernel
theorem d5_222 : decode method_2_code 222 = .ok (.areturn, 1) := by decide +kernel
theorem d5_223 : decode method_2_code 223 = .ok (.aconst_null, 1) := by decide +kernel
theorem d5_224 : decode method_2_code 224 = .ok (.areturn, 1) := by decide +kernel
theorem ef_pick (m : MethodId) (k_ : Int32) : entryFrame m #[(.int k_)] 1 = mkF m 0 #[vi k_] [] := by first | (simp [entryFrame, mkF, argsToLocals, Value.category]; done) | rfl
def Q_pick (Z : State) (k_ : Int32) (sa45_ : Addr) (sa49_ : Addr) (sa53_ : Addr) (sa57_ : Addr) (sa61_ : Addr) (sa65_ : Addr) (sa69_ : Addr) (sa73_ : Addr) (sa77_ : Addr) (sa81_ : Addr) (sa85_ : Addr) (sa89_ : Addr) (sa93_ : Addr) (sa97_ : Addr) (sa101_ : Addr) (sa105_ : Addr) (sa109_ : Addr) (sa113_ : Addr) (sa117_ : Addr) (sa121_ : Addr) (sa125_ : Addr) (sa129_ : Addr) (sa133_ : Addr) (h0 : Heap) (n0 : Nat) (v : Option Value) (h : Heap) (L : List Loc) : Prop := (v = some .null ∧ Fr n0 L ∧ h = h0) ∨ (∃ (x_ : Addr), v = some (rr x_) ∧ Fr n0 L ∧ h = h0 ∧ Exa Z h x_ nm0)
set_option maxRecDepth 65536 in
set_option maxHeartbeats 40000000 in
theorem rm_pick (l : Launch) (Z : State) (a0 : Array Value) (hw : HW Z a0) (ws : List Jvm.Cond) (k_ : Int32) (sa45_ : Addr) (sa49_ : Addr) (sa53_ : Addr) (sa57_ : Addr) (sa61_ : Addr) (sa65_ : Addr) (sa69_ : Addr) (sa73_ : Addr) (sa77_ : Addr) (sa81_ : Addr) (sa85_ : Addr) (sa89_ : Addr) (sa93_ : Addr) (sa97_ : Addr) (sa101_ : Addr) (sa105_ : Addr) (sa109_ : Addr) (sa113_ : Addr) (sa117_ : Addr) (sa121_ : Addr) (sa125_ : Addr) (sa129_ : Addr) (sa133_ : Addr) (h0 : Heap) (n0 : Nat) (O0 : Old Z n0 h0) (ZS0_ : Sta Z Z.heap nm0 "INVALID_ARGUMENT" nm1 (rr sa45_)) (ZE1_ : Exa Z Z.heap sa45_ nm0) (ZS2_ : Sta Z Z.heap nm0 "NOT_FOUND" nm1 (rr sa49_)) (ZE3_ : Exa Z Z.heap sa49_ nm0) (ZS4_ : Sta Z Z.heap nm0 "ALREADY_IN_ORGANIZATION" nm1 (rr sa53_)) (ZE5_ : Exa Z Z.heap sa53_ nm0) (ZS6_ : Sta Z Z.heap nm0 "NOT_MEMBER" nm1 (rr sa57_)) (ZE7_ : Exa Z Z.heap sa57_ nm0) (ZS8_ : Sta Z Z.heap nm0 "NOT_BOUND" nm1 (rr sa61_)) (ZE9_ : Exa Z Z.heap sa61_ nm0) (ZS10_ : Sta Z Z.heap nm0 "LOGIN_ID_TAKEN" nm1 (rr sa65_)) (ZE11_ : Exa Z Z.heap sa65_ nm0) (ZS12_ : Sta Z Z.heap nm0 "DEPTH_LIMIT_EXCEEDED" nm1 (rr sa69_)) (ZE13_ : Exa Z Z.heap sa69_ nm0) (ZS14_ : Sta Z Z.heap nm0 "INVALID_POLICY_DOCUMENT" nm1 (rr sa73_)) (ZE15_ : Exa Z Z.heap sa73_ nm0) (ZS16_ : Sta Z Z.heap nm0 "SYSTEM_POLICY_NOT_MODIFIABLE" nm1 (rr sa77_)) (ZE17_ : Exa Z Z.heap sa77_ nm0) (ZS18_ : Sta Z Z.heap nm0 "NOT_IN_ORGANIZATION" nm1 (rr sa81_)) (ZE19_ : Exa Z Z.heap sa81_ nm0) (ZS20_ : Sta Z Z.heap nm0 "DENIED_BY_GUARDRAIL" nm1 (rr sa85_)) (ZE21_ : Exa Z Z.heap sa85_ nm0) (ZS22_ : Sta Z Z.heap nm0 "FORBIDDEN" nm1 (rr sa89_)) (ZE23_ : Exa Z Z.heap sa89_ nm0) (ZS24_ : Sta Z Z.heap nm0 "POLICY_TOO_LARGE" nm1 (rr sa93_)) (ZE25_ : Exa Z Z.heap sa93_ nm0) (ZS26_ : Sta Z Z.heap nm0 "POLICY_IN_USE" nm1 (rr sa97_)) (ZE27_ : Exa Z Z.heap sa97_ nm0) (ZS28_ : Sta Z Z.heap nm0 "NAME_TAKEN" nm1 (rr sa101_)) (ZE29_ : Exa Z Z.heap sa101_ nm0) (ZS30_ : Sta Z Z.heap nm0 "MALFORMED_POLICY_DOCUMENT" nm1 (rr sa105_)) (ZE31_ : Exa Z Z.heap sa105_ nm0) (ZS32_ : Sta Z Z.heap nm0 "UNIT_NOT_EMPTY" nm1 (rr sa109_)) (ZE33_ : Exa Z Z.heap sa109_ nm0) (ZS34_ : Sta Z Z.heap nm0 "ROOT_NOT_MODIFIABLE" nm1 (rr sa113_)) (ZE35_ : Exa Z Z.heap sa113_ nm0) (ZS36_ : Sta Z Z.heap nm0 "ORGANIZATION_NOT_EMPTY" nm1 (rr sa117_)) (ZE37_ : Exa Z Z.heap sa117_ nm0) (ZS38_ : Sta Z Z.heap nm0 "ACCOUNT_NOT_REMOVABLE" nm1 (rr sa121_)) (ZE39_ : Exa Z Z.heap sa121_ nm0) (ZS40_ : Sta Z Z.heap nm0 "INVITATION_NOT_PENDING" nm1 (rr sa125_)) (ZE41_ : Exa Z Z.heap sa125_ nm0) (ZS42_ : Sta Z Z.heap nm0 "INVITATION_ALREADY_SENT" nm1 (rr sa129_)) (ZE43_ : Exa Z Z.heap sa129_ nm0) (ZS44_ : Sta Z Z.heap nm0 "DELEGATION_POLICY_EXISTS" nm1 (rr sa133_)) (ZE45_ : Exa Z Z.heap sa133_ nm0) :
  MFP l Z (⟨nm4, "pick", "(I)Lcom/example/rosterd/rosterd/core/Refusal;"⟩ : MethodName) method_2_code 1 (some (.object nm0)) ({ frames := 0, cells := 0, slots := 0, locals := 0 } : Room) ws #[(.int k_)] h0 (Q_pick Z k_ sa45_ sa49_ sa53_ sa57_ sa61_ sa65_ sa69_ sa73_ sa77_ sa81_ sa85_ sa89_ sa93_ sa97_ sa101_ sa105_ sa109_ sa113_ sa117_ sa121_ sa125_ sa129_ sa133_ h0 n0) := by
 refine MetFree.of_bodySF (plainFor_of_name pn_com_example_rosterd_rosterd_core_OutcomeSucceededPinLaw) hisR ?_
 intro p e s m args below meth c s₁ Bd hml0 hP hK
 obtain ⟨rfl, hZ, hh⟩ := hP
 have hx := Bd.exec
 have hby := Bd.bytes
 have hml : c.maxLocals = 1 := hml0
 have hown : s.vm.findClass nm4 = some m.cls := findClass_of_methodNamed Bd.named
 have hnm := (name_of_methodNamed Bd.named Bd.method).1
 have X0 : Stand p l e ({ frames := 0, cells := 0, slots := 0, locals := 0 } : Room) s m #[(.int k_)] below meth c s₁ [] 0 0 := Stand.of_body Bd
 have e0 : s₁.heap = h0 := by rw [← hh, Bd.state]; rfl
 have N0 := Fr.nil n0
 have kp0 : Keep h0 h0 [] := Keep.refl _ _
 have c0 : ∀ t, S_ p e below s₁ m 0 #[vi k_] [] t → Steps p.tables e below (s₁.setTop (entryFrame m #[(.int k_)] 1)) t := fun t k => castTop (ef_pick m k_) k
 generalize s₁.setTop (entryFrame m #[(.int k_)] 1) = st0 at c0 ⊢
 replace c0 : Kt p e below s₁ st0 (mkF m 0 #[vi k_] []) := c0
 have c1 : Kt p e below s₁ st0 (mkF m 1 #[vi k_] [(.int k_)]) := fun t k => by
  refine c0 t ?_
  show S_ p e below s₁ m 0 #[vi k_] [] t
  refine XS.iloadN X0.here hx rfl (hb hby d5_0) rfl ?_
  exact k
 by_cases hc2 : k_ = (0 : Int32)
 ·have c3 : Kt p e below s₁ st0 (mkF m 4 #[vi k_] []) := fun t k => by
   refine c1 t ?_
   show S_ p e below s₁ m 1 #[vi k_] [(.int k_)] t
   refine XS.ifNo X0.here hx rfl (hb hby d5_1) rfl ((if0 _ _).trans (teq hc2).2) ?_
   exact k
  obtain ⟨T4, X4, e4, c4⟩ := kgetS X0 hx hZ hown (host := "") (Or.inl (w5 hw)) Via.refl e0 (ZS0_.ext O0.2) c3 rfl (hb hby d5_4)
  obtain ⟨fs, hr, hrun, hended, hW, hsame⟩ := X4.leave (v := some (rr sa45_)) (fun h => by rw [Bd.returns] at h; cases h)
  refine ⟨_, _, c4 _ ?_, hrun, hended, _, _, rfl, ?_, ⟨_, rfl⟩, hW, hsame.mono (by decide) (by decide)⟩
  ·show S_ p e below T4 m 7 #[vi k_] [(rr sa45_)] _
   exact retOut X4 hx Bd.returns rfl (Or.inr (Or.inr (Or.inr (Or.inr ⟨rfl, rfl, rfl⟩)))) (hb hby d5_7) hr
  ·show Q_pick Z k_ sa45_ sa49_ sa53_ sa57_ sa61_ sa65_ sa69_ sa73_ sa77_ sa81_ sa85_ sa89_ sa93_ sa97_ sa101_ sa105_ sa109_ sa113_ sa117_ sa121_ sa125_ sa129_ sa133_ h0 n0 _ T4.heap _
   rw [e4]
   exact (Or.inr (⟨sa45_, rfl, N0, rfl, (ZE1_.ext O0.2)⟩))
 ·have c5 : Kt p e below s₁ st0 (mkF m 10 #[vi k_] [(ii 1), (.int k_)]) := fun t k => by
   refine c1 t ?_
   show S_ p e below s₁ m 1 #[vi k_] [(.int k_)] t
   refine yI X0.here hx rfl 1 8 rfl (hb hby d5_1) rfl ((if0 _ _).trans (feq hc2).2) ?_
   show S_ p e below s₁ m 8 #[vi k_] [] t
   refine XS.iloadN X0.here hx rfl (hb hby d5_8) rfl ?_
   show S_ p e below s₁ m 9 #[vi k_] [(.int k_)] t
   refine XS.iconst X0.here hx rfl (hb hby d5_9) ?_
   exact k
  by_cases hc6 : k_ = (1 : Int32)
  ·have c7 : Kt p e below s₁ st0 (mkF m 13 #[vi k_] []) := fun t k => by
    refine c5 t ?_
    show S_ p e below s₁ m 10 #[vi k_] [(ii 1), (.int k_)] t
    refine XS.icmpNo X0.here hx rfl (hb hby d5_10) rfl (teq hc6).2 ?_
    exact k
   obtain ⟨T8, X8, e8, c8⟩ := kgetS X0 hx hZ hown (host := "") (Or.inl (w254 hw)) Via.refl e0 (ZS22_.ext O0.2) c7 rfl (hb hby d5_13)
   obtain ⟨fs, hr, hrun, hended, hW, hsame⟩ := X8.leave (v := some (rr sa89_)) (fun h => by rw [Bd.returns] at h; cases h)
   refine ⟨_, _, c8 _ ?_, hrun, hended, _, _, rfl, ?_, ⟨_, rfl⟩, hW, hsame.mono (by decide) (by decide)⟩
   ·show S_ p e below T8 m 16 #[vi k_] [(rr sa89_)] _
    exact retOut X8 hx Bd.returns rfl (Or.inr (Or.inr (Or.inr (Or.inr ⟨rfl, rfl, rfl⟩)))) (hb hby d5_16) hr
   ·show Q_pick Z k_ sa45_ sa49_ sa53_ sa57_ sa61_ sa65_ sa69_ sa73_ sa77_ sa81_ sa85_ sa89_ sa93_ sa97_ sa101_ sa105_ sa109_ sa113_ sa117_ sa121_ sa125_ sa129_ sa133_ h0 n0 _ T8.heap _
    rw [e8]
    exact (Or.inr (⟨sa89_, rfl, N0, rfl, (ZE23_.ext O0.2)⟩))
  ·have c9 : Kt p e below s₁ st0 (mkF m 19 #[vi k_] [(ii 2), (.int k_)]) := fun t k => by
    refine c5 t ?_
    show S_ p e below s₁ m 10 #[vi k_] [(ii 1), (.int k_)] t
    refine yC X0.here hx rfl 10 17 rfl (hb hby d5_10) rfl (feq hc6).2 ?_
    show S_ p e below s₁ m 17 #[vi k_] [] t
    refine XS.iloadN X0.here hx rfl (hb hby d5_17) rfl ?_
    show S_ p e below s₁ m 18 #[vi k_] [(.int k_)] t
    refine XS.iconst X0.here hx rfl (hb hby d5_18) ?_
    exact k
   by_cases hc10 : k_ = (2 : Int32)
   ·have c11 : Kt p e below s₁ st0 (mkF m 22 #[vi k_] []) := fun t k => by
     refine c9 t ?_
     show S_ p e below s₁ m 19 #[vi k_] [(ii 2), (.int k_)] t
     refine XS.icmpNo X0.here hx rfl (hb hby d5_19) rfl (teq hc10).2 ?_
     exact k
    obtain ⟨T12, X12, e12, c12⟩ := kgetS X0 hx hZ hown (host := "") (Or.inl (w252 hw)) Via.refl e0 (ZS20_.ext O0.2) c11 rfl (hb hby d5_22)
    obtain ⟨fs, hr, hrun, hended, hW, hsame⟩ := X12.leave (v := some (rr sa85_)) (fun h => by rw [Bd.returns] at h; cases h)
    refine ⟨_, _, c12 _ ?_, hrun, hended, _, _, rfl, ?_, ⟨_, rfl⟩, hW, hsame.mono (by decide) (by decide)⟩
    ·show S_ p e below T12 m 25 #[vi k_] [(rr sa85_)] _
     exact retOut X12 hx Bd.returns rfl (Or.inr (Or.inr (Or.inr (Or.inr ⟨rfl, rfl, rfl⟩)))) (hb hby d5_25) hr
    ·show Q_pick Z k_ sa45_ sa49_ sa53_ sa57_ sa61_ sa65_ sa69_ sa73_ sa77_ sa81_ sa85_ sa89_ sa93_ sa97_ sa101_ sa105_ sa109_ sa113_ sa117_ sa121_ sa125_ sa129_ sa133_ h0 n0 _ T12.heap _
     rw [e12]
     exact (Or.inr (⟨sa85_, rfl, N0, rfl, (ZE21_.ext O0.2)⟩))
   ·have c13 : Kt p e below s₁ st0 (mkF m 28 #[vi k_] [(ii 3), (.int k_)]) := fun t k => by
     refine c9 t ?_
     show S_ p e below s₁ m 19 #[vi k_] [(ii 2), (.int k_)] t
     refine yC X0.here hx rfl 19 26 rfl (hb hby d5_19) rfl (feq hc10).2 ?_
     show S_ p e below s₁ m 26 #[vi k_] [] t
     refine XS.iloadN X0.here hx rfl (hb hby d5_26) rfl ?_
     show S_ p e below s₁ m 27 #[vi k_] [(.int k_)] t
     refine XS.iconst X0.here hx rfl (hb hby d5_27) ?_
     exact k
    by_cases hc14 : k_ = (3 : Int32)
    ·have c15 : Kt p e below s₁ st0 (mkF m 31 #[vi k_] []) := fun t k => by
      refine c13 t ?_
      show S_ p e below s₁ m 28 #[vi k_] [(ii 3), (.int k_)] t
      refine XS.icmpNo X0.here hx rfl (hb hby d5_28) rfl (teq hc14).2 ?_
      exact k
     obtain ⟨T16, X16, e16, c16⟩ := kgetS X0 hx hZ hown (host := "") (Or.inl (w219 hw)) Via.refl e0 (ZS2_.ext O0.2) c15 rfl (hb hby d5_31)
     obtain ⟨fs, hr, hrun, hended, hW, hsame⟩ := X16.leave (v := some (rr sa49_)) (fun h => by rw [Bd.returns] at h; cases h)
     refine ⟨_, _, c16 _ ?_, hrun, hended, _, _, rfl, ?_, ⟨_, rfl⟩, hW, hsame.mono (by decide) (by decide)⟩
     ·show S_ p e below T16 m 34 #[vi k_] [(rr sa49_)] _
      exact retOut X16 hx Bd.returns rfl (Or.inr (Or.inr (Or.inr (Or.inr ⟨rfl, rfl, rfl⟩)))) (hb hby d5_34) hr
     ·show Q_pick Z k_ sa45_ sa49_ sa53_ sa57_ sa61_ sa65_ sa69_ sa73_ sa77_ sa81_ sa85_ sa89_ sa93_ sa97_ sa101_ sa105_ sa109_ sa113_ sa117_ sa121_ sa125_ sa129_ sa133_ h0 n0 _ T16.heap _
      rw [e16]
      exact (Or.inr (⟨sa49_, rfl, N0, rfl, (ZE3_.ext O0.2)⟩))
    ·have c17 : Kt p e below s₁ st0 (mkF m 37 #[vi k_] [(ii 4), (.int k_)]) := fun t k => by
      refine c13 t ?_
      show S_ p e below s₁ m 28 #[vi k_] [(ii 3), (.int k_)] t
      refine yC X0.here hx rfl 28 35 rfl (hb hby d5_28) rfl (feq hc14).2 ?_
      show S_ p e below s₁ m 35 #[vi k_] [] t
      refine XS.iloadN X0.here hx rfl (hb hby d5_35) rfl ?_
      show S_ p e below s₁ m 36 #[vi k_] [(.int k_)] t
      refine XS.iconst X0.here hx rfl (hb hby d5_36) ?_
      exact k
     by_cases hc18 : k_ = (4 : Int32)
     ·have c19 : Kt p e below s₁ st0 (mkF m 40 #[vi k_] []) := fun t k => by
       refine c17 t ?_
       show S_ p e below s₁ m 37 #[vi k_] [(ii 4), (.int k_)] t
       refine XS.icmpNo X0.here hx rfl (hb hby d5_37) rfl (teq hc18).2 ?_
       exact k
      obtain ⟨T20, X20, e20, c20⟩ := kgetS X0 hx hZ hown (host := "") (Or.inl (w256 hw)) Via.refl e0 (ZS24_.ext O0.2) c19 rfl (hb hby d5_40)
      obtain ⟨fs, hr, hrun, hended, hW, hsame⟩ := X20.leave (v := some (rr sa93_)) (fun h => by rw [Bd.returns] at h; cases h)
      refine ⟨_, _, c20 _ ?_, hrun, hended, _, _, rfl, ?_, ⟨_, rfl⟩, hW, hsame.mono (by decide) (by decide)⟩
      ·show S_ p e below T20 m 43 #[vi k_] [(rr sa93_)] _
       exact retOut X20 hx Bd.returns rfl (Or.inr (Or.inr (Or.inr (Or.inr ⟨rfl, rfl, rfl⟩)))) (hb hby d5_43) hr
      ·show Q_pick Z k_ sa45_ sa49_ sa53_ sa57_ sa61_ sa65_ sa69_ sa73_ sa77_ sa81_ sa85_ sa89_ sa93_ sa97_ sa101_ sa105_ sa109_ sa113_ sa117_ sa121_ sa125_ sa129_ sa133_ h0 n0 _ T20.heap _
       rw [e20]
       exact (Or.inr (⟨sa93_, rfl, N0, rfl, (ZE25_.ext O0.2)⟩))
     ·have c21 : Kt p e below s₁ st0 (mkF m 46 #[vi k_] [(ii 5), (.int k_)]) := fun t k => by
       refine c17 t ?_
       show S_ p e below s₁ m 37 #[vi k_] [(ii 4), (.int k_)] t
       refine yC X0.here hx rfl 37 44 rfl (hb hby d5_37) rfl (feq hc18).2 ?_
       show S_ p e below s₁ m 44 #[vi k_] [] t
       refine XS.iloadN X0.here hx rfl (hb hby d5_44) rfl ?_
       show S_ p e below s₁ m 45 #[vi k_] [(.int k_)] t
       refine XS.iconst X0.here hx rfl (hb hby d5_45) ?_
       exact k
      by_cases hc22 : k_ = (5 : Int32)
      ·have c23 : Kt p e below s₁ st0 (mkF m 49 #[vi k_] []) := fun t k => by
        refine c21 t ?_
        show S_ p e below s₁ m 46 #[vi k_] [(ii 5), (.int k_)] t
        refine XS.icmpNo X0.here hx rfl (hb hby d5_46) rfl (teq hc22).2 ?_
        exact k
       obtain ⟨T24, X24, e24, c24⟩ := kgetS X0 hx hZ hown (host := "") (Or.inl (w262 hw)) Via.refl e0 (ZS30_.ext O0.2) c23 rfl (hb hby d5_49)
       obtain ⟨fs, hr, hrun, hended, hW, hsame⟩ := X24.leave (v := some (rr sa105_)) (fun h => by rw [Bd.returns] at h; cases h)
       refine ⟨_, _, c24 _ ?_, hrun, hended, _, _, rfl, ?_, ⟨_, rfl⟩, hW, hsame.mono (by decide) (by decide)⟩
       ·show S_ p e below T24 m 52 #[vi k_] [(rr sa105_)] _
        exact retOut X24 hx Bd.returns rfl (Or.inr (Or.inr (Or.inr (Or.inr ⟨rfl, rfl, rfl⟩)))) (hb hby d5_52) hr
       ·show Q_pick Z k_ sa45_ sa49_ sa53_ sa57_ sa61_ sa65_ sa69_ sa73_ sa77_ sa81_ sa85_ sa89_ sa93_ sa97_ sa101_ sa105_ sa109_ sa113_ sa117_ sa121_ sa125_ sa129_ sa133_ h0 n0 _ T24.heap _
        rw [e24]
        exact (Or.inr (⟨sa105_, rfl, N0, rfl, (ZE31_.ext O0.2)⟩))
      ·have c25 : Kt p e below s₁ st0 (mkF m 56 #[vi k_] [(ii 6), (.int k_)]) := fun t k => by
        refine c21 t ?_
        show S_ p e below s₁ m 46 #[vi k_] [(ii 5), (.int k_)] t
        refine yC X0.here hx rfl 46 53 rfl (hb hby d5_46) rfl (feq hc22).2 ?_
        show S_ p e below s₁ m 53 #[vi k_] [] t
        refine XS.iloadN X0.here hx rfl (hb hby d5_53) rfl ?_
        show S_ p e below s₁ m 54 #[vi k_] [(.int k_)] t
        refine XS.bipush X0.here hx rfl (hb hby d5_54) ?_
        exact k
       by_cases hc26 : k_ = (6 : Int32)
       ·have c27 : Kt p e below s₁ st0 (mkF m 59 #[vi k_] []) := fun t k => by
         refine c25 t ?_
         show S_ p e below s₁ m 56 #[vi k_] [(ii 6), (.int k_)] t
         refine XS.icmpNo X0.here hx rfl (hb hby d5_56) rfl (teq hc26).2 ?_
         exact k
        obtain ⟨T28, X28, e28, c28⟩ := kgetS X0 hx hZ hown (host := "") (Or.inl (w246 hw)) Via.refl e0 (ZS14_.ext O0.2) c27 rfl (hb hby d5_59)
        obtain ⟨fs, hr, hrun, hended, hW, hsame⟩ := X28.leave (v := some (rr sa73_)) (fun h => by rw [Bd.returns] at h; cases h)
        refine ⟨_, _, c28 _ ?_, hrun, hended, _, _, rfl, ?_, ⟨_, rfl⟩, hW, hsame.mono (by decide) (by decide)⟩
        ·show S_ p e below T28 m 62 #[vi k_] [(rr sa73_)] _
         exact retOut X28 hx Bd.returns rfl (Or.inr (Or.inr (Or.inr (Or.inr ⟨rfl, rfl, rfl⟩)))) (hb hby d5_62) hr
        ·show Q_pick Z k_ sa45_ sa49_ sa53_ sa57_ sa61_ sa65_ sa69_ sa73_ sa77_ sa81_ sa85_ sa89_ sa93_ sa97_ sa101_ sa105_ sa109_ sa113_ sa117_ sa121_ sa125_ sa129_ sa133_ h0 n0 _ T28.heap _
         rw [e28]
         exact (Or.inr (⟨sa73_, rfl, N0, rfl, (ZE15_.ext O0.2)⟩))
       ·have c29 : Kt p e below s₁ st0 (mkF m 66 #[vi k_] [(ii 7), (.int k_)]) := fun t k => by
         refine c25 t ?_
         show S_ p e below s₁ m 56 #[vi k_] [(ii 6), (.int k_)] t
         refine yC X0.here hx rfl 56 63 rfl (hb hby d5_56) rfl (feq hc26).2 ?_
         show S_ p e below s₁ m 63 #[vi k_] [] t
         refine XS.iloadN X0.here hx rfl (hb hby d5_63) rfl ?_
         show S_ p e below s₁ m 64 #[vi k_] [(.int k_)] t
         refine XS.bipush X0.here hx rfl (hb hby d5_64) ?_
         exact k
        by_cases hc30 : k_ = (7 : Int32)
        ·have c31 : Kt p e below s₁ st0 (mkF m 69 #[vi k_] []) := fun t k => by
          refine c29 t ?_
          show S_ p e below s₁ m 66 #[vi k_] [(ii 7), (.int k_)] t
          refine XS.icmpNo X0.here hx rfl (hb hby d5_66) rfl (teq hc30).2 ?_
          exact k
         obtain ⟨T32, X32, e32, c32⟩ := kgetS X0 hx hZ hown (host := "") (Or.inl (w227 hw)) Via.refl e0 (ZS10_.ext O0.2) c31 rfl (hb hby d5_69)
         obtain ⟨fs, hr, hrun, hended, hW, hsame⟩ := X32.leave (v := some (rr sa65_)) (fun h => by rw [Bd.returns] at h; cases h)
         refine ⟨_, _, c32 _ ?_, hrun, hended, _, _, rfl, ?_, ⟨_, rfl⟩, hW, hsame.mono (by decide) (by decide)⟩
         ·show S_ p e below T32 m 72 #[vi k_] [(rr sa65_)] _
          exact retOut X32 hx Bd.returns rfl (Or.inr (Or.inr (Or.inr (Or.inr ⟨rfl, rfl, rfl⟩)))) (hb hby d5_72) hr
         ·show Q_pick Z k_ sa45_ sa49_ sa53_ sa57_ sa61_ sa65_ sa69_ sa73_ sa77_ sa81_ sa85_ sa89_ sa93_ sa97_ sa101_ sa105_ sa109_ sa113_ sa117_ sa121_ sa125_ sa129_ sa133_ h0 n0 _ T32.heap _
          rw [e32]
          exact (Or.inr (⟨sa65_, rfl, N0, rfl, (ZE11_.ext O0.2)⟩))
        ·have c33 : Kt p e below s₁ st0 (mkF m 76 #[vi k_] [(ii 8), (.int k_)]) := fun t k => by
          refine c29 t ?_
          show S_ p e below s₁ m 66 #[vi k_] [(ii 7), (.int k_)] t
          refine yC X0.here hx rfl 66 73 rfl (hb hby d5_66) rfl (feq hc30).2 ?_
          show S_ p e below s₁ m 73 #[vi k_] [] t
          refine XS.iloadN X0.here hx rfl (hb hby d5_73) rfl ?_
          show S_ p e below s₁ m 74 #[vi k_] [(.int k_)] t
          refine XS.bipush X0.here hx rfl (hb hby d5_74) ?_
          exact k
         by_cases hc34 : k_ = (8 : Int32)
         ·have c35 : Kt p e below s₁ st0 (mkF m 79 #[vi k_] []) := fun t k => by
           refine c33 t ?_
           show S_ p e below s₁ m 76 #[vi k_] [(ii 8), (.int k_)] t
           refine XS.icmpNo X0.here hx rfl (hb hby d5_76) rfl (teq hc34).2 ?_
           exact k
          obtain ⟨T36, X36, e36, c36⟩ := kgetS X0 hx hZ hown (host := "") (Or.inl (w221 hw)) Via.refl e0 (ZS4_.ext O0.2) c35 rfl (hb hby d5_79)
          obtain ⟨fs, hr, hrun, hended, hW, hsame⟩ := X36.leave (v := some (rr sa53_)) (fun h => by rw [Bd.returns] at h; cases h)
          refine ⟨_, _, c36 _ ?_, hrun, hended, _, _, rfl, ?_, ⟨_, rfl⟩, hW, hsame.mono (by decide) (by decide)⟩
          ·show S_ p e below T36 m 82 #[vi k_] [(rr sa53_)] _
           exact retOut X36 hx Bd.returns rfl (Or.inr (Or.inr (Or.inr (Or.inr ⟨rfl, rfl, rfl⟩)))) (hb hby d5_82) hr
          ·show Q_pick Z k_ sa45_ sa49_ sa53_ sa57_ sa61_ sa65_ sa69_ sa73_ sa77_ sa81_ sa85_ sa89_ sa93_ sa97_ sa101_ sa105_ sa109_ sa113_ sa117_ sa121_ sa125_ sa129_ sa133_ h0 n0 _ T36.heap _
           rw [e36]
           exact (Or.inr (⟨sa53_, rfl, N0, rfl, (ZE5_.ext O0.2)⟩))
         ·have c37 : Kt p e below s₁ st0 (mkF m 86 #[vi k_] [(ii 9), (.int k_)]) := fun t k => by
           refine c33 t ?_
           show S_ p e below s₁ m 76 #[vi k_] [(ii 8), (.int k_)] t
           refine yC X0.here hx rfl 76 83 rfl (hb hby d5_76) rfl (feq hc34).2 ?_
           show S_ p e below s₁ m 83 #[vi k_] [] t
           refine XS.iloadN X0.here hx rfl (hb hby d5_83) rfl ?_
           show S_ p e below s₁ m 84 #[vi k_] [(.int k_)] t
           refine XS.bipush X0.here hx rfl (hb hby d5_84) ?_
           exact k
          by_cases hc38 : k_ = (9 : Int32)
          ·have c39 : Kt p e below s₁ st0 (mkF m 89 #[vi k_] []) := fun t k => by
            refine c37 t ?_
            show S_ p e below s₁ m 86 #[vi k_] [(ii 9), (.int k_)] t
            refine XS.icmpNo X0.here hx rfl (hb hby d5_86) rfl (teq hc38).2 ?_
            exact k
           obtain ⟨T40, X40, e40, c40⟩ := kgetS X0 hx hZ hown (host := "") (Or.inl (w260 hw)) Via.refl e0 (ZS28_.ext O0.2) c39 rfl (hb hby d5_89)
           obtain ⟨fs, hr, hrun, hended, hW, hsame⟩ := X40.leave (v := some (rr sa101_)) (fun h => by rw [Bd.returns] at h; cases h)
           refine ⟨_, _, c40 _ ?_, hrun, hended, _, _, rfl, ?_, ⟨_, rfl⟩, hW, hsame.mono (by decide) (by decide)⟩
           ·show S_ p e below T40 m 92 #[vi k_] [(rr sa101_)] _
            exact retOut X40 hx Bd.returns rfl (Or.inr (Or.inr (Or.inr (Or.inr ⟨rfl, rfl, rfl⟩)))) (hb hby d5_92) hr
           ·show Q_pick Z k_ sa45_ sa49_ sa53_ sa57_ sa61_ sa65_ sa69_ sa73_ sa77_ sa81_ sa85_ sa89_ sa93_ sa97_ sa101_ sa105_ sa109_ sa113_ sa117_ sa121_ sa125_ sa129_ sa133_ h0 n0 _ T40.heap _
            rw [e40]
            exact (Or.inr (⟨sa101_, rfl, N0, rfl, (ZE29_.ext O0.2)⟩))
          ·have c41 : Kt p e below s₁ st0 (mkF m 96 #[vi k_] [(ii 10), (.int k_)]) := fun t k => by
            refine c37 t ?_
            show S_ p e below s₁ m 86 #[vi k_] [(ii 9), (.int k_)] t
            refine yC X0.here hx rfl 86 93 rfl (hb hby d5_86) rfl (feq hc38).2 ?_
            show S_ p e below s₁ m 93 #[vi k_] [] t
            refine XS.iloadN X0.here hx rfl (hb hby d5_93) rfl ?_
            show S_ p e below s₁ m 94 #[vi k_] [(.int k_)] t
            refine XS.bipush X0.here hx rfl (hb hby d5_94) ?_
            exact k
           by_cases hc42 : k_ = (10 : Int32)
           ·have c43 : Kt p e below s₁ st0 (mkF m 99 #[vi k_] []) := fun t k => by
             refine c41 t ?_
             show S_ p e below s₁ m 96 #[vi k_] [(ii 10), (.int k_)] t
             refine XS.icmpNo X0.here hx rfl (hb hby d5_96) rfl (teq hc42).2 ?_
             exact k
            obtain ⟨T44, X44, e44, c44⟩ := kgetS X0 hx hZ hown (host := "") (Or.inl (w229 hw)) Via.refl e0 (ZS12_.ext O0.2) c43 rfl (hb hby d5_99)
            obtain ⟨fs, hr, hrun, hended, hW, hsame⟩ := X44.leave (v := some (rr sa69_)) (fun h => by rw [Bd.returns] at h; cases h)
            refine ⟨_, _, c44 _ ?_, hrun, hended, _, _, rfl, ?_, ⟨_, rfl⟩, hW, hsame.mono (by decide) (by decide)⟩
            ·show S_ p e below T44 m 102 #[vi k_] [(rr sa69_)] _
             exact retOut X44 hx Bd.returns rfl (Or.inr (Or.inr (Or.inr (Or.inr ⟨rfl, rfl, rfl⟩)))) (hb hby d5_102) hr
            ·show Q_pick Z k_ sa45_ sa49_ sa53_ sa57_ sa61_ sa65_ sa69_ sa73_ sa77_ sa81_ sa85_ sa89_ sa93_ sa97_ sa101_ sa105_ sa109_ sa113_ sa117_ sa121_ sa125_ sa129_ sa133_ h0 n0 _ T44.heap _
             rw [e44]
             exact (Or.inr (⟨sa69_, rfl, N0, rfl, (ZE13_.ext O0.2)⟩))
           ·have c45 : Kt p e below s₁ st0 (mkF m 106 #[vi k_] [(ii 11), (.int k_)]) := fun t k => by
             refine c41 t ?_
             show S_ p e below s₁ m 96 #[vi k_] [(ii 10), (.int k_)] t
             refine yC X0.here hx rfl 96 103 rfl (hb hby d5_96) rfl (feq hc42).2 ?_
             show S_ p e below s₁ m 103 #[vi k_] [] t
             refine XS.iloadN X0.here hx rfl (hb hby d5_103) rfl ?_
             show S_ p e below s₁ m 104 #[vi k_] [(.int k_)] t
             refine XS.bipush X0.here hx rfl (hb hby d5_104) ?_
             exact k
            by_cases hc46 : k_ = (11 : Int32)
            ·have c47 : Kt p e below s₁ st0 (mkF m 109 #[vi k_] []) := fun t k => by
              refine c45 t ?_
              show S_ p e below s₁ m 106 #[vi k_] [(ii 11), (.int k_)] t
              refine XS.icmpNo X0.here hx rfl (hb hby d5_106) rfl (teq hc46).2 ?_
              exact k
             obtain ⟨T48, X48, e48, c48⟩ := kgetS X0 hx hZ hown (host := "") (Or.inl (w266 hw)) Via.refl e0 (ZS34_.ext O0.2) c47 rfl (hb hby d5_109)
             obtain ⟨fs, hr, hrun, hended, hW, hsame⟩ := X48.leave (v := some (rr sa113_)) (fun h => by rw [Bd.returns] at h; cases h)
             refine ⟨_, _, c48 _ ?_, hrun, hended, _, _, rfl, ?_, ⟨_, rfl⟩, hW, hsame.mono (by decide) (by decide)⟩
             ·show S_ p e below T48 m 112 #[vi k_] [(rr sa113_)] _
              exact retOut X48 hx Bd.returns rfl (Or.inr (Or.inr (Or.inr (Or.inr ⟨rfl, rfl, rfl⟩)))) (hb hby d5_112) hr
             ·show Q_pick Z k_ sa45_ sa49_ sa53_ sa57_ sa61_ sa65_ sa69_ sa73_ sa77_ sa81_ sa85_ sa89_ sa93_ sa97_ sa101_ sa105_ sa109_ sa113_ sa117_ sa121_ sa125_ sa129_ sa133_ h0 n0 _ T48.heap _
              rw [e48]
              exact (Or.inr (⟨sa113_, rfl, N0, rfl, (ZE35_.ext O0.2)⟩))
            ·have c49 : Kt p e below s₁ st0 (mkF m 116 #[vi k_] [(ii 12), (.int k_)]) := fun t k => by
              refine c45 t ?_
              show S_ p e below s₁ m 106 #[vi k_] [(ii 11), (.int k_)] t
              refine yC X0.here hx rfl 106 113 rfl (hb hby d5_106) rfl (feq hc46).2 ?_
              show S_ p e below s₁ m 113 #[vi k_] [] t
              refine XS.iloadN X0.here hx rfl (hb hby d5_113) rfl ?_
              show S_ p e below s₁ m 114 #[vi k_] [(.int k_)] t
              refine XS.bipush X0.here hx rfl (hb hby d5_114) ?_
              exact k
             by_cases hc50 : k_ = (12 : Int32)
             ·have c51 : Kt p e below s₁ st0 (mkF m 119 #[vi k_] []) := fun t k => by
               refine c49 t ?_
               show S_ p e below s₁ m 116 #[vi k_] [(ii 12), (.int k_)] t
               refine XS.icmpNo X0.here hx rfl (hb hby d5_116) rfl (teq hc50).2 ?_
               exact k
              obtain ⟨T52, X52, e52, c52⟩ := kgetS X0 hx hZ hown (host := "") (Or.inl (w264 hw)) Via.refl e0 (ZS32_.ext O0.2) c51 rfl (hb hby d5_119)
              obtain ⟨fs, hr, hrun, hended, hW, hsame⟩ := X52.leave (v := some (rr sa109_)) (fun h => by rw [Bd.returns] at h; cases h)
              refine ⟨_, _, c52 _ ?_, hrun, hended, _, _, rfl, ?_, ⟨_, rfl⟩, hW, hsame.mono (by decide) (by decide)⟩
              ·show S_ p e below T52 m 122 #[vi k_] [(rr sa109_)] _
               exact retOut X52 hx Bd.returns rfl (Or.inr (Or.inr (Or.inr (Or.inr ⟨rfl, rfl, rfl⟩)))) (hb hby d5_122) hr
              ·show Q_pick Z k_ sa45_ sa49_ sa53_ sa57_ sa61_ sa65_ sa69_ sa73_ sa77_ sa81_ sa85_ sa89_ sa93_ sa97_ sa101_ sa105_ sa109_ sa113_ sa117_ sa121_ sa125_ sa129_ sa133_ h0 n0 _ T52.heap _
               rw [e52]
               exact (Or.inr (⟨sa109_, rfl, N0, rfl, (ZE33_.ext O0.2)⟩))
             ·have c53 : Kt p e below s₁ st0 (mkF m 126 #[vi k_] [(ii 13), (.int k_)]) := fun t k => by
               refine c49 t ?_
               show S_ p e below s₁ m 116 #[vi k_] [(ii 12), (.int k_)] t
               refine yC X0.here hx rfl 116 123 rfl (hb hby d5_116) rfl (feq hc50).2 ?_
               show S_ p e below s₁ m 123 #[vi k_] [] t
               refine XS.iloadN X0.here hx rfl (hb hby d5_123) rfl ?_
               show S_ p e below s₁ m 124 #[vi k_] [(.int k_)] t
               refine XS.bipush X0.here hx rfl (hb hby d5_124) ?_
               exact k
              by_cases hc54 : k_ = (13 : Int32)
              ·have c55 : Kt p e below s₁ st0 (mkF m 129 #[vi k_] []) := fun t k => by
                refine c53 t ?_
                show S_ p e below s₁ m 126 #[vi k_] [(ii 13), (.int k_)] t
                refine XS.icmpNo X0.here hx rfl (hb hby d5_126) rfl (teq hc54).2 ?_
                exact k
               obtain ⟨T56, X56, e56, c56⟩ := kgetS X0 hx hZ hown (host := "") (Or.inl (w248 hw)) Via.refl e0 (ZS16_.ext O0.2) c55 rfl (hb hby d5_129)
               obtain ⟨fs, hr, hrun, hended, hW, hsame⟩ := X56.leave (v := some (rr sa77_)) (fun h => by rw [Bd.returns] at h; cases h)
               refine ⟨_, _, c56 _ ?_, hrun, hended, _, _, rfl, ?_, ⟨_, rfl⟩, hW, hsame.mono (by decide) (by decide)⟩
               ·show S_ p e below T56 m 132 #[vi k_] [(rr sa77_)] _
                exact retOut X56 hx Bd.returns rfl (Or.inr (Or.inr (Or.inr (Or.inr ⟨rfl, rfl, rfl⟩)))) (hb hby d5_132) hr
               ·show Q_pick Z k_ sa45_ sa49_ sa53_ sa57_ sa61_ sa65_ sa69_ sa73_ sa77_ sa81_ sa85_ sa89_ sa93_ sa97_ sa101_ sa105_ sa109_ sa113_ sa117_ sa121_ sa125_ sa129_ sa133_ h0 n0 _ T56.heap _
                rw [e56]
                exact (Or.inr (⟨sa77_, rfl, N0, rfl, (ZE17_.ext O0.2)⟩))
              ·have c57 : Kt p e below s₁ st0 (mkF m 136 #[vi k_] [(ii 14), (.int k_)]) := fun t k => by
                refine c53 t ?_
                show S_ p e below s₁ m 126 #[vi k_] [(ii 13), (.int k_)] t
                refine yC X0.here hx rfl 126 133 rfl (hb hby d5_126) rfl (feq hc54).2 ?_
                show S_ p e below s₁ m 133 #[vi k_] [] t
                refine XS.iloadN X0.here hx rfl (hb hby d5_133) rfl ?_
                show S_ p e below s₁ m 134 #[vi k_] [(.int k_)] t
                refine XS.bipush X0.here hx rfl (hb hby d5_134) ?_
                exact k
               by_cases hc58 : k_ = (14 : Int32)
               ·have c59 : Kt p e below s₁ st0 (mkF m 139 #[vi k_] []) := fun t k => by
                 refine c57 t ?_
                 show S_ p e below s₁ m 136 #[vi k_] [(ii 14), (.int k_)] t
                 refine XS.icmpNo X0.here hx rfl (hb hby d5_136) rfl (teq hc58).2 ?_
                 exact k
                obtain ⟨T60, X60, e60, c60⟩ := kgetS X0 hx hZ hown (host := "") (Or.inl (w258 hw)) Via.refl e0 (ZS26_.ext O0.2) c59 rfl (hb hby d5_139)
                obtain ⟨fs, hr, hrun, hended, hW, hsame⟩ := X60.leave (v := some (rr sa97_)) (fun h => by rw [Bd.returns] at h; cases h)
                refine ⟨_, _, c60 _ ?_, hrun, hended, _, _, rfl, ?_, ⟨_, rfl⟩, hW, hsame.mono (by decide) (by decide)⟩
                ·show S_ p e below T60 m 142 #[vi k_] [(rr sa97_)] _
                 exact retOut X60 hx Bd.returns rfl (Or.inr (Or.inr (Or.inr (Or.inr ⟨rfl, rfl, rfl⟩)))) (hb hby d5_142) hr
                ·show Q_pick Z k_ sa45_ sa49_ sa53_ sa57_ sa61_ sa65_ sa69_ sa73_ sa77_ sa81_ sa85_ sa89_ sa93_ sa97_ sa101_ sa105_ sa109_ sa113_ sa117_ sa121_ sa125_ sa129_ sa133_ h0 n0 _ T60.heap _
                 rw [e60]
                 exact (Or.inr (⟨sa97_, rfl, N0, rfl, (ZE27_.ext O0.2)⟩))
               ·have c61 : Kt p e below s₁ st0 (mkF m 146 #[vi k_] [(ii 15), (.int k_)]) := fun t k => by
                 refine c57 t ?_
                 show S_ p e below s₁ m 136 #[vi k_] [(ii 14), (.int k_)] t
                 refine yC X0.here hx rfl 136 143 rfl (hb hby d5_136) rfl (feq hc58).2 ?_
                 show S_ p e below s₁ m 143 #[vi k_] [] t
                 refine XS.iloadN X0.here hx rfl (hb hby d5_143) rfl ?_
                 show S_ p e below s₁ m 144 #[vi k_] [(.int k_)] t
                 refine XS.bipush X0.here hx rfl (hb hby d5_144) ?_
                 exact k
                by_cases hc62 : k_ = (15 : Int32)
                ·have c63 : Kt p e below s₁ st0 (mkF m 149 #[vi k_] []) := fun t k => by
                  refine c61 t ?_
                  show S_ p e below s₁ m 146 #[vi k_] [(ii 15), (.int k_)] t
                  refine XS.icmpNo X0.here hx rfl (hb hby d5_146) rfl (teq hc62).2 ?_
                  exact k
                 obtain ⟨T64, X64, e64, c64⟩ := kgetS X0 hx hZ hown (host := "") (Or.inl (w225 hw)) Via.refl e0 (ZS8_.ext O0.2) c63 rfl (hb hby d5_149)
                 obtain ⟨fs, hr, hrun, hended, hW, hsame⟩ := X64.leave (v := some (rr sa61_)) (fun h => by rw [Bd.returns] at h; cases h)
                 refine ⟨_, _, c64 _ ?_, hrun, hended, _, _, rfl, ?_, ⟨_, rfl⟩, hW, hsame.mono (by decide) (by decide)⟩
                 ·show S_ p e below T64 m 152 #[vi k_] [(rr sa61_)] _
                  exact retOut X64 hx Bd.returns rfl (Or.inr (Or.inr (Or.inr (Or.inr ⟨rfl, rfl, rfl⟩)))) (hb hby d5_152) hr
                 ·show Q_pick Z k_ sa45_ sa49_ sa53_ sa57_ sa61_ sa65_ sa69_ sa73_ sa77_ sa81_ sa85_ sa89_ sa93_ sa97_ sa101_ sa105_ sa109_ sa113_ sa117_ sa121_ sa125_ sa129_ sa133_ h0 n0 _ T64.heap _
                  rw [e64]
                  exact (Or.inr (⟨sa61_, rfl, N0, rfl, (ZE9_.ext O0.2)⟩))
                ·have c65 : Kt p e below s₁ st0 (mkF m 156 #[vi k_] [(ii 16), (.int k_)]) := fun t k => by
                  refine c61 t ?_
                  show S_ p e below s₁ m 146 #[vi k_] [(ii 15), (.int k_)] t
                  refine yC X0.here hx rfl 146 153 rfl (hb hby d5_146) rfl (feq hc62).2 ?_
                  show S_ p e below s₁ m 153 #[vi k_] [] t
                  refine XS.iloadN X0.here hx rfl (hb hby d5_153) rfl ?_
                  show S_ p e below s₁ m 154 #[vi k_] [(.int k_)] t
                  refine XS.bipush X0.here hx rfl (hb hby d5_154) ?_
                  exact k
                 by_cases hc66 : k_ = (16 : Int32)
                 ·have c67 : Kt p e below s₁ st0 (mkF m 159 #[vi k_] []) := fun t k => by
                   refine c65 t ?_
                   show S_ p e below s₁ m 156 #[vi k_] [(ii 16), (.int k_)] t
                   refine XS.icmpNo X0.here hx rfl (hb hby d5_156) rfl (teq hc66).2 ?_
                   exact k
                  obtain ⟨T68, X68, e68, c68⟩ := kgetS X0 hx hZ hown (host := "") (Or.inl (w223 hw)) Via.refl e0 (ZS6_.ext O0.2) c67 rfl (hb hby d5_159)
                  obtain ⟨fs, hr, hrun, hended, hW, hsame⟩ := X68.leave (v := some (rr sa57_)) (fun h => by rw [Bd.returns] at h; cases h)
                  refine ⟨_, _, c68 _ ?_, hrun, hended, _, _, rfl, ?_, ⟨_, rfl⟩, hW, hsame.mono (by decide) (by decide)⟩
                  ·show S_ p e below T68 m 162 #[vi k_] [(rr sa57_)] _
                   exact retOut X68 hx Bd.returns rfl (Or.inr (Or.inr (Or.inr (Or.inr ⟨rfl, rfl, rfl⟩)))) (hb hby d5_162) hr
                  ·show Q_pick Z k_ sa45_ sa49_ sa53_ sa57_ sa61_ sa65_ sa69_ sa73_ sa77_ sa81_ sa85_ sa89_ sa93_ sa97_ sa101_ sa105_ sa109_ sa113_ sa117_ sa121_ sa125_ sa129_ sa133_ h0 n0 _ T68.heap _
                   rw [e68]
                   exact (Or.inr (⟨sa57_, rfl, N0, rfl, (ZE7_.ext O0.2)⟩))
                 ·have c69 : Kt p e below s₁ st0 (mkF m 166 #[vi k_] [(ii 17), (.int k_)]) := fun t k => by
                   refine c65 t ?_
                   show S_ p e below s₁ m 156 #[vi k_] [(ii 16), (.int k_)] t
                   refine yC X0.here hx rfl 156 163 rfl (hb hby d5_156) rfl (feq hc66).2 ?_
                   show S_ p e below s₁ m 163 #[vi k_] [] t
                   refine XS.iloadN X0.here hx rfl (hb hby d5_163) rfl ?_
                   show S_ p e below s₁ m 164 #[vi k_] [(.int k_)] t
                   refine XS.bipush X0.here hx rfl (hb hby d5_164) ?_
                   exact k
                  by_cases hc70 : k_ = (17 : Int32)
                  ·have c71 : Kt p e below s₁ st0 (mkF m 169 #[vi k_] []) := fun t k => by
                    refine c69 t ?_
                    show S_ p e below s₁ m 166 #[vi k_] [(ii 17), (.int k_)] t
                    refine XS.icmpNo X0.here hx rfl (hb hby d5_166) rfl (teq hc70).2 ?_
                    exact k
                   obtain ⟨T72, X72, e72, c72⟩ := kgetS X0 hx hZ hown (host := "") (Or.inl (w276 hw)) Via.refl e0 (ZS44_.ext O0.2) c71 rfl (hb hby d5_169)
                   obtain ⟨fs, hr, hrun, hended, hW, hsame⟩ := X72.leave (v := some (rr sa133_)) (fun h => by rw [Bd.returns] at h; cases h)
                   refine ⟨_, _, c72 _ ?_, hrun, hended, _, _, rfl, ?_, ⟨_, rfl⟩, hW, hsame.mono (by decide) (by decide)⟩
                   ·show S_ p e below T72 m 172 #[vi k_] [(rr sa133_)] _
                    exact retOut X72 hx Bd.returns rfl (Or.inr (Or.inr (Or.inr (Or.inr ⟨rfl, rfl, rfl⟩)))) (hb hby d5_172) hr
                   ·show Q_pick Z k_ sa45_ sa49_ sa53_ sa57_ sa61_ sa65_ sa69_ sa73_ sa77_ sa81_ sa85_ sa89_ sa93_ sa97_ sa101_ sa105_ sa109_ sa113_ sa117_ sa121_ sa125_ sa129_ sa133_ h0 n0 _ T72.heap _
                    rw [e72]
                    exact (Or.inr (⟨sa133_, rfl, N0, rfl, (ZE45_.ext O0.2)⟩))
                  ·have c73 : Kt p e below s₁ st0 (mkF m 176 #[vi k_] [(ii 18), (.int k_)]) := fun t k => by
                    refine c69 t ?_
                    show S_ p e below s₁ m 166 #[vi k_] [(ii 17), (.int k_)] t
                    refine yC X0.here hx rfl 166 173 rfl (hb hby d5_166) rfl (feq hc70).2 ?_
                    show S_ p e below s₁ m 173 #[vi k_] [] t
                    refine XS.iloadN X0.here hx rfl (hb hby d5_173) rfl ?_
                    show S_ p e below s₁ m 174 #[vi k_] [(.int k_)] t
                    refine XS.bipush X0.here hx rfl (hb hby d5_174) ?_
                    exact k
                   by_cases hc74 : k_ = (18 : Int32)
                   ·have c75 : Kt p e below s₁ st0 (mkF m 179 #[vi k_] []) := fun t k => by
                     refine c73 t ?_
                     show S_ p e below s₁ m 176 #[vi k_] [(ii 18), (.int k_)] t
                     refine XS.icmpNo X0.here hx rfl (hb hby d5_176) rfl (teq hc74).2 ?_
                     exact k
                    obtain ⟨T76, X76, e76, c76⟩ := kgetS X0 hx hZ hown (host := "") (Or.inl (w270 hw)) Via.refl e0 (ZS38_.ext O0.2) c75 rfl (hb hby d5_179)
                    obtain ⟨fs, hr, hrun, hended, hW, hsame⟩ := X76.leave (v := some (rr sa121_)) (fun h => by rw [Bd.returns] at h; cases h)
                    refine ⟨_, _, c76 _ ?_, hrun, hended, _, _, rfl, ?_, ⟨_, rfl⟩, hW, hsame.mono (by decide) (by decide)⟩
                    ·show S_ p e below T76 m 182 #[vi k_] [(rr sa121_)] _
                     exact retOut X76 hx Bd.returns rfl (Or.inr (Or.inr (Or.inr (Or.inr ⟨rfl, rfl, rfl⟩)))) (hb hby d5_182) hr
                    ·show Q_pick Z k_ sa45_ sa49_ sa53_ sa57_ sa61_ sa65_ sa69_ sa73_ sa77_ sa81_ sa85_ sa89_ sa93_ sa97_ sa101_ sa105_ sa109_ sa113_ sa117_ sa121_ sa125_ sa129_ sa133_ h0 n0 _ T76.heap _
                     rw [e76]
                     exact (Or.inr (⟨sa121_, rfl, N0, rfl, (ZE39_.ext O0.2)⟩))
                   ·have c77 : Kt p e below s₁ st0 (mkF m 186 #[vi k_] [(ii 19), (.int k_)]) := fun t k => by
                     refine c73 t ?_
                     show S_ p e below s₁ m 176 #[vi k_] [(ii 18), (.int k_)] t
                     refine yC X0.here hx rfl 176 183 rfl (hb hby d5_176) rfl (feq hc74).2 ?_
                     show S_ p e below s₁ m 183 #[vi k_] [] t
                     refine XS.iloadN X0.here hx rfl (hb hby d5_183) rfl ?_
                     show S_ p e below s₁ m 184 #[vi k_] [(.int k_)] t
                     refine XS.bipush X0.here hx rfl (hb hby d5_184) ?_
                     exact k
                    by_cases hc78 : k_ = (19 : Int32)
                    ·have c79 : Kt p e below s₁ st0 (mkF m 189 #[vi k_] []) := fun t k => by
                      refine c77 t ?_
                      show S_ p e below s₁ m 186 #[vi k_] [(ii 19), (.int k_)] t
                      refine XS.icmpNo X0.here hx rfl (hb hby d5_186) rfl (teq hc78).2 ?_
                      exact k
                     obtain ⟨T80, X80, e80, c80⟩ := kgetS X0 hx hZ hown (host := "") (Or.inl (w268 hw)) Via.refl e0 (ZS36_.ext O0.2) c79 rfl (hb hby d5_189)
                     obtain ⟨fs, hr, hrun, hended, hW, hsame⟩ := X80.leave (v := some (rr sa117_)) (fun h => by rw [Bd.returns] at h; cases h)
                     refine ⟨_, _, c80 _ ?_, hrun, hended, _, _, rfl, ?_, ⟨_, rfl⟩, hW, hsame.mono (by decide) (by decide)⟩
                     ·show S_ p e below T80 m 192 #[vi k_] [(rr sa117_)] _
                      exact retOut X80 hx Bd.returns rfl (Or.inr (Or.inr (Or.inr (Or.inr ⟨rfl, rfl, rfl⟩)))) (hb hby d5_192) hr
                     ·show Q_pick Z k_ sa45_ sa49_ sa53_ sa57_ sa61_ sa65_ sa69_ sa73_ sa77_ sa81_ sa85_ sa89_ sa93_ sa97_ sa101_ sa105_ sa109_ sa113_ sa117_ sa121_ sa125_ sa129_ sa133_ h0 n0 _ T80.heap _
                      rw [e80]
                      exact (Or.inr (⟨sa117_, rfl, N0, rfl, (ZE37_.ext O0.2)⟩))
                    ·have c81 : Kt p e below s₁ st0 (mkF m 196 #[vi k_] [(ii 20), (.int k_)]) := fun t k => by
                      refine c77 t ?_
                      show S_ p e below s₁ m 186 #[vi k_] [(ii 19), (.int k_)] t
                      refine yC X0.here hx rfl 186 193 rfl (hb hby d5_186) rfl (feq hc78).2 ?_
                      show S_ p e below s₁ m 193 #[vi k_] [] t
                      refine XS.iloadN X0.here hx rfl (hb hby d5_193) rfl ?_
                      show S_ p e below s₁ m 194 #[vi k_] [(.int k_)] t
                      refine XS.bipush X0.here hx rfl (hb hby d5_194) ?_
                      exact k
                     by_cases hc82 : k_ = (20 : Int32)
                     ·have c83 : Kt p e below s₁ st0 (mkF m 199 #[vi k_] []) := fun t k => by
                       refine c81 t ?_
                       show S_ p e below s₁ m 196 #[vi k_] [(ii 20), (.int k_)] t
                       refine XS.icmpNo X0.here hx rfl (hb hby d5_196) rfl (teq hc82).2 ?_
                       exact k
                      obtain ⟨T84, X84, e84, c84⟩ := kgetS X0 hx hZ hown (host := "") (Or.inl (w250 hw)) Via.refl e0 (ZS18_.ext O0.2) c83 rfl (hb hby d5_199)
                      obtain ⟨fs, hr, hrun, hended, hW, hsame⟩ := X84.leave (v := some (rr sa81_)) (fun h => by rw [Bd.returns] at h; cases h)
                      refine ⟨_, _, c84 _ ?_, hrun, hended, _, _, rfl, ?_, ⟨_, rfl⟩, hW, hsame.mono (by decide) (by decide)⟩
                      ·show S_ p e below T84 m 202 #[vi k_] [(rr sa81_)] _
                       exact retOut X84 hx Bd.returns rfl (Or.inr (Or.inr (Or.inr (Or.inr ⟨rfl, rfl, rfl⟩)))) (hb hby d5_202) hr
                      ·show Q_pick Z k_ sa45_ sa49_ sa53_ sa57_ sa61_ sa65_ sa69_ sa73_ sa77_ sa81_ sa85_ sa89_ sa93_ sa97_ sa101_ sa105_ sa109_ sa113_ sa117_ sa121_ sa125_ sa129_ sa133_ h0 n0 _ T84.heap _
                       rw [e84]
                       exact (Or.inr (⟨sa81_, rfl, N0, rfl, (ZE19_.ext O0.2)⟩))
                     ·have c85 : Kt p e below s₁ st0 (mkF m 206 #[vi k_] [(ii 21), (.int k_)]) := fun t k => by
                       refine c81 t ?_
                       show S_ p e below s₁ m 196 #[vi k_] [(ii 20), (.int k_)] t
                       refine yC X0.here hx rfl 196 203 rfl (hb hby d5_196) rfl (feq hc82).2 ?_
                       show S_ p e below s₁ m 203 #[vi k_] [] t
                       refine XS.iloadN X0.here hx rfl (hb hby d5_203) rfl ?_
                       show S_ p e below s₁ m 204 #[vi k_] [(.int k_)] t
                       refine XS.bipush X0.here hx rfl (hb hby d5_204) ?_
                       exact k
                      by_cases hc86 : k_ = (21 : Int32)
                      ·have c87 : Kt p e below s₁ st0 (mkF m 209 #[vi k_] []) := fun t k => by
                        refine c85 t ?_
                        show S_ p e below s₁ m 206 #[vi k_] [(ii 21), (.int k_)] t
                        refine XS.icmpNo X0.here hx rfl (hb hby d5_206) rfl (teq hc86).2 ?_
                        exact k
                       obtain ⟨T88, X88, e88, c88⟩ := kgetS X0 hx hZ hown (host := "") (Or.inl (w274 hw)) Via.refl e0 (ZS42_.ext O0.2) c87 rfl (hb hby d5_209)
                       obtain ⟨fs, hr, hrun, hended, hW, hsame⟩ := X88.leave (v := some (rr sa129_)) (fun h => by rw [Bd.returns] at h; cases h)
                       refine ⟨_, _, c88 _ ?_, hrun, hended, _, _, rfl, ?_, ⟨_, rfl⟩, hW, hsame.mono (by decide) (by decide)⟩
                       ·show S_ p e below T88 m 212 #[vi k_] [(rr sa129_)] _
                        exact retOut X88 hx Bd.returns rfl (Or.inr (Or.inr (Or.inr (Or.inr ⟨rfl, rfl, rfl⟩)))) (hb hby d5_212) hr
                       ·show Q_pick Z k_ sa45_ sa49_ sa53_ sa57_ sa61_ sa65_ sa69_ sa73_ sa77_ sa81_ sa85_ sa89_ sa93_ sa97_ sa101_ sa105_ sa109_ sa113_ sa117_ sa121_ sa125_ sa129_ sa133_ h0 n0 _ T88.heap _
                        rw [e88]
                        exact (Or.inr (⟨sa129_, rfl, N0, rfl, (ZE43_.ext O0.2)⟩))
                      ·have c89 : Kt p e below s₁ st0 (mkF m 216 #[vi k_] [(ii 22), (.int k_)]) := fun t k => by
                        refine c85 t ?_
                        show S_ p e below s₁ m 206 #[vi k_] [(ii 21), (.int k_)] t
                        refine yC X0.here hx rfl 206 213 rfl (hb hby d5_206) rfl (feq hc86).2 ?_
                        show S_ p e below s₁ m 213 #[vi k_] [] t
                        refine XS.iloadN X0.here hx rfl (hb hby d5_213) rfl ?_
                        show S_ p e below s₁ m 214 #[vi k_] [(.int k_)] t
                        refine XS.bipush X0.here hx rfl (hb hby d5_214) ?_
                        exact k
                       by_cases hc90 : k_ = (22 : Int32)
                       ·have c91 : Kt p e below s₁ st0 (mkF m 219 #[vi k_] []) := fun t k => by
                         refine c89 t ?_
                         show S_ p e below s₁ m 216 #[vi k_] [(ii 22), (.int k_)] t
                         refine XS.icmpNo X0.here hx rfl (hb hby d5_216) rfl (teq hc90).2 ?_
                         exact k
                        obtain ⟨T92, X92, e92, c92⟩ := kgetS X0 hx hZ hown (host := "") (Or.inl (w272 hw)) Via.refl e0 (ZS40_.ext O0.2) c91 rfl (hb hby d5_219)
                        obtain ⟨fs, hr, hrun, hended, hW, hsame⟩ := X92.leave (v := some (rr sa125_)) (fun h => by rw [Bd.returns] at h; cases h)
                        refine ⟨_, _, c92 _ ?_, hrun, hended, _, _, rfl, ?_, ⟨_, rfl⟩, hW, hsame.mono (by decide) (by decide)⟩
                        ·show S_ p e below T92 m 222 #[vi k_] [(rr sa125_)] _
                         exact retOut X92 hx Bd.returns rfl (Or.inr (Or.inr (Or.inr (Or.inr ⟨rfl, rfl, rfl⟩)))) (hb hby d5_222) hr
                        ·show Q_pick Z k_ sa45_ sa49_ sa53_ sa57_ sa61_ sa65_ sa69_ sa73_ sa77_ sa81_ sa85_ sa89_ sa93_ sa97_ sa101_ sa105_ sa109_ sa113_ sa117_ sa121_ sa125_ sa129_ sa133_ h0 n0 _ T92.heap _
                         rw [e92]
                         exact (Or.inr (⟨sa125_, rfl, N0, rfl, (ZE41_.ext O0.2)⟩))
                       ·obtain ⟨fs, hr, hrun, hended, hW, hsame⟩ := X0.leave (v := some .null) (fun h => by rw [Bd.returns] at h; cases h)
                        refine ⟨_, _, c89 _ ?_, hrun, hended, _, _, rfl, ?_, ⟨_, rfl⟩, hW, hsame.mono (by decide) (by decide)⟩
                        ·show S_ p e below s₁ m 216 #[vi k_] [(ii 22), (.int k_)] _
                         refine yC X0.here hx rfl 216 223 rfl (hb hby d5_216) rfl (feq hc90).2 ?_
                         show S_ p e below s₁ m 223 #[vi k_] [] _
                         refine XS.aconstNull X0.here hx rfl (hb hby d5_223) ?_
                         show S_ p e below s₁ m 224 #[vi k_] [.null] _
                         exact retOut X0 hx Bd.returns rfl (Or.inr (Or.inr (Or.inr (Or.inr ⟨rfl, rfl, rfl⟩)))) (hb hby d5_224) hr
                        ·show Q_pick Z k_ sa45_ sa49_ sa53_ sa57_ sa61_ sa65_ sa69_ sa73_ sa77_ sa81_ sa85_ sa89_ sa93_ sa97_ sa101_ sa105_ sa109_ sa113_ sa117_ sa121_ sa125_ sa129_ sa133_ h0 n0 _ s₁.heap _
                         rw [e0]
                         exact (Or.inl ⟨rfl, N0, rfl⟩)
theorem pn_java_lang_Number : plainName "java/lang/Number" = true := by first | (simp [plainName, overriddenIn]; done) | decide +kernel
theorem d6_0 : decode jdk_18_method_1_code 0 = .ok (.aload_n 0, 1) := by decide +kernel
theorem d6_1 : decode jdk_18_method_1_code 1 = .ok (.invokespecial 1, 3) := by decide +kernel
theorem d6_4 : decode jdk_18_method_1_code 4 = .ok (.return_, 1) := by decide +kernel
theorem ef_numinit (m : MethodId) (x_ : Addr) : entryFrame m #[(rr x_)] 1 = mkF m 0 #[vr x_] [] := by first | (simp [entryFrame, mkF, argsToLocals, Value.category]; done) | rfl
def Q_numinit (Z : State) (x_ : Addr) (h0 : Heap) (n0 : Nat) (v : Option Value) (h : Heap) (L : List Loc) : Prop := v = none ∧ Fr n0 L ∧ h = h0
set_option maxRecDepth 65536 in
set_option maxHeartbeats 40000000 in
theorem rm_numinit (l : Launch) (Z : State) (a0 : Array Value) (hw : HW Z a0) (ws : List Jvm.Cond) (x_ : Addr) (h0 : Heap) (n0 : Nat) (O0 : Old Z n0 h0) :
  MFP l Z (⟨"java/lang/Number", "<init>", "()V"⟩ : MethodName) jdk_18_method_1_code 1 none ({ frames := 1, cells := 0, slots := 0, locals := 12 } : Room) ws #[(rr x_)] h0 (Q_numinit Z x_ h0 n0) := by
 refine MetFree.of_bodySF (plainFor_of_name pn_java_lang_Number) hisR ?_
 intro p e s m args below meth c s₁ Bd hml0 hP hK
 obtain ⟨rfl, hZ, hh⟩ := hP
 have hx := Bd.exec
 have hby := Bd.bytes
 have hml : c.maxLocals = 1 := hml0
 have hown : s.vm.findClass "java/lang/Number" = some m.cls := findClass_of_methodNamed Bd.named
 have hnm := (name_of_methodNamed Bd.named Bd.method).1
 have X0 : Stand p l e ({ frames := 1, cells := 0, slots := 0, locals := 12 } : Room) s m #[(rr x_)] below meth c s₁ [] 0 0 := Stand.of_body Bd
 have e0 : s₁.heap = h0 := by rw [← hh, Bd.state]; rfl
 have N0 := Fr.nil n0
 have kp0 : Keep h0 h0 [] := Keep.refl _ _
 have c0 : ∀ t, S_ p e below s₁ m 0 #[vr x_] [] t → Steps p.tables e below (s₁.setTop (entryFrame m #[(rr x_)] 1)) t := fun t k => castTop (ef_numinit m x_) k
 generalize s₁.setTop (entryFrame m #[(rr x_)] 1) = st0 at c0 ⊢
 replace c0 : Kt p e below s₁ st0 (mkF m 0 #[vr x_] []) := c0
 have c1 : Kt p e below s₁ st0 (mkF m 1 #[vr x_] [(rr x_)]) := fun t k => by
  refine c0 t ?_
  show S_ p e below s₁ m 0 #[vr x_] [] t
  refine XS.aloadN X0.here hx rfl (hb hby d6_0) rfl rfl ?_
  exact k
 obtain ⟨T2, X2, e2, c2⟩ := kinit X0 hx hZ hown (w243 hw) (w27 hw) (w28 hw) e0 c1 rfl hml rfl rfl (hb hby d6_1) 0 (own_w rfl) (by decide) (by decide)
 obtain ⟨fs, hr, hrun, hended, hW, hsame⟩ := X2.leave (v := none) (fun _ => rfl)
 refine ⟨_, _, c2 _ ?_, hrun, hended, _, _, rfl, ?_, ⟨_, rfl⟩, hW, hsame.mono (by decide) (by decide)⟩
 ·show S_ p e below T2 m 4 #[vr x_] [] _
  exact X2.returnOut hx Bd.returns (hb hby d6_4) hr
 ·show Q_numinit Z x_ h0 n0 _ T2.heap _
  rw [e2]
  exact ⟨rfl, N0, rfl⟩
theorem pn_java_lang_Integer : plainName nm11 = true := by first | (simp [plainName, overriddenIn]; done) | decide +kernel
theorem d7_0 : decode jdk_33_method_23_code 0 = .ok (.aload_n 0, 1) := by decide +kernel
theorem d7_1 : decode jdk_33_method_23_code 1 = .ok (.invokespecial 202, 3) := by decide +kernel
theorem pd_prV : parseMethodDescriptor "()V" = some ⟨[], none⟩ := by decide +kernel
theorem d7_4 : decode jdk_33_method_23_code 4 = .ok (.aload_n 0, 1) := by decide +kernel
theorem d7_5 : decode jdk_33_method_23_code 5 = .ok (.iload_n 1, 1) := by decide +kernel
theorem d7_6 : decode jdk_33_method_23_code 6 = .ok (.putfield 205, 3) := by decide +kernel
theorem d7_9 : decode jdk_33_method_23_code 9 = .ok (.return_, 1) := by decide +kernel
theorem ef_biI (m : MethodId) (x_ : Addr) (i_ : Int32) : entryFrame m #[(rr x_), (.int i_)] 2 = mkF m 0 #[vr x_, vi i_] [] := by first | (simp [entryFrame, mkF, argsToLocals, Value.category]; done) | rfl
def Q_biI (Z : State) (x_ : Addr) (i_ : Int32) (h0 : Heap) (n0 : Nat) (v : Option Value) (h : Heap) (L : List Loc) : Prop := v = none ∧ Fr n0 L ∧ Keep h0 h [x_] ∧ Exa Z h x_ nm11
set_option maxRecDepth 65536 in
set_option maxHeartbeats 40000000 in
theorem rm_biI (l : Launch) (Z : State) (a0 : Array Value) (hw : HW Z a0) (ws : List Jvm.Cond) (x_ : Addr) (i_ : Int32) (h0 : Heap) (n0 : Nat) (O0 : Old Z n0 h0) (E0_ : Exa Z h0 x_ nm11) (F1_ : Fld Z h0 x_ nm11 "value" "I" (ii 0)) (G2_ : n0 ≤ x_) :
  MFP l Z (⟨nm11, "<init>", "(I)V"⟩ : MethodName) jdk_33_method_23_code 2 none ({ frames := 2, cells := 0, slots := 0, locals := 24 } : Room) ws #[(rr x_), (.int i_)] h0 (Q_biI Z x_ i_ h0 n0) := by
 refine MetFree.of_bodySF (plainFor_of_name pn_java_lang_Integer) hisR ?_
 intro p e s m args below meth c s₁ Bd hml0 hP hK
 obtain ⟨rfl, hZ, hh⟩ := hP
 have hx := Bd.exec
 have hby := Bd.bytes
 have hml : c.maxLocals = 2 := hml0
 have hown : s.vm.findClass nm11 = some m.cls := findClass_of_methodNamed Bd.named
 have hnm := (name_of_methodNamed Bd.named Bd.method).1
 have X0 : Stand p l e ({ frames := 2, cells := 0, slots := 0, locals := 24 } : Room) s m #[(rr x_), (.int i_)] below meth c s₁ [] 0 0 := Stand.of_body Bd
 have e0 : s₁.heap = h0 := by rw [← hh, Bd.state]; rfl
 have N0 := Fr.nil n0
 have kp0 : Keep h0 h0 [x_] := Keep.refl _ _
 have c0 : ∀ t, S_ p e below s₁ m 0 #[vr x_, vi i_] [] t → Steps p.tables e below (s₁.setTop (entryFrame m #[(rr x_), (.int i_)] 2)) t := fun t k => castTop (ef_biI m x_ i_) k
 generalize s₁.setTop (entryFrame m #[(rr x_), (.int i_)] 2) = st0 at c0 ⊢
 replace c0 : Kt p e below s₁ st0 (mkF m 0 #[vr x_, vi i_] []) := c0
 have c1 : Kt p e below s₁ st0 (mkF m 1 #[vr x_, vi i_] [(rr x_)]) := fun t k => by
  refine c0 t ?_
  show S_ p e below s₁ m 0 #[vr x_, vi i_] [] t
  refine XS.aloadN X0.here hx rfl (hb hby d7_0) rfl rfl ?_
  exact k
 obtain ⟨_, T2, L2, X2, hQ2, c2⟩ := kspec X0 hx hZ hown (w237 hw) (w238 hw) (w241 hw) (w242 hw) (rm_numinit l Z a0 hw [] x_ h0 n0 O0 ) e0 c1 hml pd_prV x_ [] [] 0 (hb hby d7_1) rfl rfl rfl rfl rfl rfl
 obtain ⟨rfl, N3q, K4⟩ := hQ2
 have N3 := Fr.app N0 N3q
 have c5 : Kt p e below T2 st0 (mkF m 6 #[vr x_, vi i_] [(.int i_), (rr x_)]) := fun t k => by
  refine c2 t ?_
  show S_ p e below T2 m 4 #[vr x_, vi i_] [] t
  refine XS.aloadN X2.here hx rfl (hb hby d7_4) rfl rfl ?_
  show S_ p e below T2 m 5 #[vr x_, vi i_] [(rr x_)] t
  refine XS.iloadN X2.here hx rfl (hb hby d7_5) rfl ?_
  exact k
 obtain ⟨T6, h6, X6, e6, W6, f7, o9, N8, c6⟩ := kput X2 hx hZ .int hown (host := "") (Or.inl (w244 hw)) Via.refl K4 F1_ E0_ (Or.inr ⟨(w245 hw), rfl, hnm⟩) (w232 hw) c5 rfl rfl (hb hby d7_6) (by decide) rfl rfl O0 N3 G2_
 have kp10 := kp0.wr W6 (Or.inl (List.mem_of_getElem? (i := 0) rfl))
 obtain ⟨fs, hr, hrun, hended, hW, hsame⟩ := X6.leave (v := none) (fun _ => rfl)
 refine ⟨_, _, c6 _ ?_, hrun, hended, _, _, rfl, ?_, ⟨_, rfl⟩, hW, hsame.mono (by decide) (by decide)⟩
 ·show S_ p e below T6 m 9 #[vr x_, vi i_] [] _
  exact X6.returnOut hx Bd.returns (hb hby d7_9) hr
 ·show Q_biI Z x_ i_ h0 n0 _ T6.heap _
  rw [e6]
  exact ⟨rfl, N8, kp10, (E0_.wr W6)⟩
theorem d8_0 : decode jdk_33_method_22_code 0 = .ok (.iload_n 0, 1) := by decide +kernel
theorem d8_1 : decode jdk_33_method_22_code 1 = .ok (.bipush (-128), 2) := by decide +kernel
theorem d8_3 : decode jdk_33_method_22_code 3 = .ok (.if_icmp .lt 20, 3) := by decide +kernel
theorem d8_23 : decode jdk_33_method_22_code 23 = .ok (.new 1, 3) := by decide +kernel
theorem d8_26 : decode jdk_33_method_22_code 26 = .ok (.dup, 1) := by decide +kernel
theorem d8_27 : decode jdk_33_method_22_code 27 = .ok (.iload_n 0, 1) := by decide +kernel
theorem d8_28 : decode jdk_33_method_22_code 28 = .ok (.invokespecial 199, 3) := by decide +kernel
theorem pd_pIrV : parseMethodDescriptor "(I)V" = some ⟨[.int], none⟩ := by decide +kernel
theorem d8_31 : decode jdk_33_method_22_code 31 = .ok (.areturn, 1) := by decide +kernel
theorem d8_6 : decode jdk_33_method_22_code 6 = .ok (.iload_n 0, 1) := by decide +kernel
theorem d8_7 : decode jdk_33_method_22_code 7 = .ok (.getstatic 191, 3) := by decide +kernel
theorem d8_10 : decode jdk_33_method_22_code 10 = .ok (.if_icmp .gt 13, 3) := by decide +kernel
theorem d8_13 : decode jdk_33_method_22_code 13 = .ok (.getstatic 195, 3) := by decide +kernel
theorem d8_16 : decode jdk_33_method_22_code 16 = .ok (.iload_n 0, 1) := by decide +kernel
theorem d8_17 : decode jdk_33_method_22_code 17 = .ok (.sipush 128, 3) := by decide +kernel
theorem d8_20 : decode jdk_33_method_22_code 20 = .ok (.iadd, 1) := by decide +kernel
theorem d8_21 : decode jdk_33_method_22_code 21 = .ok (.aaload, 1) := by decide +kernel
theorem d8_22 : decode jdk_33_method_22_code 22 = .ok (.areturn, 1) := by decide +kernel
theorem ef_voI (m : MethodId) (i_ : Int32) : entryFrame m #[(.int i_)] 1 = mkF m 0 #[vi i_] [] := by first | (simp [entryFrame, mkF, argsToLocals, Value.category]; done) | rfl
def Q_voI (Z : State) (i_ : Int32) (ca_ : Addr) (cc_ : Cell) (h0 : Heap) (n0 : Nat) (v : Option Value) (h : Heap) (L : List Loc) : Prop := ∃ (b_ : Addr), v = some (rr b_) ∧ Fr n0 L ∧ Keep h0 h [] ∧ Exa Z h b_ nm11
set_option maxRecDepth 65536 in
set_option maxHeartbeats 40000000 in
theorem rm_voI (l : Launch) (Z : State) (a0 : Array Value) (hw : HW Z a0) (ws : List Jvm.Cond) (i_ : Int32) (ca_ : Addr) (cc_ : Cell) (h0 : Heap) (n0 : Nat) (O0 : Old Z n0 h0) (ZS0_ : Sta Z Z.heap "java/lang/Integer$IntegerCache" "high" "I" (ii 127)) (ZS1_ : Sta Z Z.heap "java/lang/Integer$IntegerCache" "cache" "[Ljava/lang/Integer;" (rr ca_)) (hbx_ : Bxs Z ca_ cc_ nm11 "I" (256 : Int32) (fun j => .int (j - (128 : Int32)))) :
  MFP l Z (⟨nm11, "valueOf", "(I)Ljava/lang/Integer;"⟩ : MethodName) jdk_33_method_22_code 1 (some (.object nm11)) ({ frames := 3, cells := 1, slots := 1, locals := 38 } : Room) ws #[(.int i_)] h0 (Q_voI Z i_ ca_ cc_ h0 n0) := by
 refine MetFree.of_bodySF (plainFor_of_name pn_java_lang_Integer) hisR ?_
 intro p e s m args below meth c s₁ Bd hml0 hP hK
 obtain ⟨rfl, hZ, hh⟩ := hP
 have hx := Bd.exec
 have hby := Bd.bytes
 have hml : c.maxLocals = 1 := hml0
 have hown : s.vm.findClass nm11 = some m.cls := findClass_of_methodNamed Bd.named
 have hnm := (name_of_methodNamed Bd.named Bd.method).1
 have X0 : Stand p l e ({ frames := 3, cells := 1, slots := 1, locals := 38 } : Room) s m #[(.int i_)] below meth c s₁ [] 0 0 := Stand.of_body Bd
 have e0 : s₁.heap = h0 := by rw [← hh, Bd.state]; rfl
 have N0 := Fr.nil n0
 have kp0 : Keep h0 h0 [] := Keep.refl _ _
 have c0 : ∀ t, S_ p e below s₁ m 0 #[vi i_] [] t → Steps p.tables e below (s₁.setTop (entryFrame m #[(.int i_)] 1)) t := fun t k => castTop (ef_voI m i_) k
 generalize s₁.setTop (entryFrame m #[(.int i_)] 1) = st0 at c0 ⊢
 replace c0 : Kt p e below s₁ st0 (mkF m 0 #[vi i_] []) := c0
 have c1 : Kt p e below s₁ st0 (mkF m 3 #[vi i_] [(ii (-128)), (.int i_)]) := fun t k => by
  refine c0 t ?_
  show S_ p e below s₁ m 0 #[vi i_] [] t
  refine XS.iloadN X0.here hx rfl (hb hby d8_0) rfl ?_
  show S_ p e below s₁ m 1 #[vi i_] [(.int i_)] t
  refine XS.bipush X0.here hx rfl (hb hby d8_1) ?_
  exact k
 by_cases hc2 : i_ < (-128 : Int32)
 ·have c3 : Kt p e below s₁ st0 (mkF m 23 #[vi i_] []) := fun t k => by
   refine c1 t ?_
   show S_ p e below s₁ m 3 #[vi i_] [(ii (-128)), (.int i_)] t
   refine yC X0.here hx rfl 3 23 rfl (hb hby d8_3) rfl (tlt hc2).1 ?_
   exact k
  obtain ⟨b4, T4, h4, z4, g4, X4, e4, E4, o5, A4, D4, U4, c4⟩ := knew X0 hx hZ hown (w231 hw) (w232 hw) (w10 hw) e0 c3 rfl (hb hby d8_23) (by decide) (by decide) O0
  have kp6 := kp0.ext E4
  have z7 := Nat.le_trans kp0.1 z4
  have c8 : Kt p e below T4 st0 (mkF m 28 #[vi i_] [(.int i_), (rr b4), (rr b4)]) := fun t k => by
   refine c4 t ?_
   show S_ p e below T4 m 26 #[vi i_] [(rr b4)] t
   refine XS.dup X4.here hx rfl (hb hby d8_26) rfl rfl ?_
   show S_ p e below T4 m 27 #[vi i_] [(rr b4), (rr b4)] t
   refine XS.iloadN X4.here hx rfl (hb hby d8_27) rfl ?_
   exact k
  obtain ⟨_, T9, L9, X9, hQ9, c9⟩ := kspec X4 hx hZ hown (w233 hw) (w234 hw) (w10 hw) (w236 hw) (rm_biI l Z a0 hw [] b4 i_ h4 n0 o5 A4 (show Fld Z h4 b4 nm11 "value" "I" (ii 0) from D4 (Or.inr (w245 hw)) (ty := .int) (by decide)) g4) e4 c8 hml pd_pIrV b4 [(.int i_)] [(rr b4)] 1 (hb hby d8_28) rfl rfl rfl rfl rfl rfl
  obtain ⟨rfl, N10q, K11, p12⟩ := hQ9
  have N10 := Fr.app N0 N10q
  have o13 := o5.keep K11 (allS g4 all0)
  have kp14 := kp6.trans K11 (allS (Or.inr z7) all0)
  obtain ⟨fs, hr, hrun, hended, hW, hsame⟩ := X9.leave (v := some (rr b4)) (fun h => by rw [Bd.returns] at h; cases h)
  refine ⟨_, _, c9 _ ?_, hrun, hended, _, _, rfl, ?_, ⟨_, rfl⟩, hW, hsame.mono (by decide) (by decide)⟩
  ·show S_ p e below T9 m 31 #[vi i_] [(rr b4)] _
   exact retOut X9 hx Bd.returns rfl (Or.inr (Or.inr (Or.inr (Or.inr ⟨rfl, rfl, rfl⟩)))) (hb hby d8_31) hr
  ·show Q_voI Z i_ ca_ cc_ h0 n0 _ T9.heap _
   exact ⟨b4, rfl, N10, kp14, p12⟩
 ·have c15 : Kt p e below s₁ st0 (mkF m 7 #[vi i_] [(.int i_)]) := fun t k => by
   refine c1 t ?_
   show S_ p e below s₁ m 3 #[vi i_] [(ii (-128)), (.int i_)] t
   refine XS.icmpNo X0.here hx rfl (hb hby d8_3) rfl (flt hc2).1 ?_
   show S_ p e below s₁ m 6 #[vi i_] [] t
   refine XS.iloadN X0.here hx rfl (hb hby d8_6) rfl ?_
   exact k
  obtain ⟨T16, X16, e16, c16⟩ := kgetS X0 hx hZ hown (host := "") (Or.inl (w12 hw)) Via.refl e0 (ZS0_.ext O0.2) c15 rfl (hb hby d8_7)
  by_cases hc17 : (127 : Int32) < i_
  ·have c18 : Kt p e below T16 st0 (mkF m 23 #[vi i_] []) := fun t k => by
    refine c16 t ?_
    show S_ p e below T16 m 10 #[vi i_] [(ii 127), (.int i_)] t
    refine yC X16.here hx rfl 10 23 rfl (hb hby d8_10) rfl (tlt hc17).2.2.1 ?_
    exact k
   obtain ⟨b19, T19, h19, z19, g19, X19, e19, E19, o20, A19, D19, U19, c19⟩ := knew X16 hx hZ hown (w231 hw) (w232 hw) (w10 hw) e16 c18 rfl (hb hby d8_23) (by decide) (by decide) O0
   have kp21 := kp0.ext E19
   have z22 := Nat.le_trans kp0.1 z19
   have c23 : Kt p e below T19 st0 (mkF m 28 #[vi i_] [(.int i_), (rr b19), (rr b19)]) := fun t k => by
    refine c19 t ?_
    show S_ p e below T19 m 26 #[vi i_] [(rr b19)] t
    refine XS.dup X19.here hx rfl (hb hby d8_26) rfl rfl ?_
    show S_ p e below T19 m 27 #[vi i_] [(rr b19), (rr b19)] t
    refine XS.iloadN X19.here hx rfl (hb hby d8_27) rfl ?_
    exact k
   obtain ⟨_, T24, L24, X24, hQ24, c24⟩ := kspec X19 hx hZ hown (w233 hw) (w234 hw) (w10 hw) (w236 hw) (rm_biI l Z a0 hw [] b19 i_ h19 n0 o20 A19 (show Fld Z h19 b19 nm11 "value" "I" (ii 0) from D19 (Or.inr (w245 hw)) (ty := .int) (by decide)) g19) e19 c23 hml pd_pIrV b19 [(.int i_)] [(rr b19)] 1 (hb hby d8_28) rfl rfl rfl rfl rfl rfl
   obtain ⟨rfl, N25q, K26, p27⟩ := hQ24
   have N25 := Fr.app N0 N25q
   have o28 := o20.keep K26 (allS g19 all0)
   have kp29 := kp21.trans K26 (allS (Or.inr z22) all0)
   obtain ⟨fs, hr, hrun, hended, hW, hsame⟩ := X24.leave (v := some (rr b19)) (fun h => by rw [Bd.returns] at h; cases h)
   refine ⟨_, _, c24 _ ?_, hrun, hended, _, _, rfl, ?_, ⟨_, rfl⟩, hW, hsame.mono (by decide) (by decide)⟩
   ·show S_ p e below T24 m 31 #[vi i_] [(rr b19)] _
    exact retOut X24 hx Bd.returns rfl (Or.inr (Or.inr (Or.inr (Or.inr ⟨rfl, rfl, rfl⟩)))) (hb hby d8_31) hr
   ·show Q_voI Z i_ ca_ cc_ h0 n0 _ T24.heap _
    exact ⟨b19, rfl, N25, kp29, p27⟩
  ·have c30 : Kt p e below T16 st0 (mkF m 13 #[vi i_] []) := fun t k => by
    refine c16 t ?_
    show S_ p e below T16 m 10 #[vi i_] [(ii 127), (.int i_)] t
    refine XS.icmpNo X16.here hx rfl (hb hby d8_10) rfl (flt hc17).2.2.1 ?_
    exact k
   obtain ⟨T31, X31, e31, c31⟩ := kgetS X16 hx hZ hown (host := "") (Or.inl (w14 hw)) Via.refl e16 (ZS1_.ext O0.2) c30 rfl (hb hby d8_13)
   have c33 : Kt p e below T31 st0 (mkF m 21 #[vi i_] [(.int (i_ + (128 : Int32))), (rr ca_)]) := fun t k => by
    refine c31 t ?_
    show S_ p e below T31 m 16 #[vi i_] [(rr ca_)] t
    refine XS.iloadN X31.here hx rfl (hb hby d8_16) rfl ?_
    show S_ p e below T31 m 17 #[vi i_] [(.int i_), (rr ca_)] t
    refine XS.sipush X31.here hx rfl (hb hby d8_17) ?_
    show S_ p e below T31 m 20 #[vi i_] [(ii 128), (.int i_), (rr ca_)] t
    refine XS.iadd X31.here hx rfl (hb hby d8_20) rfl ?_
    exact k
   obtain ⟨b32, eb32, fb32, c32⟩ := kbox X31 hx hZ e31 O0 hbx_ (j := (i_ + (128 : Int32))) (own_addI _ hc2 hc17).1 (own_addI _ hc2 hc17).2 c33 rfl rfl (hb hby d8_21)
   obtain ⟨fs, hr, hrun, hended, hW, hsame⟩ := X31.leave (v := some (rr b32)) (fun h => by rw [Bd.returns] at h; cases h)
   refine ⟨_, _, c32 _ ?_, hrun, hended, _, _, rfl, ?_, ⟨_, rfl⟩, hW, hsame.mono (by decide) (by decide)⟩
   ·show S_ p e below T31 m 22 #[vi i_] [(rr b32)] _
    exact retOut X31 hx Bd.returns rfl (Or.inr (Or.inr (Or.inr (Or.inr ⟨rfl, rfl, rfl⟩)))) (hb hby d8_22) hr
   ·show Q_voI Z i_ ca_ cc_ h0 n0 _ T31.heap _
    rw [e31]
    exact ⟨b32, rfl, N0, kp0, (eb32.ext O0.2)⟩
theorem pn_java_util_AbstractCollection : plainName "java/util/AbstractCollection" = true := by first | (simp [plainName, overriddenIn]; done) | decide +kernel
theorem d9_0 : decode jdk_22_method_1_code 0 = .ok (.aload_n 0, 1) := by decide +kernel
theorem d9_1 : decode jdk_22_method_1_code 1 = .ok (.invokespecial 1, 3) := by decide +kernel
theorem d9_4 : decode jdk_22_method_1_code 4 = .ok (.return_, 1) := by decide +kernel
theorem ef_abc (m : MethodId) (x_ : Addr) : entryFrame m #[(rr x_)] 1 = mkF m 0 #[vr x_] [] := by first | (simp [entryFrame, mkF, argsToLocals, Value.category]; done) | rfl
def Q_abc (Z : State) (x_ : Addr) (h0 : Heap) (n0 : Nat) (v : Option Value) (h : Heap) (L : List Loc) : Prop := v = none ∧ Fr n0 L ∧ h = h0
set_option maxRecDepth 65536 in
set_option maxHeartbeats 40000000 in
theorem rm_abc (l : Launch) (Z : State) (a0 : Array Value) (hw : HW Z a0) (ws : List Jvm.Cond) (x_ : Addr) (h0 : Heap) (n0 : Nat) (O0 : Old Z n0 h0) :
  MFP l Z (⟨"java/util/AbstractCollection", "<init>", "()V"⟩ : MethodName) jdk_22_method_1_code 1 none ({ frames := 1, cells := 0, slots := 0, locals := 12 } : Room) ws #[(rr x_)] h0 (Q_abc Z x_ h0 n0) := by
 refine MetFree.of_bodySF (plainFor_of_name pn_java_util_AbstractCollection) hisR ?_
 intro p e s m args below meth c s₁ Bd hml0 hP hK
 obtain ⟨rfl, hZ, hh⟩ := hP
 have hx := Bd.exec
 have hby := Bd.bytes
 have hml : c.maxLocals = 1 := hml0
 have hown : s.vm.findClass "java/util/AbstractCollection" = some m.cls := findClass_of_methodNamed Bd.named
 have hnm := (name_of_methodNamed Bd.named Bd.method).1
 have X0 : Stand p l e ({ frames := 1, cells := 0, slots := 0, locals := 12 } : Room) s m #[(rr x_)] below meth c s₁ [] 0 0 := Stand.of_body Bd
 have e0 : s₁.heap = h0 := by rw [← hh, Bd.state]; rfl
 have N0 := Fr.nil n0
 have kp0 : Keep h0 h0 [] := Keep.refl _ _
 have c0 : ∀ t, S_ p e below s₁ m 0 #[vr x_] [] t → Steps p.tables e below (s₁.setTop (entryFrame m #[(rr x_)] 1)) t := fun t k => castTop (ef_abc m x_) k
 generalize s₁.setTop (entryFrame m #[(rr x_)] 1) = st0 at c0 ⊢
 replace c0 : Kt p e below s₁ st0 (mkF m 0 #[vr x_] []) := c0
 have c1 : Kt p e below s₁ st0 (mkF m 1 #[vr x_] [(rr x_)]) := fun t k => by
  refine c0 t ?_
  show S_ p e below s₁ m 0 #[vr x_] [] t
  refine XS.aloadN X0.here hx rfl (hb hby d9_0) rfl rfl ?_
  exact k
 obtain ⟨T2, X2, e2, c2⟩ := kinit X0 hx hZ hown (w63 hw) (w27 hw) (w28 hw) e0 c1 rfl hml rfl rfl (hb hby d9_1) 0 (own_w rfl) (by decide) (by decide)
 obtain ⟨fs, hr, hrun, hended, hW, hsame⟩ := X2.leave (v := none) (fun _ => rfl)
 refine ⟨_, _, c2 _ ?_, hrun, hended, _, _, rfl, ?_, ⟨_, rfl⟩, hW, hsame.mono (by decide) (by decide)⟩
 ·show S_ p e below T2 m 4 #[vr x_] [] _
  exact X2.returnOut hx Bd.returns (hb hby d9_4) hr
 ·show Q_abc Z x_ h0 n0 _ T2.heap _
  rw [e2]
  exact ⟨rfl, N0, rfl⟩
theorem pn_java_util_AbstractList : plainName nm26 = true := by first | (simp [plainName, overriddenIn]; done) | decide +kernel
theorem d10_0 : decode jdk_39_method_1_code 0 = .ok (.aload_n 0, 1) := by decide +kernel
theorem d10_1 : decode jdk_39_method_1_code 1 = .ok (.invokespecial 1, 3) := by decide +kernel
theorem d10_4 : decode jdk_39_method_1_code 4 = .ok (.aload_n 0, 1) := by decide +kernel
theorem d10_5 : decode jdk_39_method_1_code 5 = .ok (.iconst 0, 1) := by decide +kernel
theorem d10_6 : decode jdk_39_method_1_code 6 = .ok (.putfield 7, 3) := by decide +kernel
theorem d10_9 : decode jdk_39_method_1_code 9 = .ok (.return_, 1) := by decide +kernel
theorem ef_abl (m : MethodId) (x_ : Addr) : entryFrame m #[(rr x_)] 1 = mkF m 0 #[vr x_] [] := by first | (simp [entryFrame, mkF, argsToLocals, Value.category]; done) | rfl
def Q_abl (Z : State) (x_ : Addr) (h0 : Heap) (n0 : Nat) (v : Option Value) (h : Heap) (L : List Loc) : Prop := v = none ∧ Fr n0 L ∧ Keep h0 h [x_] ∧ Exa Z h x_ nm12 ∧ Fld Z h x_ nm12 "elementData" nm19 .null
set_option maxRecDepth 65536 in
set_option maxHeartbeats 40000000 in
theorem rm_abl (l : Launch) (Z : State) (a0 : Array Value) (hw : HW Z a0) (ws : List Jvm.Cond) (x_ : Addr) (h0 : Heap) (n0 : Nat) (O0 : Old Z n0 h0) (E0_ : Exa Z h0 x_ nm12) (F1_ : Fld Z h0 x_ nm26 "modCount" "I" (ii 0)) (F2_ : Fld Z h0 x_ nm12 "elementData" nm19 .null) (G3_ : n0 ≤ x_) :
  MFP l Z (⟨nm26, "<init>", "()V"⟩ : MethodName) jdk_39_method_1_code 1 none ({ frames := 2, cells := 0, slots := 0, locals := 24 } : Room) ws #[(rr x_)] h0 (Q_abl Z x_ h0 n0) := by
 refine MetFree.of_bodySF (plainFor_of_name pn_java_util_AbstractList) hisR ?_
 intro p e s m args below meth c s₁ Bd hml0 hP hK
 obtain ⟨rfl, hZ, hh⟩ := hP
 have hx := Bd.exec
 have hby := Bd.bytes
 have hml : c.maxLocals = 1 := hml0
 have hown : s.vm.findClass nm26 = some m.cls := findClass_of_methodNamed Bd.named
 have hnm := (name_of_methodNamed Bd.named Bd.method).1
 have X0 : Stand p l e ({ frames := 2, cells := 0, slots := 0, locals := 24 } : Room) s m #[(rr x_)] below meth c s₁ [] 0 0 := Stand.of_body Bd
 have e0 : s₁.heap = h0 := by rw [← hh, Bd.state]; rfl
 have N0 := Fr.nil n0
 have kp0 : Keep h0 h0 [x_] := Keep.refl _ _
 have c0 : ∀ t, S_ p e below s₁ m 0 #[vr x_] [] t → Steps p.tables e below (s₁.setTop (entryFrame m #[(rr x_)] 1)) t := fun t k => castTop (ef_abl m x_) k
 generalize s₁.setTop (entryFrame m #[(rr x_)] 1) = st0 at c0 ⊢
 replace c0 : Kt p e below s₁ st0 (mkF m 0 #[vr x_] []) := c0
 have c1 : Kt p e below s₁ st0 (mkF m 1 #[vr x_] [(rr x_)]) := fun t k => by
  refine c0 t ?_
  show S_ p e below s₁ m 0 #[vr x_] [] t
  refine XS.aloadN X0.here hx rfl (hb hby d10_0) rfl rfl ?_
  exact k
 obtain ⟨_, T2, L2, X2, hQ2, c2⟩ := kspec X0 hx hZ hown (w57 hw) (w58 hw) (w61 hw) (w62 hw) (rm_abc l Z a0 hw [] x_ h0 n0 O0 ) e0 c1 hml pd_prV x_ [] [] 0 (hb hby d10_1) rfl rfl rfl rfl rfl rfl
 obtain ⟨rfl, N3q, K4⟩ := hQ2
 have N3 := Fr.app N0 N3q
 have c5 : Kt p e below T2 st0 (mkF m 6 #[vr x_] [(ii 0), (rr x_)]) := fun t k => by
  refine c2 t ?_
  show S_ p e below T2 m 4 #[vr x_] [] t
  refine XS.aloadN X2.here hx rfl (hb hby d10_4) rfl rfl ?_
  show S_ p e below T2 m 5 #[vr x_] [(rr x_)] t
  refine XS.iconst X2.here hx rfl (hb hby d10_5) ?_
  exact k
 obtain ⟨T6, h6, X6, e6, W6, f7, o9, N8, c6⟩ := kput X2 hx hZ .int hown (host := "") (Or.inl (w64 hw)) Via.refl K4 F1_ E0_ (Or.inl (w65 hw)) (w46 hw) c5 rfl rfl (hb hby d10_6) (by decide) rfl rfl O0 N3 G3_
 have kp10 := kp0.wr W6 (Or.inl (List.mem_of_getElem? (i := 0) rfl))
 have f11 := F2_.other W6 (Or.inr (slot_ne (Or.inl (w68 hw)) (Or.inl (w65 hw)) (by decide) (t := (.array (.object nm8))) (t' := .int) (by decide) (by decide)))
 obtain ⟨fs, hr, hrun, hended, hW, hsame⟩ := X6.leave (v := none) (fun _ => rfl)
 refine ⟨_, _, c6 _ ?_, hrun, hended, _, _, rfl, ?_, ⟨_, rfl⟩, hW, hsame.mono (by decide) (by decide)⟩
 ·show S_ p e below T6 m 9 #[vr x_] [] _
  exact X6.returnOut hx Bd.returns (hb hby d10_9) hr
 ·show Q_abl Z x_ h0 n0 _ T6.heap _
  rw [e6]
  exact ⟨rfl, N8, kp10, (E0_.wr W6), f11⟩
theorem pn_java_util_ArrayList : plainName nm12 = true := by first | (simp [plainName, overriddenIn]; done) | decide +kernel
theorem d11_0 : decode jdk_38_method_2_code 0 = .ok (.aload_n 0, 1) := by decide +kernel
theorem d11_1 : decode jdk_38_method_2_code 1 = .ok (.invokespecial 1, 3) := by decide +kernel
theorem d11_4 : decode jdk_38_method_2_code 4 = .ok (.aload_n 0, 1) := by decide +kernel
theorem d11_5 : decode jdk_38_method_2_code 5 = .ok (.getstatic 39, 3) := by decide +kernel
theorem d11_8 : decode jdk_38_method_2_code 8 = .ok (.putfield 9, 3) := by decide +kernel
theorem d11_11 : decode jdk_38_method_2_code 11 = .ok (.return_, 1) := by decide +kernel
theorem ef_al (m : MethodId) (x_ : Addr) : entryFrame m #[(rr x_)] 1 = mkF m 0 #[vr x_] [] := by first | (simp [entryFrame, mkF, argsToLocals, Value.category]; done) | rfl
def Q_al (Z : State) (x_ : Addr) (d_ : Addr) (h0 : Heap) (n0 : Nat) (v : Option Value) (h : Heap) (L : List Loc) : Prop := v = none ∧ Fr n0 L ∧ Keep h0 h [x_] ∧ Exa Z h x_ nm12
set_option maxRecDepth 65536 in
set_option maxHeartbeats 40000000 in
theorem rm_al (l : Launch) (Z : State) (a0 : Array Value) (hw : HW Z a0) (ws : List Jvm.Cond) (x_ : Addr) (d_ : Addr) (h0 : Heap) (n0 : Nat) (O0 : Old Z n0 h0) (E0_ : Exa Z h0 x_ nm12) (F1_ : Fld Z h0 x_ nm26 "modCount" "I" (ii 0)) (F2_ : Fld Z h0 x_ nm12 "elementData" nm19 .null) (G3_ : n0 ≤ x_) (ZS4_ : Sta Z Z.heap nm12 "DEFAULTCAPACITY_EMPTY_ELEMENTDATA" nm19 (rr d_)) :
  MFP l Z (⟨nm12, "<init>", "()V"⟩ : MethodName) jdk_38_method_2_code 1 none ({ frames := 3, cells := 0, slots := 0, locals := 36 } : Room) ws #[(rr x_)] h0 (Q_al Z x_ d_ h0 n0) := by
 refine MetFree.of_bodySF (plainFor_of_name pn_java_util_ArrayList) hisR ?_
 intro p e s m args below meth c s₁ Bd hml0 hP hK
 obtain ⟨rfl, hZ, hh⟩ := hP
 have hx := Bd.exec
 have hby := Bd.bytes
 have hml : c.maxLocals = 1 := hml0
 have hown : s.vm.findClass nm12 = some m.cls := findClass_of_methodNamed Bd.named
 have hnm := (name_of_methodNamed Bd.named Bd.method).1
 have X0 : Stand p l e ({ frames := 3, cells := 0, slots := 0, locals := 36 } : Room) s m #[(rr x_)] below meth c s₁ [] 0 0 := Stand.of_body Bd
 have e0 : s₁.heap = h0 := by rw [← hh, Bd.state]; rfl
 have N0 := Fr.nil n0
 have kp0 : Keep h0 h0 [x_] := Keep.refl _ _
 have c0 : ∀ t, S_ p e below s₁ m 0 #[vr x_] [] t → Steps p.tables e below (s₁.setTop (entryFrame m #[(rr x_)] 1)) t := fun t k => castTop (ef_al m x_) k
 generalize s₁.setTop (entryFrame m #[(rr x_)] 1) = st0 at c0 ⊢
 replace c0 : Kt p e below s₁ st0 (mkF m 0 #[vr x_] []) := c0
 have c1 : Kt p e below s₁ st0 (mkF m 1 #[vr x_] [(rr x_)]) := fun t k => by
  refine c0 t ?_
  show S_ p e below s₁ m 0 #[vr x_] [] t
  refine XS.aloadN X0.here hx rfl (hb hby d11_0) rfl rfl ?_
  exact k
 obtain ⟨_, T2, L2, X2, hQ2, c2⟩ := kspec X0 hx hZ hown (w51 hw) (w52 hw) (w55 hw) (w56 hw) (rm_abl l Z a0 hw [] x_ h0 n0 O0 E0_ F1_ F2_ G3_) e0 c1 hml pd_prV x_ [] [] 0 (hb hby d11_1) rfl rfl rfl rfl rfl rfl
 obtain ⟨rfl, N3q, K4, p5, p6⟩ := hQ2
 have N3 := Fr.app N0 N3q
 have o7 := O0.keep K4 (allS G3_ all0)
 have kp8 := kp0.trans K4 (allS (Or.inl (List.mem_of_getElem? (i := 0) rfl)) all0)
 have c9 : Kt p e below T2 st0 (mkF m 5 #[vr x_] [(rr x_)]) := fun t k => by
  refine c2 t ?_
  show S_ p e below T2 m 4 #[vr x_] [] t
  refine XS.aloadN X2.here hx rfl (hb hby d11_4) rfl rfl ?_
  exact k
 obtain ⟨T10, X10, e10, c10⟩ := kgetS X2 hx hZ hown (host := "") (Or.inl (w66 hw)) Via.refl rfl (ZS4_.ext o7.2) c9 rfl (hb hby d11_5)
 obtain ⟨T11, h11, X11, e11, W11, f12, o14, N13, c11⟩ := kput X10 hx hZ (.array (.object nm8)) hown (host := "") (Or.inl (w67 hw)) Via.refl e10 p6 p5 (Or.inl (w68 hw)) (w46 hw) c10 rfl rfl (hb hby d11_8) (by decide) rfl rfl o7 N3 G3_
 have kp15 := kp8.wr W11 (Or.inl (List.mem_of_getElem? (i := 0) rfl))
 obtain ⟨fs, hr, hrun, hended, hW, hsame⟩ := X11.leave (v := none) (fun _ => rfl)
 refine ⟨_, _, c11 _ ?_, hrun, hended, _, _, rfl, ?_, ⟨_, rfl⟩, hW, hsame.mono (by decide) (by decide)⟩
 ·show S_ p e below T11 m 11 #[vr x_] [] _
  exact X11.returnOut hx Bd.returns (hb hby d11_11) hr
 ·show Q_al Z x_ d_ h0 n0 _ T11.heap _
  rw [e11]
  exact ⟨rfl, N13, kp15, (p5.wr W11)⟩
theorem pn_java_lang_Record : plainName "java/lang/Record" = true := by first | (simp [plainName, overriddenIn]; done) | decide +kernel
theorem d12_0 : decode jdk_30_method_1_code 0 = .ok (.aload_n 0, 1) := by decide +kernel
theorem d12_1 : decode jdk_30_method_1_code 1 = .ok (.invokespecial 1, 3) := by decide +kernel
theorem d12_4 : decode jdk_30_method_1_code 4 = .ok (.return_, 1) := by decide +kernel
theorem ef_rec (m : MethodId) (x_ : Addr) : entryFrame m #[(rr x_)] 1 = mkF m 0 #[vr x_] [] := by first | (simp [entryFrame, mkF, argsToLocals, Value.category]; done) | rfl
def Q_rec (Z : State) (x_ : Addr) (h0 : Heap) (n0 : Nat) (v : Option Value) (h : Heap) (L : List Loc) : Prop := v = none ∧ Fr n0 L ∧ h = h0
set_option maxRecDepth 65536 in
set_option maxHeartbeats 40000000 in
theorem rm_rec (l : Launch) (Z : State) (a0 : Array Value) (hw : HW Z a0) (ws : List Jvm.Cond) (x_ : Addr) (h0 : Heap) (n0 : Nat) (O0 : Old Z n0 h0) :
  MFP l Z (⟨"java/lang/Record", "<init>", "()V"⟩ : MethodName) jdk_30_method_1_code 1 none ({ frames := 1, cells := 0, slots := 0, locals := 12 } : Room) ws #[(rr x_)] h0 (Q_rec Z x_ h0 n0) := by
 refine MetFree.of_bodySF (plainFor_of_name pn_java_lang_Record) hisR ?_
 intro p e s m args below meth c s₁ Bd hml0 hP hK
 obtain ⟨rfl, hZ, hh⟩ := hP
 have hx := Bd.exec
 have hby := Bd.bytes
 have hml : c.maxLocals = 1 := hml0
 have hown : s.vm.findClass "java/lang/Record" = some m.cls := findClass_of_methodNamed Bd.named
 have hnm := (name_of_methodNamed Bd.named Bd.method).1
 have X0 : Stand p l e ({ frames := 1, cells := 0, slots := 0, locals := 12 } : Room) s m #[(rr x_)] below meth c s₁ [] 0 0 := Stand.of_body Bd
 have e0 : s₁.heap = h0 := by rw [← hh, Bd.state]; rfl
 have N0 := Fr.nil n0
 have kp0 : Keep h0 h0 [] := Keep.refl _ _
 have c0 : ∀ t, S_ p e below s₁ m 0 #[vr x_] [] t → Steps p.tables e below (s₁.setTop (entryFrame m #[(rr x_)] 1)) t := fun t k => castTop (ef_rec m x_) k
 generalize s₁.setTop (entryFrame m #[(rr x_)] 1) = st0 at c0 ⊢
 replace c0 : Kt p e below s₁ st0 (mkF m 0 #[vr x_] []) := c0
 have c1 : Kt p e below s₁ st0 (mkF m 1 #[vr x_] [(rr x_)]) := fun t k => by
  refine c0 t ?_
  show S_ p e below s₁ m 0 #[vr x_] [] t
  refine XS.aloadN X0.here hx rfl (hb hby d12_0) rfl rfl ?_
  exact k
 obtain ⟨T2, X2, e2, c2⟩ := kinit X0 hx hZ hown (w80 hw) (w27 hw) (w28 hw) e0 c1 rfl hml rfl rfl (hb hby d12_1) 0 (own_w rfl) (by decide) (by decide)
 obtain ⟨fs, hr, hrun, hended, hW, hsame⟩ := X2.leave (v := none) (fun _ => rfl)
 refine ⟨_, _, c2 _ ?_, hrun, hended, _, _, rfl, ?_, ⟨_, rfl⟩, hW, hsame.mono (by decide) (by decide)⟩
 ·show S_ p e below T2 m 4 #[vr x_] [] _
  exact X2.returnOut hx Bd.returns (hb hby d12_4) hr
 ·show Q_rec Z x_ h0 n0 _ T2.heap _
  rw [e2]
  exact ⟨rfl, N0, rfl⟩
theorem pn_com_example_rosterd_rosterd_core_Outcome : plainName nm3 = true := by first | (simp [plainName, overriddenIn]; done) | decide +kernel
theorem d13_0 : decode prog_29_method_1_code 0 = .ok (.aload_n 0, 1) := by decide +kernel
theorem d13_1 : decode prog_29_method_1_code 1 = .ok (.invokespecial 1, 3) := by decide +kernel
theorem d13_4 : decode prog_29_method_1_code 4 = .ok (.aload_n 0, 1) := by decide +kernel
theorem d13_5 : decode prog_29_method_1_code 5 = .ok (.aload_n 1, 1) := by decide +kernel
theorem d13_6 : decode prog_29_method_1_code 6 = .ok (.putfield 7, 3) := by decide +kernel
theorem d13_9 : decode prog_29_method_1_code 9 = .ok (.aload_n 0, 1) := by decide +kernel
theorem d13_10 : decode prog_29_method_1_code 10 = .ok (.aload_n 2, 1) := by decide +kernel
theorem d13_11 : decode prog_29_method_1_code 11 = .ok (.putfield 13, 3) := by decide +kernel
theorem d13_14 : decode prog_29_method_1_code 14 = .ok (.aload_n 0, 1) := by decide +kernel
theorem d13_15 : decode prog_29_method_1_code 15 = .ok (.aload_n 3, 1) := by decide +kernel
theorem d13_16 : decode prog_29_method_1_code 16 = .ok (.putfield 17, 3) := by decide +kernel
theorem d13_19 : decode prog_29_method_1_code 19 = .ok (.aload_n 0, 1) := by decide +kernel
theorem d13_20 : decode prog_29_method_1_code 20 = .ok (.aload 4, 2) := by decide +kernel
theorem d13_22 : decode prog_29_method_1_code 22 = .ok (.putfield 21, 3) := by decide +kernel
theorem d13_25 : decode prog_29_method_1_code 25 = .ok (.return_, 1) := by decide +kernel
theorem ef_oinit (m : MethodId) (x_ : Addr) (i_ : Value) (r_ : Value) (m_ : Value) (l_ : Value) (hi_ : i_.isRef = true) (hr_ : r_.isRef = true) (hm_ : m_.isRef = true) (hl_ : l_.isRef = true) : entryFrame m #[(rr x_), i_, r_, m_, l_] 5 = mkF m 0 #[vr x_, .val i_, .val r_, .val m_, .val l_] [] := by (rcases ref_cases hi_ with rfl | ⟨_, rfl⟩) <;> (rcases ref_cases hr_ with rfl | ⟨_, rfl⟩) <;> (rcases ref_cases hm_ with rfl | ⟨_, rfl⟩) <;> (rcases ref_cases hl_ with rfl | ⟨_, rfl⟩) <;> first | (simp [entryFrame, mkF, argsToLocals, Value.category]; done) | rfl
def Q_oinit (Z : State) (x_ : Addr) (i_ : Value) (r_ : Value) (m_ : Value) (l_ : Value) (h0 : Heap) (n0 : Nat) (v : Option Value) (h : Heap) (L : List Loc) : Prop := v = none ∧ Fr n0 L ∧ Keep h0 h [x_] ∧ Exa Z h x_ nm3 ∧ Fld Z h x_ nm3 "refusal" nm1 r_
set_option maxRecDepth 65536 in
set_option maxHeartbeats 40000000 in
theorem rm_oinit (l : Launch) (Z : State) (a0 : Array Value) (hw : HW Z a0) (ws : List Jvm.Cond) (x_ : Addr) (i_ : Value) (r_ : Value) (m_ : Value) (l_ : Value) (h0 : Heap) (n0 : Nat) (O0 : Old Z n0 h0) (E0_ : Exa Z h0 x_ nm3) (F1_ : Fld Z h0 x_ nm3 "item" "Ljava/lang/Object;" .null) (F2_ : Fld Z h0 x_ nm3 "refusal" nm1 .null) (F3_ : Fld Z h0 x_ nm3 "message" nm20 .null) (F4_ : Fld Z h0 x_ nm3 "bindingTargets" nm10 .null) (G5_ : n0 ≤ x_) (hi_ : i_.isRef = true) (hr_ : r_.isRef = true) (hm_ : m_.isRef = true) (hl_ : l_.isRef = true) :
  MFP l Z (⟨nm3, "<init>", "(Ljava/lang/Object;Lcom/example/rosterd/rosterd/core/Refusal;Ljava/lang/String;Ljava/util/List;)V"⟩ : MethodName) prog_29_method_1_code 5 none ({ frames := 2, cells := 0, slots := 0, locals := 24 } : Room) ws #[(rr x_), i_, r_, m_, l_] h0 (Q_oinit Z x_ i_ r_ m_ l_ h0 n0) := by
 refine MetFree.of_bodySF (plainFor_of_name pn_com_example_rosterd_rosterd_core_Outcome) hisR ?_
 intro p e s m args below meth c s₁ Bd hml0 hP hK
 obtain ⟨rfl, hZ, hh⟩ := hP
 have hx := Bd.exec
 have hby := Bd.bytes
 have hml : c.maxLocals = 5 := hml0
 have hown : s.vm.findClass nm3 = some m.cls := findClass_of_methodNamed Bd.named
 have hnm := (name_of_methodNamed Bd.named Bd.method).1
 have X0 : Stand p l e ({ frames := 2, cells := 0, slots := 0, locals := 24 } : Room) s m #[(rr x_), i_, r_, m_, l_] below meth c s₁ [] 0 0 := Stand.of_body Bd
 have e0 : s₁.heap = h0 := by rw [← hh, Bd.state]; rfl
 have N0 := Fr.nil n0
 have kp0 : Keep h0 h0 [x_] := Keep.refl _ _
 have c0 : ∀ t, S_ p e below s₁ m 0 #[vr x_, .val i_, .val r_, .val m_, .val l_] [] t → Steps p.tables e below (s₁.setTop (entryFrame m #[(rr x_), i_, r_, m_, l_] 5)) t := fun t k => castTop (ef_oinit m x_ i_ r_ m_ l_ hi_ hr_ hm_ hl_) k
 generalize s₁.setTop (entryFrame m #[(rr x_), i_, r_, m_, l_] 5) = st0 at c0 ⊢
 replace c0 : Kt p e below s₁ st0 (mkF m 0 #[vr x_, .val i_, .val r_, .val m_, .val l_] []) := c0
 have c1 : Kt p e below s₁ st0 (mkF m 1 #[vr x_, .val i_, .val r_, .val m_, .val l_] [(rr x_)]) := fun t k => by
  refine c0 t ?_
  show S_ p e below s₁ m 0 #[vr x_, .val i_, .val r_, .val m_, .val l_] [] t
  refine XS.aloadN X0.here hx rfl (hb hby d13_0) rfl rfl ?_
  exact k
 obtain ⟨_, T2, L2, X2, hQ2, c2⟩ := kspec X0 hx hZ hown (w75 hw) (w76 hw) (w78 hw) (w79 hw) (rm_rec l Z a0 hw [] x_ h0 n0 O0 ) e0 c1 hml pd_prV x_ [] [] 0 (hb hby d13_1) rfl rfl rfl rfl rfl rfl
 obtain ⟨rfl, N3q, K4⟩ := hQ2
 have N3 := Fr.app N0 N3q
 have c5 : Kt p e below T2 st0 (mkF m 6 #[vr x_, .val i_, .val r_, .val m_, .val l_] [i_, (rr x_)]) := fun t k => by
  refine c2 t ?_
  show S_ p e below T2 m 4 #[vr x_, .val i_, .val r_, .val m_, .val l_] [] t
  refine XS.aloadN X2.here hx rfl (hb hby d13_4) rfl rfl ?_
  show S_ p e below T2 m 5 #[vr x_, .val i_, .val r_, .val m_, .val l_] [(rr x_)] t
  refine XS.aloadN X2.here hx rfl (hb hby d13_5) rfl hi_ ?_
  exact k
 obtain ⟨T6, h6, X6, e6, W6, f7, o9, N8, c6⟩ := kput X2 hx hZ (.object nm8) hown (host := "") (Or.inl (w81 hw)) Via.refl K4 F1_ E0_ (Or.inr ⟨(w82 hw), rfl, hnm⟩) (w70 hw) c5 rfl rfl (hb hby d13_6) (by decide) (narrow_isRef _ hi_) (by rcases ref_cases hi_ with q | ⟨_, q⟩ <;> rw [q] <;> rfl) O0 N3 G5_
 have kp10 := kp0.wr W6 (Or.inl (List.mem_of_getElem? (i := 0) rfl))
 have f11 := F2_.other W6 (Or.inr (slot_ne (Or.inr (w84 hw)) (Or.inr (w82 hw)) (by decide) (t := (.object nm0)) (t' := (.object nm8)) (by decide) (by decide)))
 have c12 : Kt p e below T6 st0 (mkF m 11 #[vr x_, .val i_, .val r_, .val m_, .val l_] [r_, (rr x_)]) := fun t k => by
  refine c6 t ?_
  show S_ p e below T6 m 9 #[vr x_, .val i_, .val r_, .val m_, .val l_] [] t
  refine XS.aloadN X6.here hx rfl (hb hby d13_9) rfl rfl ?_
  show S_ p e below T6 m 10 #[vr x_, .val i_, .val r_, .val m_, .val l_] [(rr x_)] t
  refine XS.aloadN X6.here hx rfl (hb hby d13_10) rfl hr_ ?_
  exact k
 obtain ⟨T13, h13, X13, e13, W13, f14, o16, N15, c13⟩ := kput X6 hx hZ (.object nm0) hown (host := "") (Or.inl (w83 hw)) Via.refl e6 f11 (E0_.wr W6) (Or.inr ⟨(w84 hw), rfl, hnm⟩) (w70 hw) c12 rfl rfl (hb hby d13_11) (by decide) (narrow_isRef _ hr_) (by rcases ref_cases hr_ with q | ⟨_, q⟩ <;> rw [q] <;> rfl) o9 N8 G5_
 have kp17 := kp10.wr W13 (Or.inl (List.mem_of_getElem? (i := 0) rfl))
 have f18 := (F3_.other W6 (Or.inr (slot_ne (Or.inr (w86 hw)) (Or.inr (w82 hw)) (by decide) (t := (.object nm6)) (t' := (.object nm8)) (by decide) (by decide)))).other W13 (Or.inr (slot_ne (Or.inr (w86 hw)) (Or.inr (w84 hw)) (by decide) (t := (.object nm6)) (t' := (.object nm0)) (by decide) (by decide)))
 have c19 : Kt p e below T13 st0 (mkF m 16 #[vr x_, .val i_, .val r_, .val m_, .val l_] [m_, (rr x_)]) := fun t k => by
  refine c13 t ?_
  show S_ p e below T13 m 14 #[vr x_, .val i_, .val r_, .val m_, .val l_] [] t
  refine XS.aloadN X13.here hx rfl (hb hby d13_14) rfl rfl ?_
  show S_ p e below T13 m 15 #[vr x_, .val i_, .val r_, .val m_, .val l_] [(rr x_)] t
  refine XS.aloadN X13.here hx rfl (hb hby d13_15) rfl hm_ ?_
  exact k
 obtain ⟨T20, h20, X20, e20, W20, f21, o23, N22, c20⟩ := kput X13 hx hZ (.object nm6) hown (host := "") (Or.inl (w85 hw)) Via.refl e13 f18 ((E0_.wr W6).wr W13) (Or.inr ⟨(w86 hw), rfl, hnm⟩) (w70 hw) c19 rfl rfl (hb hby d13_16) (by decide) (narrow_isRef _ hm_) (by rcases ref_cases hm_ with q | ⟨_, q⟩ <;> rw [q] <;> rfl) o16 N15 G5_
 have kp24 := kp17.wr W20 (Or.inl (List.mem_of_getElem? (i := 0) rfl))
 have f25 := ((F4_.other W6 (Or.inr (slot_ne (Or.inr (w88 hw)) (Or.inr (w82 hw)) (by decide) (t := (.object nm7)) (t' := (.object nm8)) (by decide) (by decide)))).other W13 (Or.inr (slot_ne (Or.inr (w88 hw)) (Or.inr (w84 hw)) (by decide) (t := (.object nm7)) (t' := (.object nm0)) (by decide) (by decide)))).other W20 (Or.inr (slot_ne (Or.inr (w88 hw)) (Or.inr (w86 hw)) (by decide) (t := (.object nm7)) (t' := (.object nm6)) (by decide) (by decide)))
 have c26 : Kt p e below T20 st0 (mkF m 22 #[vr x_, .val i_, .val r_, .val m_, .val l_] [l_, (rr x_)]) := fun t k => by
  refine c20 t ?_
  show S_ p e below T20 m 19 #[vr x_, .val i_, .val r_, .val m_, .val l_] [] t
  refine XS.aloadN X20.here hx rfl (hb hby d13_19) rfl rfl ?_
  show S_ p e below T20 m 20 #[vr x_, .val i_, .val r_, .val m_, .val l_] [(rr x_)] t
  refine XS.aload X20.here hx rfl (hb hby d13_20) rfl hl_ ?_
  exact k
 obtain ⟨T27, h27, X27, e27, W27, f28, o30, N29, c27⟩ := kput X20 hx hZ (.object nm7) hown (host := "") (Or.inl (w87 hw)) Via.refl e20 f25 (((E0_.wr W6).wr W13).wr W20) (Or.inr ⟨(w88 hw), rfl, hnm⟩) (w70 hw) c26 rfl rfl (hb hby d13_22) (by decide) (narrow_isRef _ hl_) (by rcases ref_cases hl_ with q | ⟨_, q⟩ <;> rw [q] <;> rfl) o23 N22 G5_
 have kp31 := kp24.wr W27 (Or.inl (List.mem_of_getElem? (i := 0) rfl))
 have f32 := (f14.other W20 (Or.inr (slot_ne (Or.inr (w84 hw)) (Or.inr (w86 hw)) (by decide) (t := (.object nm0)) (t' := (.object nm6)) (by decide) (by decide)))).other W27 (Or.inr (slot_ne (Or.inr (w84 hw)) (Or.inr (w88 hw)) (by decide) (t := (.object nm0)) (t' := (.object nm7)) (by decide) (by decide)))
 obtain ⟨fs, hr, hrun, hended, hW, hsame⟩ := X27.leave (v := none) (fun _ => rfl)
 refine ⟨_, _, c27 _ ?_, hrun, hended, _, _, rfl, ?_, ⟨_, rfl⟩, hW, hsame.mono (by decide) (by decide)⟩
 ·show S_ p e below T27 m 25 #[vr x_, .val i_, .val r_, .val m_, .val l_] [] _
  exact X27.returnOut hx Bd.returns (hb hby d13_25) hr
 ·show Q_oinit Z x_ i_ r_ m_ l_ h0 n0 _ T27.heap _
  rw [e27]
  exact ⟨rfl, N29, kp31, ((((E0_.wr W6).wr W13).wr W20).wr W27), f32⟩
theorem d14_0 : decode prog_29_method_4_code 0 = .ok (.aload_n 0, 1) := by decide +kernel
theorem d14_1 : decode prog_29_method_4_code 1 = .ok (.getfield 13, 3) := by decide +kernel
theorem d14_4 : decode prog_29_method_4_code 4 = .ok (.ifnonnull 7, 3) := by decide +kernel
theorem d14_7 : decode prog_29_method_4_code 7 = .ok (.iconst 1, 1) := by decide +kernel
theorem d14_8 : decode prog_29_method_4_code 8 = .ok (.goto 4, 3) := by decide +kernel
theorem d14_12 : decode prog_29_method_4_code 12 = .ok (.ireturn, 1) := by decide +kernel
theorem ef_sucN (m : MethodId) (x_ : Addr) : entryFrame m #[(rr x_)] 1 = mkF m 0 #[vr x_] [] := by first | (simp [entryFrame, mkF, argsToLocals, Value.category]; done) | rfl
def Q_sucN (Z : State) (x_ : Addr) (h0 : Heap) (n0 : Nat) (v : Option Value) (h : Heap) (L : List Loc) : Prop := v = some (ii 1) ∧ Fr n0 L ∧ h = h0
set_option maxRecDepth 65536 in
set_option maxHeartbeats 40000000 in
theorem rm_sucN (l : Launch) (Z : State) (a0 : Array Value) (hw : HW Z a0) (ws : List Jvm.Cond) (x_ : Addr) (h0 : Heap) (n0 : Nat) (O0 : Old Z n0 h0) (F0_ : Fld Z h0 x_ nm3 "refusal" nm1 .null) :
  MFP l Z (⟨nm3, "succeeded", "()Z"⟩ : MethodName) prog_29_method_4_code 1 (some .boolean) ({ frames := 0, cells := 0, slots := 0, locals := 0 } : Room) ws #[(rr x_)] h0 (Q_sucN Z x_ h0 n0) := by
 refine MetFree.of_bodySF (plainFor_of_name pn_com_example_rosterd_rosterd_core_Outcome) hisR ?_
 intro p e s m args below meth c s₁ Bd hml0 hP hK
 obtain ⟨rfl, hZ, hh⟩ := hP
 have hx := Bd.exec
 have hby := Bd.bytes
 have hml : c.maxLocals = 1 := hml0
 have hown : s.vm.findClass nm3 = some m.cls := findClass_of_methodNamed Bd.named
 have hnm := (name_of_methodNamed Bd.named Bd.method).1
 have X0 : Stand p l e ({ frames := 0, cells := 0, slots := 0, locals := 0 } : Room) s m #[(rr x_)] below meth c s₁ [] 0 0 := Stand.of_body Bd
 have e0 : s₁.heap = h0 := by rw [← hh, Bd.state]; rfl
 have N0 := Fr.nil n0
 have kp0 : Keep h0 h0 [] := Keep.refl _ _
 have c0 : ∀ t, S_ p e below s₁ m 0 #[vr x_] [] t → Steps p.tables e below (s₁.setTop (entryFrame m #[(rr x_)] 1)) t := fun t k => castTop (ef_sucN m x_) k
 generalize s₁.setTop (entryFrame m #[(rr x_)] 1) = st0 at c0 ⊢
 replace c0 : Kt p e below s₁ st0 (mkF m 0 #[vr x_] []) := c0
 have c1 : Kt p e below s₁ st0 (mkF m 1 #[vr x_] [(rr x_)]) := fun t k => by
  refine c0 t ?_
  show S_ p e below s₁ m 0 #[vr x_] [] t
  refine XS.aloadN X0.here hx rfl (hb hby d14_0) rfl rfl ?_
  exact k
 obtain ⟨T2, X2, e2, c2⟩ := kget X0 hx hZ hown (host := "") (Or.inl (w83 hw)) Via.refl e0 F0_ c1 rfl rfl (hb hby d14_1)
 obtain ⟨fs, hr, hrun, hended, hW, hsame⟩ := X2.leave (v := some (ii 1)) (fun h => by rw [Bd.returns] at h; cases h)
 refine ⟨_, _, c2 _ ?_, hrun, hended, _, _, rfl, ?_, ⟨_, rfl⟩, hW, hsame.mono (by decide) (by decide)⟩
 ·show S_ p e below T2 m 4 #[vr x_] [.null] _
  refine XS.ifnonnullNo X2.here hx rfl (hb hby d14_4) rfl ?_
  show S_ p e below T2 m 7 #[vr x_] [] _
  refine XS.iconst X2.here hx rfl (hb hby d14_7) ?_
  show S_ p e below T2 m 8 #[vr x_] [(ii 1)] _
  refine yG X2.here hx rfl 8 12 rfl (hb hby d14_8) ?_
  show S_ p e below T2 m 12 #[vr x_] [(ii 1)] _
  exact retN X2 hx (t := .boolean) Bd.returns (by simp) (hb hby d14_12) hr
 ·show Q_sucN Z x_ h0 n0 _ T2.heap _
  rw [e2]
  exact ⟨rfl, N0, rfl⟩
theorem d14_11 : decode prog_29_method_4_code 11 = .ok (.iconst 0, 1) := by decide +kernel
theorem ef_sucR (m : MethodId) (x_ : Addr) : entryFrame m #[(rr x_)] 1 = mkF m 0 #[vr x_] [] := by first | (simp [entryFrame, mkF, argsToLocals, Value.category]; done) | rfl
def Q_sucR (Z : State) (x_ : Addr) (r_ : Addr) (h0 : Heap) (n0 : Nat) (v : Option Value) (h : Heap) (L : List Loc) : Prop := v = some (ii 0) ∧ Fr n0 L ∧ h = h0
set_option maxRecDepth 65536 in
set_option maxHeartbeats 40000000 in
theorem rm_sucR (l : Launch) (Z : State) (a0 : Array Value) (hw : HW Z a0) (ws : List Jvm.Cond) (x_ : Addr) (r_ : Addr) (h0 : Heap) (n0 : Nat) (O0 : Old Z n0 h0) (F0_ : Fld Z h0 x_ nm3 "refusal" nm1 (rr r_)) :
  MFP l Z (⟨nm3, "succeeded", "()Z"⟩ : MethodName) prog_29_method_4_code 1 (some .boolean) ({ frames := 0, cells := 0, slots := 0, locals := 0 } : Room) ws #[(rr x_)] h0 (Q_sucR Z x_ r_ h0 n0) := by
 refine MetFree.of_bodySF (plainFor_of_name pn_com_example_rosterd_rosterd_core_Outcome) hisR ?_
 intro p e s m args below meth c s₁ Bd hml0 hP hK
 obtain ⟨rfl, hZ, hh⟩ := hP
 have hx := Bd.exec
 have hby := Bd.bytes
 have hml : c.maxLocals = 1 := hml0
 have hown : s.vm.findClass nm3 = some m.cls := findClass_of_methodNamed Bd.named
 have hnm := (name_of_methodNamed Bd.named Bd.method).1
 have X0 : Stand p l e ({ frames := 0, cells := 0, slots := 0, locals := 0 } : Room) s m #[(rr x_)] below meth c s₁ [] 0 0 := Stand.of_body Bd
 have e0 : s₁.heap = h0 := by rw [← hh, Bd.state]; rfl
 have N0 := Fr.nil n0
 have kp0 : Keep h0 h0 [] := Keep.refl _ _
 have c0 : ∀ t, S_ p e below s₁ m 0 #[vr x_] [] t → Steps p.tables e below (s₁.setTop (entryFrame m #[(rr x_)] 1)) t := fun t k => castTop (ef_sucR m x_) k
 generalize s₁.setTop (entryFrame m #[(rr x_)] 1) = st0 at c0 ⊢
 replace c0 : Kt p e below s₁ st0 (mkF m 0 #[vr x_] []) := c0
 have c1 : Kt p e below s₁ st0 (mkF m 1 #[vr x_] [(rr x_)]) := fun t k => by
  refine c0 t ?_
  show S_ p e below s₁ m 0 #[vr x_] [] t
  refine XS.aloadN X0.here hx rfl (hb hby d14_0) rfl rfl ?_
  exact k
 obtain ⟨T2, X2, e2, c2⟩ := kget X0 hx hZ hown (host := "") (Or.inl (w83 hw)) Via.refl e0 F0_ c1 rfl rfl (hb hby d14_1)
 obtain ⟨fs, hr, hrun, hended, hW, hsame⟩ := X2.leave (v := some (ii 0)) (fun h => by rw [Bd.returns] at h; cases h)
 refine ⟨_, _, c2 _ ?_, hrun, hended, _, _, rfl, ?_, ⟨_, rfl⟩, hW, hsame.mono (by decide) (by decide)⟩
 ·show S_ p e below T2 m 4 #[vr x_] [(rr r_)] _
  refine XS.ifnonnullYes X2.here hx rfl (pc0 := 4) (pc' := 11) rfl (hb hby d14_4) rfl (by decide) (by decide) ?_
  show S_ p e below T2 m 11 #[vr x_] [] _
  refine XS.iconst X2.here hx rfl (hb hby d14_11) ?_
  show S_ p e below T2 m 12 #[vr x_] [(ii 0)] _
  exact retN X2 hx (t := .boolean) Bd.returns (by simp) (hb hby d14_12) hr
 ·show Q_sucR Z x_ r_ h0 n0 _ T2.heap _
  rw [e2]
  exact ⟨rfl, N0, rfl⟩
theorem pn_java_util_List : plainName nm7 = true := by first | (simp [plainName, overriddenIn]; done) | decide +kernel
theorem d15_0 : decode jdk_40_method_36_code 0 = .ok (.getstatic 90, 3) := by decide +kernel
theorem d15_3 : decode jdk_40_method_36_code 3 = .ok (.areturn, 1) := by decide +kernel
theorem ef_listof (m : MethodId) : entryFrame m #[] 0 = mkF m 0 #[] [] := by first | (simp [entryFrame, mkF, argsToLocals, Value.category]; done) | rfl
def Q_listof (Z : State) (e_ : Addr) (h0 : Heap) (n0 : Nat) (v : Option Value) (h : Heap) (L : List Loc) : Prop := v = some (rr e_) ∧ Fr n0 L ∧ h = h0
set_option maxRecDepth 65536 in
set_option maxHeartbeats 40000000 in
theorem rm_listof (l : Launch) (Z : State) (a0 : Array Value) (hw : HW Z a0) (ws : List Jvm.Cond) (e_ : Addr) (h0 : Heap) (n0 : Nat) (O0 : Old Z n0 h0) (ZS0_ : Sta Z Z.heap nm14 "EMPTY_LIST" "Ljava/util/ImmutableCollections$ListN;" (rr e_)) :
  MFP l Z (⟨nm7, "of", "()Ljava/util/List;"⟩ : MethodName) jdk_40_method_36_code 0 (some (.object nm7)) ({ frames := 0, cells := 0, slots := 0, locals := 0 } : Room) ws #[] h0 (Q_listof Z e_ h0 n0) := by
 refine MetFree.of_bodySF (plainFor_of_name pn_java_util_List) hisR ?_
 intro p e s m args below meth c s₁ Bd hml0 hP hK
 obtain ⟨rfl, hZ, hh⟩ := hP
 have hx := Bd.exec
 have hby := Bd.bytes
 have hml : c.maxLocals = 0 := hml0
 have hown : s.vm.findClass nm7 = some m.cls := findClass_of_methodNamed Bd.named
 have hnm := (name_of_methodNamed Bd.named Bd.method).1
 have X0 : Stand p l e ({ frames := 0, cells := 0, slots := 0, locals := 0 } : Room) s m #[] below meth c s₁ [] 0 0 := Stand.of_body Bd
 have e0 : s₁.heap = h0 := by rw [← hh, Bd.state]; rfl
 have N0 := Fr.nil n0
 have kp0 : Keep h0 h0 [] := Keep.refl _ _
 have c0 : ∀ t, S_ p e below s₁ m 0 #[] [] t → Steps p.tables e below (s₁.setTop (entryFrame m #[] 0)) t := fun t k => castTop (ef_listof m) k
 generalize s₁.setTop (entryFrame m #[] 0) = st0 at c0 ⊢
 replace c0 : Kt p e below s₁ st0 (mkF m 0 #[] []) := c0
 obtain ⟨T1, X1, e1, c1⟩ := kgetS X0 hx hZ hown (host := "") (Or.inl (w102 hw)) Via.refl e0 (ZS0_.ext O0.2) c0 rfl (hb hby d15_0)
 obtain ⟨fs, hr, hrun, hended, hW, hsame⟩ := X1.leave (v := some (rr e_)) (fun h => by rw [Bd.returns] at h; cases h)
 refine ⟨_, _, c1 _ ?_, hrun, hended, _, _, rfl, ?_, ⟨_, rfl⟩, hW, hsame.mono (by decide) (by decide)⟩
 ·show S_ p e below T1 m 3 #[] [(rr e_)] _
  exact retOut X1 hx Bd.returns rfl (Or.inr (Or.inr (Or.inr (Or.inr ⟨rfl, rfl, rfl⟩)))) (hb hby d15_3) hr
 ·show Q_listof Z e_ h0 n0 _ T1.heap _
  rw [e1]
  exact ⟨rfl, N0, rfl⟩
theorem d16_0 : decode prog_29_method_2_code 0 = .ok (.new 8, 3) := by decide +kernel
theorem d16_3 : decode prog_29_method_2_code 3 = .ok (.dup, 1) := by decide +kernel
theorem d16_4 : decode prog_29_method_2_code 4 = .ok (.aload_n 0, 1) := by decide +kernel
theorem d16_5 : decode prog_29_method_2_code 5 = .ok (.aconst_null, 1) := by decide +kernel
theorem d16_6 : decode prog_29_method_2_code 6 = .ok (.aconst_null, 1) := by decide +kernel
theorem d16_7 : decode prog_29_method_2_code 7 = .ok (.invokestatic 25, 3) := by decide +kernel
theorem pd_prLjava_util_List_ : parseMethodDescriptor "()Ljava/util/List;" = some ⟨[], some (.object nm7)⟩ := by decide +kernel
theorem d16_10 : decode prog_29_method_2_code 10 = .ok (.invokespecial 31, 3) := by decide +kernel
theorem pd_pLjava_lang_Object_Lcom_example_rosterd_rosterd_core_Refusal_Ljava_lang_String_Ljava_util_List_rV : parseMethodDescriptor "(Ljava/lang/Object;Lcom/example/rosterd/rosterd/core/Refusal;Ljava/lang/String;Ljava/util/List;)V" = some ⟨[(.object nm8), (.object nm0), (.object nm6), (.object nm7)], none⟩ := by decide +kernel
theorem d16_13 : decode prog_29_method_2_code 13 = .ok (.areturn, 1) := by decide +kernel
theorem ef_done (m : MethodId) (i_ : Value) (hi_ : i_.isRef = true) : entryFrame m #[i_] 1 = mkF m 0 #[.val i_] [] := by (rcases ref_cases hi_ with rfl | ⟨_, rfl⟩) <;> first | (simp [entryFrame, mkF, argsToLocals, Value.category]; done) | rfl
def Q_done (Z : State) (i_ : Value) (e_ : Addr) (h0 : Heap) (n0 : Nat) (v : Option Value) (h : Heap) (L : List Loc) : Prop := ∃ (o_ : Addr), v = some (rr o_) ∧ Fr n0 L ∧ Keep h0 h [] ∧ Exa Z h o_ nm3 ∧ Fld Z h o_ nm3 "refusal" nm1 .null
set_option maxRecDepth 65536 in
set_option maxHeartbeats 40000000 in
theorem rm_done (l : Launch) (Z : State) (a0 : Array Value) (hw : HW Z a0) (ws : List Jvm.Cond) (i_ : Value) (e_ : Addr) (h0 : Heap) (n0 : Nat) (O0 : Old Z n0 h0) (ZS0_ : Sta Z Z.heap nm14 "EMPTY_LIST" "Ljava/util/ImmutableCollections$ListN;" (rr e_)) (hi_ : i_.isRef = true) :
  MFP l Z (⟨nm3, "done", "(Ljava/lang/Object;)Lcom/example/rosterd/rosterd/core/Outcome;"⟩ : MethodName) prog_29_method_2_code 1 (some (.object nm3)) ({ frames := 3, cells := 1, slots := 4, locals := 41 } : Room) ws #[i_] h0 (Q_done Z i_ e_ h0 n0) := by
 refine MetFree.of_bodySF (plainFor_of_name pn_com_example_rosterd_rosterd_core_Outcome) hisR ?_
 intro p e s m args below meth c s₁ Bd hml0 hP hK
 obtain ⟨rfl, hZ, hh⟩ := hP
 have hx := Bd.exec
 have hby := Bd.bytes
 have hml : c.maxLocals = 1 := hml0
 have hown : s.vm.findClass nm3 = some m.cls := findClass_of_methodNamed Bd.named
 have hnm := (name_of_methodNamed Bd.named Bd.method).1
 have X0 : Stand p l e ({ frames := 3, cells := 1, slots := 4, locals := 41 } : Room) s m #[i_] below meth c s₁ [] 0 0 := Stand.of_body Bd
 have e0 : s₁.heap = h0 := by rw [← hh, Bd.state]; rfl
 have N0 := Fr.nil n0
 have kp0 : Keep h0 h0 [] := Keep.refl _ _
 have c0 : ∀ t, S_ p e below s₁ m 0 #[.val i_] [] t → Steps p.tables e below (s₁.setTop (entryFrame m #[i_] 1)) t := fun t k => castTop (ef_done m i_ hi_) k
 generalize s₁.setTop (entryFrame m #[i_] 1) = st0 at c0 ⊢
 replace c0 : Kt p e below s₁ st0 (mkF m 0 #[.val i_] []) := c0
 obtain ⟨b1, T1, h1, z1, g1, X1, e1, E1, o2, A1, D1, U1, c1⟩ := knew X0 hx hZ hown (w97 hw) (w70 hw) (w71 hw) e0 c0 rfl (hb hby d16_0) (by decide) (by decide) O0
 have kp3 := kp0.ext E1
 have z4 := Nat.le_trans kp0.1 z1
 have c5 : Kt p e below T1 st0 (mkF m 7 #[.val i_] [.null, .null, i_, (rr b1), (rr b1)]) := fun t k => by
  refine c1 t ?_
  show S_ p e below T1 m 3 #[.val i_] [(rr b1)] t
  refine XS.dup X1.here hx rfl (hb hby d16_3) rfl rfl ?_
  show S_ p e below T1 m 4 #[.val i_] [(rr b1), (rr b1)] t
  refine XS.aloadN X1.here hx rfl (hb hby d16_4) rfl hi_ ?_
  show S_ p e below T1 m 5 #[.val i_] [i_, (rr b1), (rr b1)] t
  refine XS.aconstNull X1.here hx rfl (hb hby d16_5) ?_
  show S_ p e below T1 m 6 #[.val i_] [.null, i_, (rr b1), (rr b1)] t
  refine XS.aconstNull X1.here hx rfl (hb hby d16_6) ?_
  exact k
 obtain ⟨_, T6, L6, X6, hQ6, c6⟩ := kstat X1 hx hZ hown (w98 hw) (w99 hw) (w100 hw) (w101 hw) (rm_listof l Z a0 hw [] e_ h1 n0 o2 ZS0_) e1 c5 hml pd_prLjava_util_List_ [] [.null, .null, i_, (rr b1), (rr b1)] 5 (hb hby d16_7) rfl rfl rfl rfl rfl (by rcases ref_cases hi_ with q0 | ⟨_, q0⟩ <;> rw [q0] <;> rfl)
 obtain ⟨rfl, N7q, K8⟩ := hQ6
 have N7 := Fr.app N0 N7q
 obtain ⟨_, T9, L9, X9, hQ9, c9⟩ := kspec X6 hx hZ hown (w104 hw) (w73 hw) (w71 hw) (w74 hw) (rm_oinit l Z a0 hw [] b1 i_ (.null) (.null) (rr e_) h1 n0 o2 A1 (show Fld Z h1 b1 nm3 "item" "Ljava/lang/Object;" .null from D1 (Or.inr (w82 hw)) (ty := (.object nm8)) (by decide)) (show Fld Z h1 b1 nm3 "refusal" nm1 .null from D1 (Or.inr (w84 hw)) (ty := (.object nm0)) (by decide)) (show Fld Z h1 b1 nm3 "message" nm20 .null from D1 (Or.inr (w86 hw)) (ty := (.object nm6)) (by decide)) (show Fld Z h1 b1 nm3 "bindingTargets" nm10 .null from D1 (Or.inr (w88 hw)) (ty := (.object nm7)) (by decide)) g1 hi_ rfl rfl rfl) K8 c6 hml pd_pLjava_lang_Object_Lcom_example_rosterd_rosterd_core_Refusal_Ljava_lang_String_Ljava_util_List_rV b1 [i_, .null, .null, (rr e_)] [(rr b1)] 1 (hb hby d16_10) rfl rfl rfl rfl rfl rfl
 obtain ⟨rfl, N10q, K11, p12, p13⟩ := hQ9
 have N10 := Fr.app N7 N10q
 have o14 := o2.keep K11 (allS g1 all0)
 have kp15 := kp3.trans K11 (allS (Or.inr z4) all0)
 obtain ⟨fs, hr, hrun, hended, hW, hsame⟩ := X9.leave (v := some (rr b1)) (fun h => by rw [Bd.returns] at h; cases h)
 refine ⟨_, _, c9 _ ?_, hrun, hended, _, _, rfl, ?_, ⟨_, rfl⟩, hW, hsame.mono (by decide) (by decide)⟩
 ·show S_ p e below T9 m 13 #[.val i_] [(rr b1)] _
  exact retOut X9 hx Bd.returns rfl (Or.inr (Or.inr (Or.inr (Or.inr ⟨rfl, rfl, rfl⟩)))) (hb hby d16_13) hr
 ·show Q_done Z i_ e_ h0 n0 _ T9.heap _
  exact ⟨b1, rfl, N10, kp15, p12, p13⟩
theorem pn_java_util_Objects : plainName "java/util/Objects" = true := by first | (simp [plainName, overriddenIn]; done) | decide +kernel
theorem d17_0 : decode jdk_31_method_11_code 0 = .ok (.aload_n 0, 1) := by decide +kernel
theorem d17_1 : decode jdk_31_method_11_code 1 = .ok (.ifnonnull 12, 3) := by decide +kernel
theorem d17_13 : decode jdk_31_method_11_code 13 = .ok (.aload_n 0, 1) := by decide +kernel
theorem d17_14 : decode jdk_31_method_11_code 14 = .ok (.areturn, 1) := by decide +kernel
theorem ef_rnn (m : MethodId) (r_ : Addr) (a_ : Addr) : entryFrame m #[(rr r_), (rr a_)] 2 = mkF m 0 #[vr r_, vr a_] [] := by first | (simp [entryFrame, mkF, argsToLocals, Value.category]; done) | rfl
def Q_rnn (Z : State) (r_ : Addr) (a_ : Addr) (h0 : Heap) (n0 : Nat) (v : Option Value) (h : Heap) (L : List Loc) : Prop := v = some (rr r_) ∧ Fr n0 L ∧ h = h0
set_option maxRecDepth 65536 in
set_option maxHeartbeats 40000000 in
theorem rm_rnn (l : Launch) (Z : State) (a0 : Array Value) (hw : HW Z a0) (ws : List Jvm.Cond) (r_ : Addr) (a_ : Addr) (h0 : Heap) (n0 : Nat) (O0 : Old Z n0 h0) :
  MFP l Z (⟨"java/util/Objects", "requireNonNull", "(Ljava/lang/Object;Ljava/lang/String;)Ljava/lang/Object;"⟩ : MethodName) jdk_31_method_11_code 2 (some (.object nm8)) ({ frames := 0, cells := 0, slots := 0, locals := 0 } : Room) ws #[(rr r_), (rr a_)] h0 (Q_rnn Z r_ a_ h0 n0) := by
 refine MetFree.of_bodySF (plainFor_of_name pn_java_util_Objects) hisR ?_
 intro p e s m args below meth c s₁ Bd hml0 hP hK
 obtain ⟨rfl, hZ, hh⟩ := hP
 have hx := Bd.exec
 have hby := Bd.bytes
 have hml : c.maxLocals = 2 := hml0
 have hown : s.vm.findClass "java/util/Objects" = some m.cls := findClass_of_methodNamed Bd.named
 have hnm := (name_of_methodNamed Bd.named Bd.method).1
 have X0 : Stand p l e ({ frames := 0, cells := 0, slots := 0, locals := 0 } : Room) s m #[(rr r_), (rr a_)] below meth c s₁ [] 0 0 := Stand.of_body Bd
 have e0 : s₁.heap = h0 := by rw [← hh, Bd.state]; rfl
 have N0 := Fr.nil n0
 have kp0 : Keep h0 h0 [] := Keep.refl _ _
 have c0 : ∀ t, S_ p e below s₁ m 0 #[vr r_, vr a_] [] t → Steps p.tables e below (s₁.setTop (entryFrame m #[(rr r_), (rr a_)] 2)) t := fun t k => castTop (ef_rnn m r_ a_) k
 generalize s₁.setTop (entryFrame m #[(rr r_), (rr a_)] 2) = st0 at c0 ⊢
 replace c0 : Kt p e below s₁ st0 (mkF m 0 #[vr r_, vr a_] []) := c0
 obtain ⟨fs, hr, hrun, hended, hW, hsame⟩ := X0.leave (v := some (rr r_)) (fun h => by rw [Bd.returns] at h; cases h)
 refine ⟨_, _, c0 _ ?_, hrun, hended, _, _, rfl, ?_, ⟨_, rfl⟩, hW, hsame.mono (by decide) (by decide)⟩
 ·show S_ p e below s₁ m 0 #[vr r_, vr a_] [] _
  refine XS.aloadN X0.here hx rfl (hb hby d17_0) rfl rfl ?_
  show S_ p e below s₁ m 1 #[vr r_, vr a_] [(rr r_)] _
  refine XS.ifnonnullYes X0.here hx rfl (pc0 := 1) (pc' := 13) rfl (hb hby d17_1) rfl (by decide) (by decide) ?_
  show S_ p e below s₁ m 13 #[vr r_, vr a_] [] _
  refine XS.aloadN X0.here hx rfl (hb hby d17_13) rfl rfl ?_
  show S_ p e below s₁ m 14 #[vr r_, vr a_] [(rr r_)] _
  exact retOut X0 hx Bd.returns rfl (Or.inr (Or.inr (Or.inr (Or.inr ⟨rfl, rfl, rfl⟩)))) (hb hby d17_14) hr
 ·show Q_rnn Z r_ a_ h0 n0 _ s₁.heap _
  rw [e0]
  exact ⟨rfl, N0, rfl⟩
theorem pn_java_util_ImmutableCollections : plainName nm14 = true := by first | (simp [plainName, overriddenIn]; done) | decide +kernel
theorem d18_0 : decode jdk_56_method_3_code 0 = .ok (.aload_n 0, 1) := by decide +kernel
theorem d18_1 : decode jdk_56_method_3_code 1 = .ok (.instanceof 10, 3) := by decide +kernel
theorem d18_4 : decode jdk_56_method_3_code 4 = .ok (.ifCond .ne 22, 3) := by decide +kernel
theorem d18_7 : decode jdk_56_method_3_code 7 = .ok (.aload_n 0, 1) := by decide +kernel
theorem d18_8 : decode jdk_56_method_3_code 8 = .ok (.instanceof 12, 3) := by decide +kernel
theorem d18_11 : decode jdk_56_method_3_code 11 = .ok (.ifCond .eq 20, 3) := by decide +kernel
theorem d18_14 : decode jdk_56_method_3_code 14 = .ok (.aload_n 0, 1) := by decide +kernel
theorem d18_15 : decode jdk_56_method_3_code 15 = .ok (.checkcast 12, 3) := by decide +kernel
theorem d18_18 : decode jdk_56_method_3_code 18 = .ok (.astore_n 1, 1) := by decide +kernel
theorem d18_19 : decode jdk_56_method_3_code 19 = .ok (.aload_n 1, 1) := by decide +kernel
theorem d18_20 : decode jdk_56_method_3_code 20 = .ok (.getfield 14, 3) := by decide +kernel
theorem d18_23 : decode jdk_56_method_3_code 23 = .ok (.ifCond .ne 8, 3) := by decide +kernel
theorem d18_26 : decode jdk_56_method_3_code 26 = .ok (.aload_n 0, 1) := by decide +kernel
theorem d18_27 : decode jdk_56_method_3_code 27 = .ok (.checkcast 18, 3) := by decide +kernel
theorem d18_30 : decode jdk_56_method_3_code 30 = .ok (.areturn, 1) := by decide +kernel
theorem ef_lcopy (m : MethodId) (e_ : Addr) : entryFrame m #[(rr e_)] 2 = mkF m 0 #[vr e_, u_] [] := by first | (simp [entryFrame, mkF, argsToLocals, Value.category]; done) | rfl
def Q_lcopy (Z : State) (e_ : Addr) (h0 : Heap) (n0 : Nat) (v : Option Value) (h : Heap) (L : List Loc) : Prop := v = some (rr e_) ∧ Fr n0 L ∧ h = h0
set_option maxRecDepth 65536 in
set_option maxHeartbeats 40000000 in
theorem rm_lcopy (l : Launch) (Z : State) (a0 : Array Value) (hw : HW Z a0) (ws : List Jvm.Cond) (e_ : Addr) (h0 : Heap) (n0 : Nat) (O0 : Old Z n0 h0) (ZE0_ : Exa Z Z.heap e_ nm9) (ZF1_ : Fld Z Z.heap e_ nm9 "allowNulls" "Z" (ii 0)) :
  MFP l Z (⟨nm14, "listCopy", nm24⟩ : MethodName) jdk_56_method_3_code 2 (some (.object nm7)) ({ frames := 0, cells := 0, slots := 0, locals := 0 } : Room) ws #[(rr e_)] h0 (Q_lcopy Z e_ h0 n0) := by
 refine MetFree.of_bodySF (plainFor_of_name pn_java_util_ImmutableCollections) hisR ?_
 intro p e s m args below meth c s₁ Bd hml0 hP hK
 obtain ⟨rfl, hZ, hh⟩ := hP
 have hx := Bd.exec
 have hby := Bd.bytes
 have hml : c.maxLocals = 2 := hml0
 have hown : s.vm.findClass nm14 = some m.cls := findClass_of_methodNamed Bd.named
 have hnm := (name_of_methodNamed Bd.named Bd.method).1
 have X0 : Stand p l e ({ frames := 0, cells := 0, slots := 0, locals := 0 } : Room) s m #[(rr e_)] below meth c s₁ [] 0 0 := Stand.of_body Bd
 have e0 : s₁.heap = h0 := by rw [← hh, Bd.state]; rfl
 have N0 := Fr.nil n0
 have kp0 : Keep h0 h0 [] := Keep.refl _ _
 have c0 : ∀ t, S_ p e below s₁ m 0 #[vr e_, u_] [] t → Steps p.tables e below (s₁.setTop (entryFrame m #[(rr e_)] 2)) t := fun t k => castTop (ef_lcopy m e_) k
 generalize s₁.setTop (entryFrame m #[(rr e_)] 2) = st0 at c0 ⊢
 replace c0 : Kt p e below s₁ st0 (mkF m 0 #[vr e_, u_] []) := c0
 have c1 : Kt p e below s₁ st0 (mkF m 1 #[vr e_, u_] [(rr e_)]) := fun t k => by
  refine c0 t ?_
  show S_ p e below s₁ m 0 #[vr e_, u_] [] t
  refine XS.aloadN X0.here hx rfl (hb hby d18_0) rfl rfl ?_
  exact k
 obtain ⟨v2, T2, hv2, X2, e2, c2⟩ := kinu X0 hx hZ hown (w186 hw) e0 (ZE0_.ext O0.2) c1 rfl rfl (hb hby d18_1)
 rcases hv2 with rfl | rfl
 ·have c3 : Kt p e below T2 st0 (mkF m 8 #[vr e_, u_] [(rr e_)]) := fun t k => by
   refine c2 t ?_
   show S_ p e below T2 m 4 #[vr e_, u_] [(ii 0)] t
   refine XS.ifNo X2.here hx rfl (hb hby d18_4) rfl rfl ?_
   show S_ p e below T2 m 7 #[vr e_, u_] [] t
   refine XS.aloadN X2.here hx rfl (hb hby d18_7) rfl rfl ?_
   exact k
  obtain ⟨T4, X4, e4, c4⟩ := kinst X2 hx hZ hown (w192 hw) e2 (Ins.self (ZE0_.ext O0.2)) c3 rfl rfl (hb hby d18_8)
  have c5 : Kt p e below T4 st0 (mkF m 15 #[vr e_, u_] [(rr e_)]) := fun t k => by
   refine c4 t ?_
   show S_ p e below T4 m 11 #[vr e_, u_] [(ii 1)] t
   refine XS.ifNo X4.here hx rfl (hb hby d18_11) rfl rfl ?_
   show S_ p e below T4 m 14 #[vr e_, u_] [] t
   refine XS.aloadN X4.here hx rfl (hb hby d18_14) rfl rfl ?_
   exact k
  obtain ⟨T6, X6, e6, c6⟩ := kcast X4 hx hZ hown (w192 hw) e4 (Ins.self (ZE0_.ext O0.2)) c5 rfl rfl (hb hby d18_15)
  have c7 : Kt p e below T6 st0 (mkF m 20 #[vr e_, vr e_] [(rr e_)]) := fun t k => by
   refine c6 t ?_
   show S_ p e below T6 m 18 #[vr e_, u_] [(rr e_)] t
   refine XS.astoreN X6.here hx rfl (hb hby d18_18) rfl rfl (l' := #[vr e_, vr e_]) rfl ?_
   show S_ p e below T6 m 19 #[vr e_, vr e_] [] t
   refine XS.aloadN X6.here hx rfl (hb hby d18_19) rfl rfl ?_
   exact k
  obtain ⟨T8, X8, e8, c8⟩ := kget X6 hx hZ hown (Or.inr (w194 hw)) Via.refl e6 (ZF1_.ext O0.2) c7 rfl rfl (hb hby d18_20)
  have c9 : Kt p e below T8 st0 (mkF m 27 #[vr e_, vr e_] [(rr e_)]) := fun t k => by
   refine c8 t ?_
   show S_ p e below T8 m 23 #[vr e_, vr e_] [(ii 0)] t
   refine XS.ifNo X8.here hx rfl (hb hby d18_23) rfl rfl ?_
   show S_ p e below T8 m 26 #[vr e_, vr e_] [] t
   refine XS.aloadN X8.here hx rfl (hb hby d18_26) rfl rfl ?_
   exact k
  obtain ⟨T10, X10, e10, c10⟩ := kcast X8 hx hZ hown (w196 hw) e8 (Ins.of_exa (ZE0_.ext O0.2) (w197 hw)) c9 rfl rfl (hb hby d18_27)
  obtain ⟨fs, hr, hrun, hended, hW, hsame⟩ := X10.leave (v := some (rr e_)) (fun h => by rw [Bd.returns] at h; cases h)
  refine ⟨_, _, c10 _ ?_, hrun, hended, _, _, rfl, ?_, ⟨_, rfl⟩, hW, hsame.mono (by decide) (by decide)⟩
  ·show S_ p e below T10 m 30 #[vr e_, vr e_] [(rr e_)] _
   exact retOut X10 hx Bd.returns rfl (Or.inr (Or.inr (Or.inr (Or.inr ⟨rfl, rfl, rfl⟩)))) (hb hby d18_30) hr
  ·show Q_lcopy Z e_ h0 n0 _ T10.heap _
   rw [e10]
   exact ⟨rfl, N0, rfl⟩
 ·have c11 : Kt p e below T2 st0 (mkF m 27 #[vr e_, u_] [(rr e_)]) := fun t k => by
   refine c2 t ?_
   show S_ p e below T2 m 4 #[vr e_, u_] [(ii 1)] t
   refine yI X2.here hx rfl 4 26 rfl (hb hby d18_4) rfl rfl ?_
   show S_ p e below T2 m 26 #[vr e_, u_] [] t
   refine XS.aloadN X2.here hx rfl (hb hby d18_26) rfl rfl ?_
   exact k
  obtain ⟨T12, X12, e12, c12⟩ := kcast X2 hx hZ hown (w196 hw) e2 (Ins.of_exa (ZE0_.ext O0.2) (w197 hw)) c11 rfl rfl (hb hby d18_27)
  obtain ⟨fs, hr, hrun, hended, hW, hsame⟩ := X12.leave (v := some (rr e_)) (fun h => by rw [Bd.returns] at h; cases h)
  refine ⟨_, _, c12 _ ?_, hrun, hended, _, _, rfl, ?_, ⟨_, rfl⟩, hW, hsame.mono (by decide) (by decide)⟩
  ·show S_ p e below T12 m 30 #[vr e_, u_] [(rr e_)] _
   exact retOut X12 hx Bd.returns rfl (Or.inr (Or.inr (Or.inr (Or.inr ⟨rfl, rfl, rfl⟩)))) (hb hby d18_30) hr
  ·show Q_lcopy Z e_ h0 n0 _ T12.heap _
   rw [e12]
   exact ⟨rfl, N0, rfl⟩
theorem d19_0 : decode jdk_40_method_48_code 0 = .ok (.aload_n 0, 1) := by decide +kernel
theorem d19_1 : decode jdk_40_method_48_code 1 = .ok (.invokestatic 112, 3) := by decide +kernel
theorem pd_pLjava_util_Collection_rLjava_util_List_ : parseMethodDescriptor nm24 = some ⟨[(.object "java/util/Collection")], some (.object nm7)⟩ := by decide +kernel
theorem d19_4 : decode jdk_40_method_48_code 4 = .ok (.areturn, 1) := by decide +kernel
theorem ef_copyof (m : MethodId) (e_ : Addr) : entryFrame m #[(rr e_)] 1 = mkF m 0 #[vr e_] [] := by first | (simp [entryFrame, mkF, argsToLocals, Value.category]; done) | rfl
def Q_copyof (Z : State) (e_ : Addr) (h0 : Heap) (n0 : Nat) (v : Option Value) (h : Heap) (L : List Loc) : Prop := v = some (rr e_) ∧ Fr n0 L ∧ h = h0
set_option maxRecDepth 65536 in
set_option maxHeartbeats 40000000 in
theorem rm_copyof (l : Launch) (Z : State) (a0 : Array Value) (hw : HW Z a0) (ws : List Jvm.Cond) (e_ : Addr) (h0 : Heap) (n0 : Nat) (O0 : Old Z n0 h0) (ZE0_ : Exa Z Z.heap e_ nm9) (ZF1_ : Fld Z Z.heap e_ nm9 "allowNulls" "Z" (ii 0)) :
  MFP l Z (⟨nm7, "copyOf", nm24⟩ : MethodName) jdk_40_method_48_code 1 (some (.object nm7)) ({ frames := 1, cells := 0, slots := 0, locals := 13 } : Room) ws #[(rr e_)] h0 (Q_copyof Z e_ h0 n0) := by
 refine MetFree.of_bodySF (plainFor_of_name pn_java_util_List) hisR ?_
 intro p e s m args below meth c s₁ Bd hml0 hP hK
 obtain ⟨rfl, hZ, hh⟩ := hP
 have hx := Bd.exec
 have hby := Bd.bytes
 have hml : c.maxLocals = 1 := hml0
 have hown : s.vm.findClass nm7 = some m.cls := findClass_of_methodNamed Bd.named
 have hnm := (name_of_methodNamed Bd.named Bd.method).1
 have X0 : Stand p l e ({ frames := 1, cells := 0, slots := 0, locals := 13 } : Room) s m #[(rr e_)] below meth c s₁ [] 0 0 := Stand.of_body Bd
 have e0 : s₁.heap = h0 := by rw [← hh, Bd.state]; rfl
 have N0 := Fr.nil n0
 have kp0 : Keep h0 h0 [] := Keep.refl _ _
 have c0 : ∀ t, S_ p e below s₁ m 0 #[vr e_] [] t → Steps p.tables e below (s₁.setTop (entryFrame m #[(rr e_)] 1)) t := fun t k => castTop (ef_copyof m e_) k
 generalize s₁.setTop (entryFrame m #[(rr e_)] 1) = st0 at c0 ⊢
 replace c0 : Kt p e below s₁ st0 (mkF m 0 #[vr e_] []) := c0
 have c1 : Kt p e below s₁ st0 (mkF m 1 #[vr e_] [(rr e_)]) := fun t k => by
  refine c0 t ?_
  show S_ p e below s₁ m 0 #[vr e_] [] t
  refine XS.aloadN X0.here hx rfl (hb hby d19_0) rfl rfl ?_
  exact k
 obtain ⟨_, T2, L2, X2, hQ2, c2⟩ := kstat X0 hx hZ hown (w183 hw) (w184 hw) (w103 hw) (w185 hw) (rm_lcopy l Z a0 hw [] e_ h0 n0 O0 ZE0_ ZF1_) e0 c1 hml pd_pLjava_util_Collection_rLjava_util_List_ [(rr e_)] [] 0 (hb hby d19_1) rfl rfl rfl rfl rfl rfl
 obtain ⟨rfl, N3q, K4⟩ := hQ2
 have N3 := Fr.app N0 N3q
 obtain ⟨fs, hr, hrun, hended, hW, hsame⟩ := X2.leave (v := some (rr e_)) (fun h => by rw [Bd.returns] at h; cases h)
 refine ⟨_, _, c2 _ ?_, hrun, hended, _, _, rfl, ?_, ⟨_, rfl⟩, hW, hsame.mono (by decide) (by decide)⟩
 ·show S_ p e below T2 m 4 #[vr e_] [(rr e_)] _
  exact retOut X2 hx Bd.returns rfl (Or.inr (Or.inr (Or.inr (Or.inr ⟨rfl, rfl, rfl⟩)))) (hb hby d19_4) hr
 ·show Q_copyof Z e_ h0 n0 _ T2.heap _
  rw [K4]
  exact ⟨rfl, N3, rfl⟩
theorem pn_java_lang_Throwable : plainName nm5 = true := by first | (simp [plainName, overriddenIn]; done) | decide +kernel
theorem d20_0 : decode jdk_78_method_2_code 0 = .ok (.aload_n 0, 1) := by decide +kernel
theorem d20_1 : decode jdk_78_method_2_code 1 = .ok (.invokespecial 1, 3) := by decide +kernel
theorem d20_4 : decode jdk_78_method_2_code 4 = .ok (.aload_n 0, 1) := by decide +kernel
theorem d20_5 : decode jdk_78_method_2_code 5 = .ok (.aload_n 0, 1) := by decide +kernel
theorem d20_6 : decode jdk_78_method_2_code 6 = .ok (.putfield 7, 3) := by decide +kernel
theorem d20_9 : decode jdk_78_method_2_code 9 = .ok (.aload_n 0, 1) := by decide +kernel
theorem d20_10 : decode jdk_78_method_2_code 10 = .ok (.getstatic 13, 3) := by decide +kernel
theorem d20_13 : decode jdk_78_method_2_code 13 = .ok (.putfield 17, 3) := by decide +kernel
theorem d20_16 : decode jdk_78_method_2_code 16 = .ok (.aload_n 0, 1) := by decide +kernel
theorem d20_17 : decode jdk_78_method_2_code 17 = .ok (.getstatic 20, 3) := by decide +kernel
theorem d20_20 : decode jdk_78_method_2_code 20 = .ok (.putfield 24, 3) := by decide +kernel
theorem d20_23 : decode jdk_78_method_2_code 23 = .ok (.aload_n 0, 1) := by decide +kernel
theorem d20_24 : decode jdk_78_method_2_code 24 = .ok (.invokevirtual 27, 3) := by decide +kernel
theorem d20_27 : decode jdk_78_method_2_code 27 = .ok (.pop, 1) := by decide +kernel
theorem d20_28 : decode jdk_78_method_2_code 28 = .ok (.aload_n 0, 1) := by decide +kernel
theorem d20_29 : decode jdk_78_method_2_code 29 = .ok (.aload_n 1, 1) := by decide +kernel
theorem d20_30 : decode jdk_78_method_2_code 30 = .ok (.putfield 31, 3) := by decide +kernel
theorem d20_33 : decode jdk_78_method_2_code 33 = .ok (.return_, 1) := by decide +kernel
theorem ef_thr (m : MethodId) (x_ : Addr) (m_ : Value) (hm_ : m_.isRef = true) : entryFrame m #[(rr x_), m_] 2 = mkF m 0 #[vr x_, .val m_] [] := by (rcases ref_cases hm_ with rfl | ⟨_, rfl⟩) <;> first | (simp [entryFrame, mkF, argsToLocals, Value.category]; done) | rfl
def Q_thr (Z : State) (x_ : Addr) (m_ : Value) (u_ : Addr) (n_ : Addr) (h0 : Heap) (n0 : Nat) (v : Option Value) (h : Heap) (L : List Loc) : Prop := v = none ∧ Fr n0 L ∧ Keep h0 h [x_] ∧ Exa Z h x_ nm2 ∧ Fld Z h x_ nm5 "detailMessage" nm20 m_ ∧ Fld Z h x_ nm2 "refusal" nm1 .null ∧ Fld Z h x_ nm2 "bindingTargets" nm10 .null
set_option maxRecDepth 65536 in
set_option maxHeartbeats 40000000 in
theorem rm_thr (l : Launch) (Z : State) (a0 : Array Value) (hw : HW Z a0) (ws : List Jvm.Cond) (x_ : Addr) (m_ : Value) (u_ : Addr) (n_ : Addr) (h0 : Heap) (n0 : Nat) (O0 : Old Z n0 h0) (E0_ : Exa Z h0 x_ nm2) (U1_ : Unt h0 x_) (F2_ : Fld Z h0 x_ nm5 "backtrace" "Ljava/lang/Object;" .null) (F3_ : Fld Z h0 x_ nm5 "detailMessage" nm20 .null) (F4_ : Fld Z h0 x_ nm5 "cause" "Ljava/lang/Throwable;" .null) (F5_ : Fld Z h0 x_ nm5 "stackTrace" nm16 .null) (F6_ : Fld Z h0 x_ nm5 "suppressedExceptions" nm10 .null) (F7_ : Fld Z h0 x_ nm2 "refusal" nm1 .null) (F8_ : Fld Z h0 x_ nm2 "bindingTargets" nm10 .null) (G9_ : n0 ≤ x_) (hm_ : m_.isRef = true) (ZS11_ : Sta Z Z.heap nm5 "UNASSIGNED_STACK" nm16 (rr u_)) (ZS12_ : Sta Z Z.heap nm5 "SUPPRESSED_SENTINEL" nm10 (rr n_)) (hst : l.stackTraces = true) :
  MFK l Z (⟨nm5, "<init>", "(Ljava/lang/String;)V"⟩ : MethodName) jdk_78_method_2_code 2 none ({ frames := 3, cells := 1, slots := 2752, locals := 42 } : Room) ws #[(rr x_), m_] h0 (Q_thr Z x_ m_ u_ n_ h0 n0) := by
 refine MetFree.of_bodySF (plainFor_of_name pn_java_lang_Throwable) hisR ?_
 intro p e s m args below meth c s₁ Bd hml0 hP hK
 obtain ⟨rfl, hZ, hh⟩ := hP
 have hx := Bd.exec
 have hby := Bd.bytes
 have hml : c.maxLocals = 2 := hml0
 have hown : s.vm.findClass nm5 = some m.cls := findClass_of_methodNamed Bd.named
 have hnm := (name_of_methodNamed Bd.named Bd.method).1
 have X0 : Stand p l e ({ frames := 3, cells := 1, slots := 2752, locals := 42 } : Room) (s.setVm s.vm) m #[(rr x_), m_] below meth c s₁ [] 0 0 := Stand.of_body Bd
 have e0 : s₁.heap = h0 := by rw [← hh, Bd.state]; rfl
 have N0 := Fr.nil n0
 have kp0 : Keep h0 h0 [x_] := Keep.refl _ _
 obtain ⟨hTK, hBelow⟩ := hK
 have hS0 : s.Since s.vm 0 := (State.WarmedH.refl s).since 0
 have c0 : ∀ t, S_ p e below s₁ m 0 #[vr x_, .val m_] [] t → Steps p.tables e below (s₁.setTop (entryFrame m #[(rr x_), m_] 2)) t := fun t k => castTop (ef_thr m x_ m_ hm_) k
 generalize s₁.setTop (entryFrame m #[(rr x_), m_] 2) = st0 at c0 ⊢
 replace c0 : Kt p e below s₁ st0 (mkF m 0 #[vr x_, .val m_] []) := c0
 have c1 : Kt p e below s₁ st0 (mkF m 1 #[vr x_, .val m_] [(rr x_)]) := fun t k => by
  refine c0 t ?_
  show S_ p e below s₁ m 0 #[vr x_, .val m_] [] t
  refine XS.aloadN X0.here hx rfl (hb hby d20_0) rfl rfl ?_
  exact k
 obtain ⟨T2, X2, e2, c2⟩ := kinit X0 hx hZ hown (w132 hw) (w27 hw) (w28 hw) e0 c1 rfl hml rfl rfl (hb hby d20_1) 0 (own_w rfl) (by decide) (by decide)
 have c3 : Kt p e below T2 st0 (mkF m 6 #[vr x_, .val m_] [(rr x_), (rr x_)]) := fun t k => by
  refine c2 t ?_
  show S_ p e below T2 m 4 #[vr x_, .val m_] [] t
  refine XS.aloadN X2.here hx rfl (hb hby d20_4) rfl rfl ?_
  show S_ p e below T2 m 5 #[vr x_, .val m_] [(rr x_)] t
  refine XS.aloadN X2.here hx rfl (hb hby d20_5) rfl rfl ?_
  exact k
 obtain ⟨T4, h4, X4, e4, W4, f5, o7, N6, c4⟩ := kput X2 hx hZ (.object nm5) hown (host := "") (Or.inl (w133 hw)) Via.refl e2 F4_ E0_ (Or.inl (w134 hw)) (w106 hw) c3 rfl rfl (hb hby d20_6) (by decide) rfl rfl O0 N0 G9_
 have kp8 := kp0.wr W4 (Or.inl (List.mem_of_getElem? (i := 0) rfl))
 have c9 : Kt p e below T4 st0 (mkF m 10 #[vr x_, .val m_] [(rr x_)]) := fun t k => by
  refine c4 t ?_
  show S_ p e below T4 m 9 #[vr x_, .val m_] [] t
  refine XS.aloadN X4.here hx rfl (hb hby d20_9) rfl rfl ?_
  exact k
 obtain ⟨T10, X10, e10, c10⟩ := kgetS X4 hx hZ hown (host := "") (Or.inl (w135 hw)) Via.refl e4 (ZS11_.ext o7.2) c9 rfl (hb hby d20_10)
 have f11 := F5_.other W4 (Or.inr (slot_ne (Or.inl (w137 hw)) (Or.inl (w134 hw)) (by decide) (t := (.array (.object nm18))) (t' := (.object nm5)) (by decide) (by decide)))
 obtain ⟨T12, h12, X12, e12, W12, f13, o15, N14, c12⟩ := kput X10 hx hZ (.array (.object nm18)) hown (host := "") (Or.inl (w136 hw)) Via.refl e10 f11 (E0_.wr W4) (Or.inl (w137 hw)) (w106 hw) c10 rfl rfl (hb hby d20_13) (by decide) rfl rfl o7 N6 G9_
 have kp16 := kp8.wr W12 (Or.inl (List.mem_of_getElem? (i := 0) rfl))
 have c17 : Kt p e below T12 st0 (mkF m 17 #[vr x_, .val m_] [(rr x_)]) := fun t k => by
  refine c12 t ?_
  show S_ p e below T12 m 16 #[vr x_, .val m_] [] t
  refine XS.aloadN X12.here hx rfl (hb hby d20_16) rfl rfl ?_
  exact k
 obtain ⟨T18, X18, e18, c18⟩ := kgetS X12 hx hZ hown (host := "") (Or.inl (w138 hw)) Via.refl e12 (ZS12_.ext o15.2) c17 rfl (hb hby d20_17)
 have f19 := (F6_.other W4 (Or.inr (slot_ne (Or.inl (w140 hw)) (Or.inl (w134 hw)) (by decide) (t := (.object nm7)) (t' := (.object nm5)) (by decide) (by decide)))).other W12 (Or.inr (slot_ne (Or.inl (w140 hw)) (Or.inl (w137 hw)) (by decide) (t := (.object nm7)) (t' := (.array (.object nm18))) (by decide) (by decide)))
 obtain ⟨T20, h20, X20, e20, W20, f21, o23, N22, c20⟩ := kput X18 hx hZ (.object nm7) hown (host := "") (Or.inl (w139 hw)) Via.refl e18 f19 ((E0_.wr W4).wr W12) (Or.inl (w140 hw)) (w106 hw) c18 rfl rfl (hb hby d20_20) (by decide) rfl rfl o15 N14 G9_
 have kp24 := kp16.wr W20 (Or.inl (List.mem_of_getElem? (i := 0) rfl))
 have f25 := ((F2_.other W4 (Or.inr (slot_ne (Or.inl (w165 hw)) (Or.inl (w134 hw)) (by decide) (t := (.object nm8)) (t' := (.object nm5)) (by decide) (by decide)))).other W12 (Or.inr (slot_ne (Or.inl (w165 hw)) (Or.inl (w137 hw)) (by decide) (t := (.object nm8)) (t' := (.array (.object nm18))) (by decide) (by decide)))).other W20 (Or.inr (slot_ne (Or.inl (w165 hw)) (Or.inl (w140 hw)) (by decide) (t := (.object nm8)) (t' := (.object nm7)) (by decide) (by decide)))
 have f26 := f13.other W20 (Or.inr (slot_ne (Or.inl (w137 hw)) (Or.inl (w140 hw)) (by decide) (t := (.array (.object nm18))) (t' := (.object nm7)) (by decide) (by decide)))
 have f27 := ((F3_.other W4 (Or.inr (slot_ne (Or.inl (w164 hw)) (Or.inl (w134 hw)) (by decide) (t := (.object nm6)) (t' := (.object nm5)) (by decide) (by decide)))).other W12 (Or.inr (slot_ne (Or.inl (w164 hw)) (Or.inl (w137 hw)) (by decide) (t := (.object nm6)) (t' := (.array (.object nm18))) (by decide) (by decide)))).other W20 (Or.inr (slot_ne (Or.inl (w164 hw)) (Or.inl (w140 hw)) (by decide) (t := (.object nm6)) (t' := (.object nm7)) (by decide) (by decide)))
 have f28 := ((F7_.other W4 (Or.inr (slot_ne (Or.inr (w179 hw)) (Or.inl (w134 hw)) (by decide) (t := (.object nm0)) (t' := (.object nm5)) (by decide) (by decide)))).other W12 (Or.inr (slot_ne (Or.inr (w179 hw)) (Or.inl (w137 hw)) (by decide) (t := (.object nm0)) (t' := (.array (.object nm18))) (by decide) (by decide)))).other W20 (Or.inr (slot_ne (Or.inr (w179 hw)) (Or.inl (w140 hw)) (by decide) (t := (.object nm0)) (t' := (.object nm7)) (by decide) (by decide)))
 have f29 := ((F8_.other W4 (Or.inr (slot_ne (Or.inr (w199 hw)) (Or.inl (w134 hw)) (by decide) (t := (.object nm7)) (t' := (.object nm5)) (by decide) (by decide)))).other W12 (Or.inr (slot_ne (Or.inr (w199 hw)) (Or.inl (w137 hw)) (by decide) (t := (.object nm7)) (t' := (.array (.object nm18))) (by decide) (by decide)))).other W20 (Or.inr (slot_ne (Or.inr (w199 hw)) (Or.inl (w140 hw)) (by decide) (t := (.object nm7)) (t' := (.object nm7)) (by decide) (by decide)))
 have c30 : Kt p e below T20 st0 (mkF m 24 #[vr x_, .val m_] [(rr x_)]) := fun t k => by
  refine c20 t ?_
  show S_ p e below T20 m 23 #[vr x_, .val m_] [] t
  refine XS.aloadN X20.here hx rfl (hb hby d20_23) rfl rfl ?_
  exact k
 obtain ⟨T31, h31, X31, e31, K31, o31, N31, fE31, fK31, c31⟩ := kfill X20 hx hst hZ hw hown hh O0 hTK hBelow e20 (((E0_.wr W4).wr W12).wr W20) (Unt.wr W20 (Unt.wr W12 (Unt.wr W4 U1_))) f25 rfl (ZS11_.ext o23.2) f26 c30 rfl hml rfl rfl (hb hby d20_24) 0 rfl (by decide) (by decide) (by decide) (by decide) (by simp) N22 G9_
 have kp32 := K31
 have c33 : Kt p e below T31 st0 (mkF m 30 #[vr x_, .val m_] [m_, (rr x_)]) := fun t k => by
  refine c31 t ?_
  show S_ p e below T31 m 27 #[vr x_, .val m_] [(rr x_)] t
  refine XS.pop X31.here hx rfl (hb hby d20_27) rfl rfl ?_
  show S_ p e below T31 m 28 #[vr x_, .val m_] [] t
  refine XS.aloadN X31.here hx rfl (hb hby d20_28) rfl rfl ?_
  show S_ p e below T31 m 29 #[vr x_, .val m_] [(rr x_)] t
  refine XS.aloadN X31.here hx rfl (hb hby d20_29) rfl hm_ ?_
  exact k
 obtain ⟨T34, h34, X34, e34, W34, f35, o37, N36, c34⟩ := kput X31 hx hZ (.object nm6) hown (host := "") (Or.inl (w168 hw)) Via.refl e31 (fK31 _ _ _ (.object nm6) _ f27 (Or.inl (w164 hw)) (by decide) (by decide) (by decide) (by decide)) fE31 (Or.inl (w164 hw)) (w106 hw) c33 rfl rfl (hb hby d20_30) (by decide) (narrow_isRef _ hm_) (by rcases ref_cases hm_ with q | ⟨_, q⟩ <;> rw [q] <;> rfl) o31 N31 G9_
 have kp38 := kp32.wr W34 (Or.inl (List.mem_of_getElem? (i := 0) rfl))
 have f39 := (fK31 _ _ _ (.object nm0) _ f28 (Or.inr (w179 hw)) (by decide) (by decide) (by decide) (by decide)).other W34 (Or.inr (slot_ne (Or.inr (w179 hw)) (Or.inl (w164 hw)) (by decide) (t := (.object nm0)) (t' := (.object nm6)) (by decide) (by decide)))
 have f40 := (fK31 _ _ _ (.object nm7) _ f29 (Or.inr (w199 hw)) (by decide) (by decide) (by decide) (by decide)).other W34 (Or.inr (slot_ne (Or.inr (w199 hw)) (Or.inl (w164 hw)) (by decide) (t := (.object nm7)) (t' := (.object nm6)) (by decide) (by decide)))
 obtain ⟨fs, hr, hrun, hended, hRW⟩ := X34.leaveW hS0 (by first | exact (Nat.le_trans (Nat.zero_le _) (Keep.of_wr W34).1) | (rw [e34]; exact (Nat.le_trans (Nat.zero_le _) (Keep.of_wr W34).1))) (v := none) (fun _ => rfl)
 refine ⟨_, _, c34 _ ?_, hrun, hended, _, _, rfl, ?_, hRW.1, hRW.2.1, hRW.2.2.1, hRW.2.2.2.mono (by decide) (by decide)⟩
 ·show S_ p e below T34 m 33 #[vr x_, .val m_] [] _
  exact X34.returnOut hx Bd.returns (hb hby d20_33) hr
 ·show Q_thr Z x_ m_ u_ n_ h0 n0 _ T34.heap _
  rw [e34]
  exact ⟨rfl, N36, kp38, (fE31.wr W34), f35, f39, f40⟩
theorem pn_java_lang_Exception : plainName "java/lang/Exception" = true := by first | (simp [plainName, overriddenIn]; done) | decide +kernel
theorem d21_0 : decode jdk_59_method_2_code 0 = .ok (.aload_n 0, 1) := by decide +kernel
theorem d21_1 : decode jdk_59_method_2_code 1 = .ok (.aload_n 1, 1) := by decide +kernel
theorem d21_2 : decode jdk_59_method_2_code 2 = .ok (.invokespecial 7, 3) := by decide +kernel
theorem pd_pLjava_lang_String_rV : parseMethodDescriptor "(Ljava/lang/String;)V" = some ⟨[(.object nm6)], none⟩ := by decide +kernel
theorem d21_5 : decode jdk_59_method_2_code 5 = .ok (.return_, 1) := by decide +kernel
theorem ef_exc (m : MethodId) (x_ : Addr) (m_ : Value) (hm_ : m_.isRef = true) : entryFrame m #[(rr x_), m_] 2 = mkF m 0 #[vr x_, .val m_] [] := by (rcases ref_cases hm_ with rfl | ⟨_, rfl⟩) <;> first | (simp [entryFrame, mkF, argsToLocals, Value.category]; done) | rfl
def Q_exc (Z : State) (x_ : Addr) (m_ : Value) (u_ : Addr) (n_ : Addr) (h0 : Heap) (n0 : Nat) (v : Option Value) (h : Heap) (L : List Loc) : Prop := v = none ∧ Fr n0 L ∧ Keep h0 h [x_] ∧ Exa Z h x_ nm2 ∧ Fld Z h x_ nm5 "detailMessage" nm20 m_ ∧ Fld Z h x_ nm2 "refusal" nm1 .null ∧ Fld Z h x_ nm2 "bindingTargets" nm10 .null
set_option maxRecDepth 65536 in
set_option maxHeartbeats 40000000 in
theorem rm_exc (l : Launch) (Z : State) (a0 : Array Value) (hw : HW Z a0) (ws : List Jvm.Cond) (x_ : Addr) (m_ : Value) (u_ : Addr) (n_ : Addr) (h0 : Heap) (n0 : Nat) (O0 : Old Z n0 h0) (E0_ : Exa Z h0 x_ nm2) (U1_ : Unt h0 x_) (F2_ : Fld Z h0 x_ nm5 "backtrace" "Ljava/lang/Object;" .null) (F3_ : Fld Z h0 x_ nm5 "detailMessage" nm20 .null) (F4_ : Fld Z h0 x_ nm5 "cause" "Ljava/lang/Throwable;" .null) (F5_ : Fld Z h0 x_ nm5 "stackTrace" nm16 .null) (F6_ : Fld Z h0 x_ nm5 "suppressedExceptions" nm10 .null) (F7_ : Fld Z h0 x_ nm2 "refusal" nm1 .null) (F8_ : Fld Z h0 x_ nm2 "bindingTargets" nm10 .null) (G9_ : n0 ≤ x_) (hm_ : m_.isRef = true) (ZS11_ : Sta Z Z.heap nm5 "UNASSIGNED_STACK" nm16 (rr u_)) (ZS12_ : Sta Z Z.heap nm5 "SUPPRESSED_SENTINEL" nm10 (rr n_)) (hst : l.stackTraces = true) :
  MFK l Z (⟨"java/lang/Exception", "<init>", "(Ljava/lang/String;)V"⟩ : MethodName) jdk_59_method_2_code 2 none ({ frames := 4, cells := 1, slots := 2752, locals := 55 } : Room) ws #[(rr x_), m_] h0 (Q_exc Z x_ m_ u_ n_ h0 n0) := by
 refine MetFree.of_bodySF (plainFor_of_name pn_java_lang_Exception) hisR ?_
 intro p e s m args below meth c s₁ Bd hml0 hP hK
 obtain ⟨rfl, hZ, hh⟩ := hP
 have hx := Bd.exec
 have hby := Bd.bytes
 have hml : c.maxLocals = 2 := hml0
 have hown : s.vm.findClass "java/lang/Exception" = some m.cls := findClass_of_methodNamed Bd.named
 have hnm := (name_of_methodNamed Bd.named Bd.method).1
 have X0 : Stand p l e ({ frames := 4, cells := 1, slots := 2752, locals := 55 } : Room) (s.setVm s.vm) m #[(rr x_), m_] below meth c s₁ [] 0 0 := Stand.of_body Bd
 have e0 : s₁.heap = h0 := by rw [← hh, Bd.state]; rfl
 have N0 := Fr.nil n0
 have kp0 : Keep h0 h0 [x_] := Keep.refl _ _
 obtain ⟨hTK, hBelow⟩ := hK
 have hS0 : s.Since s.vm 0 := (State.WarmedH.refl s).since 0
 have c0 : ∀ t, S_ p e below s₁ m 0 #[vr x_, .val m_] [] t → Steps p.tables e below (s₁.setTop (entryFrame m #[(rr x_), m_] 2)) t := fun t k => castTop (ef_exc m x_ m_ hm_) k
 generalize s₁.setTop (entryFrame m #[(rr x_), m_] 2) = st0 at c0 ⊢
 replace c0 : Kt p e below s₁ st0 (mkF m 0 #[vr x_, .val m_] []) := c0
 have c1 : Kt p e below s₁ st0 (mkF m 2 #[vr x_, .val m_] [m_, (rr x_)]) := fun t k => by
  refine c0 t ?_
  show S_ p e below s₁ m 0 #[vr x_, .val m_] [] t
  refine XS.aloadN X0.here hx rfl (hb hby d21_0) rfl rfl ?_
  show S_ p e below s₁ m 1 #[vr x_, .val m_] [(rr x_)] t
  refine XS.aloadN X0.here hx rfl (hb hby d21_1) rfl hm_ ?_
  exact k
 obtain ⟨_, T2, L2, X2, hQ2, hS2, hZ2, hown2, c2⟩ := kspecB X0 hx hZ hown hS0 (Nat.zero_le _) (w126 hw) (w127 hw) (w131 hw) (rm := ({ frames := 3, cells := 1, slots := 2752, locals := 42 } : Room)) (backOfSKL (W := 0) (rm_thr l Z a0 hw [] x_ m_ u_ n_ h0 n0 O0 E0_ U1_ F2_ F3_ F4_ F5_ F6_ F7_ F8_ G9_ hm_ ZS11_ ZS12_ hst) hZ (w131 hw) (w130 hw) (by decide) (by decide) hTK hBelow) e0 c1 hml pd_pLjava_lang_String_rV x_ [m_] [] (hb hby d21_2) rfl rfl rfl rfl rfl rfl
 obtain ⟨rfl, N3q, K4, p5, p6, p7, p8⟩ := hQ2
 have N3 := Fr.app N0 N3q
 have o9 := O0.keep K4 (allS G9_ all0)
 have kp10 := kp0.trans K4 (allS (Or.inl (List.mem_of_getElem? (i := 0) rfl)) all0)
 obtain ⟨fs, hr, hrun, hended, hRW⟩ := X2.leaveW hS2 (by first | exact (Nat.le_refl _) | (rw [rfl]; exact (Nat.le_refl _))) (v := none) (fun _ => rfl)
 refine ⟨_, _, c2 _ ?_, hrun, hended, _, _, rfl, ?_, hRW.1, hRW.2.1, hRW.2.2.1, hRW.2.2.2.mono (by decide) (by decide)⟩
 ·show S_ p e below T2 m 5 #[vr x_, .val m_] [] _
  exact X2.returnOut hx Bd.returns (hb hby d21_5) hr
 ·show Q_exc Z x_ m_ u_ n_ h0 n0 _ T2.heap _
  exact ⟨rfl, N3, kp10, p5, p6, p7, p8⟩
theorem pn_java_lang_RuntimeException : plainName "java/lang/RuntimeException" = true := by first | (simp [plainName, overriddenIn]; done) | decide +kernel
theorem d22_0 : decode jdk_58_method_2_code 0 = .ok (.aload_n 0, 1) := by decide +kernel
theorem d22_1 : decode jdk_58_method_2_code 1 = .ok (.aload_n 1, 1) := by decide +kernel
theorem d22_2 : decode jdk_58_method_2_code 2 = .ok (.invokespecial 7, 3) := by decide +kernel
theorem d22_5 : decode jdk_58_method_2_code 5 = .ok (.return_, 1) := by decide +kernel
theorem ef_rte (m : MethodId) (x_ : Addr) (m_ : Value) (hm_ : m_.isRef = true) : entryFrame m #[(rr x_), m_] 2 = mkF m 0 #[vr x_, .val m_] [] := by (rcases ref_cases hm_ with rfl | ⟨_, rfl⟩) <;> first | (simp [entryFrame, mkF, argsToLocals, Value.category]; done) | rfl
def Q_rte (Z : State) (x_ : Addr) (m_ : Value) (u_ : Addr) (n_ : Addr) (h0 : Heap) (n0 : Nat) (v : Option Value) (h : Heap) (L : List Loc) : Prop := v = none ∧ Fr n0 L ∧ Keep h0 h [x_] ∧ Exa Z h x_ nm2 ∧ Fld Z h x_ nm5 "detailMessage" nm20 m_ ∧ Fld Z h x_ nm2 "refusal" nm1 .null ∧ Fld Z h x_ nm2 "bindingTargets" nm10 .null
set_option maxRecDepth 65536 in
set_option maxHeartbeats 40000000 in
theorem rm_rte (l : Launch) (Z : State) (a0 : Array Value) (hw : HW Z a0) (ws : List Jvm.Cond) (x_ : Addr) (m_ : Value) (u_ : Addr) (n_ : Addr) (h0 : Heap) (n0 : Nat) (O0 : Old Z n0 h0) (E0_ : Exa Z h0 x_ nm2) (U1_ : Unt h0 x_) (F2_ : Fld Z h0 x_ nm5 "backtrace" "Ljava/lang/Object;" .null) (F3_ : Fld Z h0 x_ nm5 "detailMessage" nm20 .null) (F4_ : Fld Z h0 x_ nm5 "cause" "Ljava/lang/Throwable;" .null) (F5_ : Fld Z h0 x_ nm5 "stackTrace" nm16 .null) (F6_ : Fld Z h0 x_ nm5 "suppressedExceptions" nm10 .null) (F7_ : Fld Z h0 x_ nm2 "refusal" nm1 .null) (F8_ : Fld Z h0 x_ nm2 "bindingTargets" nm10 .null) (G9_ : n0 ≤ x_) (hm_ : m_.isRef = true) (ZS11_ : Sta Z Z.heap nm5 "UNASSIGNED_STACK" nm16 (rr u_)) (ZS12_ : Sta Z Z.heap nm5 "SUPPRESSED_SENTINEL" nm10 (rr n_)) (hst : l.stackTraces = true) :
  MFK l Z (⟨"java/lang/RuntimeException", "<init>", "(Ljava/lang/String;)V"⟩ : MethodName) jdk_58_method_2_code 2 none ({ frames := 5, cells := 1, slots := 2752, locals := 68 } : Room) ws #[(rr x_), m_] h0 (Q_rte Z x_ m_ u_ n_ h0 n0) := by
 refine MetFree.of_bodySF (plainFor_of_name pn_java_lang_RuntimeException) hisR ?_
 intro p e s m args below meth c s₁ Bd hml0 hP hK
 obtain ⟨rfl, hZ, hh⟩ := hP
 have hx := Bd.exec
 have hby := Bd.bytes
 have hml : c.maxLocals = 2 := hml0
 have hown : s.vm.findClass "java/lang/RuntimeException" = some m.cls := findClass_of_methodNamed Bd.named
 have hnm := (name_of_methodNamed Bd.named Bd.method).1
 have X0 : Stand p l e ({ frames := 5, cells := 1, slots := 2752, locals := 68 } : Room) (s.setVm s.vm) m #[(rr x_), m_] below meth c s₁ [] 0 0 := Stand.of_body Bd
 have e0 : s₁.heap = h0 := by rw [← hh, Bd.state]; rfl
 have N0 := Fr.nil n0
 have kp0 : Keep h0 h0 [x_] := Keep.refl _ _
 obtain ⟨hTK, hBelow⟩ := hK
 have hS0 : s.Since s.vm 0 := (State.WarmedH.refl s).since 0
 have c0 : ∀ t, S_ p e below s₁ m 0 #[vr x_, .val m_] [] t → Steps p.tables e below (s₁.setTop (entryFrame m #[(rr x_), m_] 2)) t := fun t k => castTop (ef_rte m x_ m_ hm_) k
 generalize s₁.setTop (entryFrame m #[(rr x_), m_] 2) = st0 at c0 ⊢
 replace c0 : Kt p e below s₁ st0 (mkF m 0 #[vr x_, .val m_] []) := c0
 have c1 : Kt p e below s₁ st0 (mkF m 2 #[vr x_, .val m_] [m_, (rr x_)]) := fun t k => by
  refine c0 t ?_
  show S_ p e below s₁ m 0 #[vr x_, .val m_] [] t
  refine XS.aloadN X0.here hx rfl (hb hby d22_0) rfl rfl ?_
  show S_ p e below s₁ m 1 #[vr x_, .val m_] [(rr x_)] t
  refine XS.aloadN X0.here hx rfl (hb hby d22_1) rfl hm_ ?_
  exact k
 obtain ⟨_, T2, L2, X2, hQ2, hS2, hZ2, hown2, c2⟩ := kspecB X0 hx hZ hown hS0 (Nat.zero_le _) (w120 hw) (w121 hw) (w125 hw) (rm := ({ frames := 4, cells := 1, slots := 2752, locals := 55 } : Room)) (backOfSKL (W := 0) (rm_exc l Z a0 hw [] x_ m_ u_ n_ h0 n0 O0 E0_ U1_ F2_ F3_ F4_ F5_ F6_ F7_ F8_ G9_ hm_ ZS11_ ZS12_ hst) hZ (w125 hw) (w124 hw) (by decide) (by decide) hTK hBelow) e0 c1 hml pd_pLjava_lang_String_rV x_ [m_] [] (hb hby d22_2) rfl rfl rfl rfl rfl rfl
 obtain ⟨rfl, N3q, K4, p5, p6, p7, p8⟩ := hQ2
 have N3 := Fr.app N0 N3q
 have o9 := O0.keep K4 (allS G9_ all0)
 have kp10 := kp0.trans K4 (allS (Or.inl (List.mem_of_getElem? (i := 0) rfl)) all0)
 obtain ⟨fs, hr, hrun, hended, hRW⟩ := X2.leaveW hS2 (by first | exact (Nat.le_refl _) | (rw [rfl]; exact (Nat.le_refl _))) (v := none) (fun _ => rfl)
 refine ⟨_, _, c2 _ ?_, hrun, hended, _, _, rfl, ?_, hRW.1, hRW.2.1, hRW.2.2.1, hRW.2.2.2.mono (by decide) (by decide)⟩
 ·show S_ p e below T2 m 5 #[vr x_, .val m_] [] _
  exact X2.returnOut hx Bd.returns (hb hby d22_5) hr
 ·show Q_rte Z x_ m_ u_ n_ h0 n0 _ T2.heap _
  exact ⟨rfl, N3, kp10, p5, p6, p7, p8⟩
theorem pn_com_example_rosterd_rosterd_core_RosterException : plainName nm2 = true := by first | (simp [plainName, overriddenIn]; done) | decide +kernel
theorem d23_0 : decode prog_37_method_2_code 0 = .ok (.aload_n 0, 1) := by decide +kernel
theorem d23_1 : decode prog_37_method_2_code 1 = .ok (.aload_n 2, 1) := by decide +kernel
theorem d23_2 : decode prog_37_method_2_code 2 = .ok (.invokespecial 13, 3) := by decide +kernel
theorem d23_5 : decode prog_37_method_2_code 5 = .ok (.aload_n 0, 1) := by decide +kernel
theorem d23_6 : decode prog_37_method_2_code 6 = .ok (.aload_n 1, 1) := by decide +kernel
theorem d23_7 : decode prog_37_method_2_code 7 = .ok (.ldc 18, 2) := by decide +kernel
theorem d23_9 : decode prog_37_method_2_code 9 = .ok (.invokestatic 20, 3) := by decide +kernel
theorem pd_pLjava_lang_Object_Ljava_lang_String_rLjava_lang_Object_ : parseMethodDescriptor "(Ljava/lang/Object;Ljava/lang/String;)Ljava/lang/Object;" = some ⟨[(.object nm8), (.object nm6)], some (.object nm8)⟩ := by decide +kernel
theorem d23_12 : decode prog_37_method_2_code 12 = .ok (.checkcast 26, 3) := by decide +kernel
theorem d23_15 : decode prog_37_method_2_code 15 = .ok (.putfield 28, 3) := by decide +kernel
theorem d23_18 : decode prog_37_method_2_code 18 = .ok (.aload_n 0, 1) := by decide +kernel
theorem d23_19 : decode prog_37_method_2_code 19 = .ok (.aload_n 3, 1) := by decide +kernel
theorem d23_20 : decode prog_37_method_2_code 20 = .ok (.invokestatic 31, 3) := by decide +kernel
theorem d23_23 : decode prog_37_method_2_code 23 = .ok (.putfield 35, 3) := by decide +kernel
theorem d23_26 : decode prog_37_method_2_code 26 = .ok (.return_, 1) := by decide +kernel
theorem ef_rex3 (m : MethodId) (x_ : Addr) (r_ : Addr) (m_ : Value) (e_ : Addr) (hm_ : m_.isRef = true) : entryFrame m #[(rr x_), (rr r_), m_, (rr e_)] 4 = mkF m 0 #[vr x_, vr r_, .val m_, vr e_] [] := by (rcases ref_cases hm_ with rfl | ⟨_, rfl⟩) <;> first | (simp [entryFrame, mkF, argsToLocals, Value.category]; done) | rfl
def Q_rex3 (Z : State) (x_ : Addr) (r_ : Addr) (m_ : Value) (e_ : Addr) (u_ : Addr) (n_ : Addr) (h0 : Heap) (n0 : Nat) (v : Option Value) (h : Heap) (L : List Loc) : Prop := v = none ∧ Fr n0 L ∧ Keep h0 h [x_] ∧ Exa Z h x_ nm2 ∧ Fld Z h x_ nm2 "refusal" nm1 (rr r_) ∧ Fld Z h x_ nm2 "bindingTargets" nm10 (rr e_) ∧ Fld Z h x_ nm5 "detailMessage" nm20 m_
set_option maxRecDepth 65536 in
set_option maxHeartbeats 40000000 in
theorem rm_rex3 (l : Launch) (Z : State) (a0 : Array Value) (hw : HW Z a0) (ws : List Jvm.Cond) (x_ : Addr) (r_ : Addr) (m_ : Value) (e_ : Addr) (u_ : Addr) (n_ : Addr) (h0 : Heap) (n0 : Nat) (O0 : Old Z n0 h0) (E0_ : Exa Z h0 x_ nm2) (U1_ : Unt h0 x_) (F2_ : Fld Z h0 x_ nm5 "backtrace" "Ljava/lang/Object;" .null) (F3_ : Fld Z h0 x_ nm5 "detailMessage" nm20 .null) (F4_ : Fld Z h0 x_ nm5 "cause" "Ljava/lang/Throwable;" .null) (F5_ : Fld Z h0 x_ nm5 "stackTrace" nm16 .null) (F6_ : Fld Z h0 x_ nm5 "suppressedExceptions" nm10 .null) (F7_ : Fld Z h0 x_ nm2 "refusal" nm1 .null) (F8_ : Fld Z h0 x_ nm2 "bindingTargets" nm10 .null) (G9_ : n0 ≤ x_) (hm_ : m_.isRef = true) (ZS11_ : Sta Z Z.heap nm5 "UNASSIGNED_STACK" nm16 (rr u_)) (ZS12_ : Sta Z Z.heap nm5 "SUPPRESSED_SENTINEL" nm10 (rr n_)) (hst : l.stackTraces = true) (E14_ : Exa Z h0 r_ nm0) (ZE15_ : Exa Z Z.heap e_ nm9) (ZF16_ : Fld Z Z.heap e_ nm9 "allowNulls" "Z" (ii 0)) :
  MFK l Z (⟨nm2, "<init>", "(Lcom/example/rosterd/rosterd/core/Refusal;Ljava/lang/String;Ljava/util/List;)V"⟩ : MethodName) prog_37_method_2_code 4 none ({ frames := 6, cells := 3, slots := 2784, locals := 81 } : Room) ws #[(rr x_), (rr r_), m_, (rr e_)] h0 (Q_rex3 Z x_ r_ m_ e_ u_ n_ h0 n0) := by
 refine MetFree.of_bodySF (plainFor_of_name pn_com_example_rosterd_rosterd_core_RosterException) hisR ?_
 intro p e s m args below meth c s₁ Bd hml0 hP hK
 obtain ⟨rfl, hZ, hh⟩ := hP
 have hx := Bd.exec
 have hby := Bd.bytes
 have hml : c.maxLocals = 4 := hml0
 have hown : s.vm.findClass nm2 = some m.cls := findClass_of_methodNamed Bd.named
 have hnm := (name_of_methodNamed Bd.named Bd.method).1
 have X0 : Stand p l e ({ frames := 6, cells := 3, slots := 2784, locals := 81 } : Room) (s.setVm s.vm) m #[(rr x_), (rr r_), m_, (rr e_)] below meth c s₁ [] 0 0 := Stand.of_body Bd
 have e0 : s₁.heap = h0 := by rw [← hh, Bd.state]; rfl
 have N0 := Fr.nil n0
 have kp0 : Keep h0 h0 [x_] := Keep.refl _ _
 obtain ⟨hTK, hBelow⟩ := hK
 have hS0 : s.Since s.vm 0 := (State.WarmedH.refl s).since 0
 have c0 : ∀ t, S_ p e below s₁ m 0 #[vr x_, vr r_, .val m_, vr e_] [] t → Steps p.tables e below (s₁.setTop (entryFrame m #[(rr x_), (rr r_), m_, (rr e_)] 4)) t := fun t k => castTop (ef_rex3 m x_ r_ m_ e_ hm_) k
 generalize s₁.setTop (entryFrame m #[(rr x_), (rr r_), m_, (rr e_)] 4) = st0 at c0 ⊢
 replace c0 : Kt p e below s₁ st0 (mkF m 0 #[vr x_, vr r_, .val m_, vr e_] []) := c0
 have c1 : Kt p e below s₁ st0 (mkF m 2 #[vr x_, vr r_, .val m_, vr e_] [m_, (rr x_)]) := fun t k => by
  refine c0 t ?_
  show S_ p e below s₁ m 0 #[vr x_, vr r_, .val m_, vr e_] [] t
  refine XS.aloadN X0.here hx rfl (hb hby d23_0) rfl rfl ?_
  show S_ p e below s₁ m 1 #[vr x_, vr r_, .val m_, vr e_] [(rr x_)] t
  refine XS.aloadN X0.here hx rfl (hb hby d23_1) rfl hm_ ?_
  exact k
 obtain ⟨_, T2, L2, X2, hQ2, hS2, hZ2, hown2, c2⟩ := kspecB X0 hx hZ hown hS0 (Nat.zero_le _) (w115 hw) (w116 hw) (w119 hw) (rm := ({ frames := 5, cells := 1, slots := 2752, locals := 68 } : Room)) (backOfSKL (W := 0) (rm_rte l Z a0 hw [] x_ m_ u_ n_ h0 n0 O0 E0_ U1_ F2_ F3_ F4_ F5_ F6_ F7_ F8_ G9_ hm_ ZS11_ ZS12_ hst) hZ (w119 hw) (w118 hw) (by decide) (by decide) hTK hBelow) e0 c1 hml pd_pLjava_lang_String_rV x_ [m_] [] (hb hby d23_2) rfl rfl rfl rfl rfl rfl
 obtain ⟨rfl, N3q, K4, p5, p6, p7, p8⟩ := hQ2
 have N3 := Fr.app N0 N3q
 have o9 := O0.keep K4 (allS G9_ all0)
 have kp10 := kp0.trans K4 (allS (Or.inl (List.mem_of_getElem? (i := 0) rfl)) all0)
 have c11 : Kt p e below T2 st0 (mkF m 7 #[vr x_, vr r_, .val m_, vr e_] [(rr r_), (rr x_)]) := fun t k => by
  refine c2 t ?_
  show S_ p e below T2 m 5 #[vr x_, vr r_, .val m_, vr e_] [] t
  refine XS.aloadN X2.here hx rfl (hb hby d23_5) rfl rfl ?_
  show S_ p e below T2 m 6 #[vr x_, vr r_, .val m_, vr e_] [(rr x_)] t
  refine XS.aloadN X2.here hx rfl (hb hby d23_6) rfl rfl ?_
  exact k
 obtain ⟨a12, T12, h12, k12, X12, e12, E12, o13, hS12, hk12, hZ12, hown12, c12⟩ := kldc X2 hx hZ2 hown2 hS2 (Nat.le_refl _) (w169 hw) (own_atoms hw) rfl c11 28 (hb hby d23_7) rfl (by decide) (by decide) (by decide) (by decide) o9
 have kp14 := kp10.ext E12
 obtain ⟨_, T15, L15, X15, hQ15, c15⟩ := kstat X12 hx hZ12 hown12 (w172 hw) (w173 hw) (w174 hw) (w175 hw) (rm_rnn l Z a0 hw [] r_ a12 h12 n0 o13 ) e12 c12 hml pd_pLjava_lang_Object_Ljava_lang_String_rLjava_lang_Object_ [(rr r_), (rr a12)] [(rr x_)] 1 (hb hby d23_9) rfl rfl rfl rfl rfl rfl
 obtain ⟨rfl, N16q, K17⟩ := hQ15
 have N16 := Fr.app N3 N16q
 obtain ⟨T18, X18, e18, c18⟩ := kcast X15 hx hZ12 hown12 (w176 hw) K17 (Ins.self ((E14_.keep K4).ext E12)) c15 rfl rfl (hb hby d23_12)
 obtain ⟨T19, h19, X19, e19, W19, f20, o22, N21, c19⟩ := kput X18 hx hZ12 (.object nm0) hown12 (host := "") (Or.inl (w178 hw)) Via.refl e18 (p7.ext E12) (p5.ext E12) (Or.inr ⟨(w179 hw), rfl, hnm⟩) (w106 hw) c18 rfl rfl (hb hby d23_15) (by decide) rfl rfl o13 N16 G9_
 have kp23 := kp14.wr W19 (Or.inl (List.mem_of_getElem? (i := 0) rfl))
 have c24 : Kt p e below T19 st0 (mkF m 20 #[vr x_, vr r_, .val m_, vr e_] [(rr e_), (rr x_)]) := fun t k => by
  refine c19 t ?_
  show S_ p e below T19 m 18 #[vr x_, vr r_, .val m_, vr e_] [] t
  refine XS.aloadN X19.here hx rfl (hb hby d23_18) rfl rfl ?_
  show S_ p e below T19 m 19 #[vr x_, vr r_, .val m_, vr e_] [(rr x_)] t
  refine XS.aloadN X19.here hx rfl (hb hby d23_19) rfl rfl ?_
  exact k
 obtain ⟨_, T25, L25, X25, hQ25, c25⟩ := kstat X19 hx hZ12 hown12 (w180 hw) (w181 hw) (w100 hw) (w182 hw) (rm_copyof l Z a0 hw [] e_ h19 n0 o22 ZE15_ ZF16_) e19 c24 hml pd_pLjava_util_Collection_rLjava_util_List_ [(rr e_)] [(rr x_)] 1 (hb hby d23_20) rfl rfl rfl rfl rfl rfl
 obtain ⟨rfl, N26q, K27⟩ := hQ25
 have N26 := Fr.app N21 N26q
 have f28 := (p8.ext E12).other W19 (Or.inr (slot_ne (Or.inr (w199 hw)) (Or.inr (w179 hw)) (by decide) (t := (.object nm7)) (t' := (.object nm0)) (by decide) (by decide)))
 obtain ⟨T29, h29, X29, e29, W29, f30, o32, N31, c29⟩ := kput X25 hx hZ12 (.object nm7) hown12 (host := "") (Or.inl (w198 hw)) Via.refl K27 f28 ((p5.ext E12).wr W19) (Or.inr ⟨(w199 hw), rfl, hnm⟩) (w106 hw) c25 rfl rfl (hb hby d23_23) (by decide) rfl rfl o22 N26 G9_
 have kp33 := kp23.wr W29 (Or.inl (List.mem_of_getElem? (i := 0) rfl))
 have f34 := f20.other W29 (Or.inr (slot_ne (Or.inr (w179 hw)) (Or.inr (w199 hw)) (by decide) (t := (.object nm0)) (t' := (.object nm7)) (by decide) (by decide)))
 have f35 := ((p6.ext E12).other W19 (Or.inr (slot_ne (Or.inl (w164 hw)) (Or.inr (w179 hw)) (by decide) (t := (.object nm6)) (t' := (.object nm0)) (by decide) (by decide)))).other W29 (Or.inr (slot_ne (Or.inl (w164 hw)) (Or.inr (w199 hw)) (by decide) (t := (.object nm6)) (t' := (.object nm7)) (by decide) (by decide)))
 obtain ⟨fs, hr, hrun, hended, hRW⟩ := X29.leaveW hS12 (by first | exact (Nat.le_trans hk12 (Nat.le_trans (Keep.of_wr W19).1 (Keep.of_wr W29).1)) | (rw [e29]; exact (Nat.le_trans hk12 (Nat.le_trans (Keep.of_wr W19).1 (Keep.of_wr W29).1)))) (v := none) (fun _ => rfl)
 refine ⟨_, _, c29 _ ?_, hrun, hended, _, _, rfl, ?_, hRW.1, hRW.2.1, hRW.2.2.1, hRW.2.2.2.mono (by decide) (by decide)⟩
 ·show S_ p e below T29 m 26 #[vr x_, vr r_, .val m_, vr e_] [] _
  exact X29.returnOut hx Bd.returns (hb hby d23_26) hr
 ·show Q_rex3 Z x_ r_ m_ e_ u_ n_ h0 n0 _ T29.heap _
  rw [e29]
  exact ⟨rfl, N31, kp33, (((p5.ext E12).wr W19).wr W29), f34, f30, f35⟩
theorem d24_0 : decode prog_37_method_1_code 0 = .ok (.aload_n 0, 1) := by decide +kernel
theorem d24_1 : decode prog_37_method_1_code 1 = .ok (.aload_n 1, 1) := by decide +kernel
theorem d24_2 : decode prog_37_method_1_code 2 = .ok (.aload_n 2, 1) := by decide +kernel
theorem d24_3 : decode prog_37_method_1_code 3 = .ok (.invokestatic 1, 3) := by decide +kernel
theorem d24_6 : decode prog_37_method_1_code 6 = .ok (.invokespecial 7, 3) := by decide +kernel
theorem pd_pLcom_example_rosterd_rosterd_core_Refusal_Ljava_lang_String_Ljava_util_List_rV : parseMethodDescriptor "(Lcom/example/rosterd/rosterd/core/Refusal;Ljava/lang/String;Ljava/util/List;)V" = some ⟨[(.object nm0), (.object nm6), (.object nm7)], none⟩ := by decide +kernel
theorem d24_9 : decode prog_37_method_1_code 9 = .ok (.return_, 1) := by decide +kernel
theorem ef_rex2 (m : MethodId) (x_ : Addr) (r_ : Addr) (m_ : Value) (hm_ : m_.isRef = true) : entryFrame m #[(rr x_), (rr r_), m_] 3 = mkF m 0 #[vr x_, vr r_, .val m_] [] := by (rcases ref_cases hm_ with rfl | ⟨_, rfl⟩) <;> first | (simp [entryFrame, mkF, argsToLocals, Value.category]; done) | rfl
def Q_rex2 (Z : State) (x_ : Addr) (r_ : Addr) (m_ : Value) (e_ : Addr) (u_ : Addr) (n_ : Addr) (h0 : Heap) (n0 : Nat) (v : Option Value) (h : Heap) (L : List Loc) : Prop := v = none ∧ Fr n0 L ∧ Keep h0 h [x_] ∧ Exa Z h x_ nm2 ∧ Fld Z h x_ nm2 "refusal" nm1 (rr r_) ∧ Fld Z h x_ nm2 "bindingTargets" nm10 (rr e_) ∧ Fld Z h x_ nm5 "detailMessage" nm20 m_
set_option maxRecDepth 65536 in
set_option maxHeartbeats 40000000 in
theorem rm_rex2 (l : Launch) (Z : State) (a0 : Array Value) (hw : HW Z a0) (ws : List Jvm.Cond) (x_ : Addr) (r_ : Addr) (m_ : Value) (e_ : Addr) (u_ : Addr) (n_ : Addr) (h0 : Heap) (n0 : Nat) (O0 : Old Z n0 h0) (ZS0_ : Sta Z Z.heap nm14 "EMPTY_LIST" "Ljava/util/ImmutableCollections$ListN;" (rr e_)) (E1_ : Exa Z h0 x_ nm2) (U2_ : Unt h0 x_) (F3_ : Fld Z h0 x_ nm5 "backtrace" "Ljava/lang/Object;" .null) (F4_ : Fld Z h0 x_ nm5 "detailMessage" nm20 .null) (F5_ : Fld Z h0 x_ nm5 "cause" "Ljava/lang/Throwable;" .null) (F6_ : Fld Z h0 x_ nm5 "stackTrace" nm16 .null) (F7_ : Fld Z h0 x_ nm5 "suppressedExceptions" nm10 .null) (F8_ : Fld Z h0 x_ nm2 "refusal" nm1 .null) (F9_ : Fld Z h0 x_ nm2 "bindingTargets" nm10 .null) (G10_ : n0 ≤ x_) (hm_ : m_.isRef = true) (ZS12_ : Sta Z Z.heap nm5 "UNASSIGNED_STACK" nm16 (rr u_)) (ZS13_ : Sta Z Z.heap nm5 "SUPPRESSED_SENTINEL" nm10 (rr n_)) (hst : l.stackTraces = true) (E15_ : Exa Z h0 r_ nm0) (ZE16_ : Exa Z Z.heap e_ nm9) (ZF17_ : Fld Z Z.heap e_ nm9 "allowNulls" "Z" (ii 0)) :
  MFK l Z (⟨nm2, "<init>", "(Lcom/example/rosterd/rosterd/core/Refusal;Ljava/lang/String;)V"⟩ : MethodName) prog_37_method_1_code 3 none ({ frames := 7, cells := 3, slots := 2784, locals := 96 } : Room) ws #[(rr x_), (rr r_), m_] h0 (Q_rex2 Z x_ r_ m_ e_ u_ n_ h0 n0) := by
 refine MetFree.of_bodySF (plainFor_of_name pn_com_example_rosterd_rosterd_core_RosterException) hisR ?_
 intro p e s m args below meth c s₁ Bd hml0 hP hK
 obtain ⟨rfl, hZ, hh⟩ := hP
 have hx := Bd.exec
 have hby := Bd.bytes
 have hml : c.maxLocals = 3 := hml0
 have hown : s.vm.findClass nm2 = some m.cls := findClass_of_methodNamed Bd.named
 have hnm := (name_of_methodNamed Bd.named Bd.method).1
 have X0 : Stand p l e ({ frames := 7, cells := 3, slots := 2784, locals := 96 } : Room) (s.setVm s.vm) m #[(rr x_), (rr r_), m_] below meth c s₁ [] 0 0 := Stand.of_body Bd
 have e0 : s₁.heap = h0 := by rw [← hh, Bd.state]; rfl
 have N0 := Fr.nil n0
 have kp0 : Keep h0 h0 [x_] := Keep.refl _ _
 obtain ⟨hTK, hBelow⟩ := hK
 have hS0 : s.Since s.vm 0 := (State.WarmedH.refl s).since 0
 have c0 : ∀ t, S_ p e below s₁ m 0 #[vr x_, vr r_, .val m_] [] t → Steps p.tables e below (s₁.setTop (entryFrame m #[(rr x_), (rr r_), m_] 3)) t := fun t k => castTop (ef_rex2 m x_ r_ m_ hm_) k
 generalize s₁.setTop (entryFrame m #[(rr x_), (rr r_), m_] 3) = st0 at c0 ⊢
 replace c0 : Kt p e below s₁ st0 (mkF m 0 #[vr x_, vr r_, .val m_] []) := c0
 have c1 : Kt p e below s₁ st0 (mkF m 3 #[vr x_, vr r_, .val m_] [m_, (rr r_), (rr x_)]) := fun t k => by
  refine c0 t ?_
  show S_ p e below s₁ m 0 #[vr x_, vr r_, .val m_] [] t
  refine XS.aloadN X0.here hx rfl (hb hby d24_0) rfl rfl ?_
  show S_ p e below s₁ m 1 #[vr x_, vr r_, .val m_] [(rr x_)] t
  refine XS.aloadN X0.here hx rfl (hb hby d24_1) rfl rfl ?_
  show S_ p e below s₁ m 2 #[vr x_, vr r_, .val m_] [(rr r_), (rr x_)] t
  refine XS.aloadN X0.here hx rfl (hb hby d24_2) rfl hm_ ?_
  exact k
 obtain ⟨_, T2, L2, X2, hQ2, c2⟩ := kstat X0 hx hZ hown (w111 hw) (w99 hw) (w100 hw) (w101 hw) (rm_listof l Z a0 hw [] e_ h0 n0 O0 ZS0_) e0 c1 hml pd_prLjava_util_List_ [] [m_, (rr r_), (rr x_)] 3 (hb hby d24_3) rfl rfl rfl rfl rfl (by rcases ref_cases hm_ with q0 | ⟨_, q0⟩ <;> rw [q0] <;> rfl)
 obtain ⟨rfl, N3q, K4⟩ := hQ2
 have N3 := Fr.app N0 N3q
 obtain ⟨_, T5, L5, X5, hQ5, hS5, hZ5, hown5, c5⟩ := kspecB X2 hx hZ hown hS0 (Nat.zero_le _) (w112 hw) (w113 hw) (w114 hw) (rm := ({ frames := 6, cells := 3, slots := 2784, locals := 81 } : Room)) (backOfSKL (W := 0) (rm_rex3 l Z a0 hw [] x_ r_ m_ e_ u_ n_ h0 n0 O0 E1_ U2_ F3_ F4_ F5_ F6_ F7_ F8_ F9_ G10_ hm_ ZS12_ ZS13_ hst E15_ ZE16_ ZF17_) hZ (w114 hw) (w107 hw) (by decide) (by decide) hTK hBelow) K4 c2 hml pd_pLcom_example_rosterd_rosterd_core_Refusal_Ljava_lang_String_Ljava_util_List_rV x_ [(rr r_), m_, (rr e_)] [] (hb hby d24_6) rfl rfl rfl rfl rfl rfl
 obtain ⟨rfl, N6q, K7, p8, p9, p10, p11⟩ := hQ5
 have N6 := Fr.app N3 N6q
 have o12 := O0.keep K7 (allS G10_ all0)
 have kp13 := kp0.trans K7 (allS (Or.inl (List.mem_of_getElem? (i := 0) rfl)) all0)
 obtain ⟨fs, hr, hrun, hended, hRW⟩ := X5.leaveW hS5 (by first | exact (Nat.le_refl _) | (rw [rfl]; exact (Nat.le_refl _))) (v := none) (fun _ => rfl)
 refine ⟨_, _, c5 _ ?_, hrun, hended, _, _, rfl, ?_, hRW.1, hRW.2.1, hRW.2.2.1, hRW.2.2.2.mono (by decide) (by decide)⟩
 ·show S_ p e below T5 m 9 #[vr x_, vr r_, .val m_] [] _
  exact X5.returnOut hx Bd.returns (hb hby d24_9) hr
 ·show Q_rex2 Z x_ r_ m_ e_ u_ n_ h0 n0 _ T5.heap _
  exact ⟨rfl, N6, kp13, p8, p9, p10, p11⟩
theorem d25_0 : decode prog_37_method_4_code 0 = .ok (.aload_n 0, 1) := by decide +kernel
theorem d25_1 : decode prog_37_method_4_code 1 = .ok (.getfield 28, 3) := by decide +kernel
theorem d25_4 : decode prog_37_method_4_code 4 = .ok (.areturn, 1) := by decide +kernel
theorem ef_rexR (m : MethodId) (x_ : Addr) : entryFrame m #[(rr x_)] 1 = mkF m 0 #[vr x_] [] := by first | (simp [entryFrame, mkF, argsToLocals, Value.category]; done) | rfl
def Q_rexR (Z : State) (x_ : Addr) (r_ : Addr) (h0 : Heap) (n0 : Nat) (v : Option Value) (h : Heap) (L : List Loc) : Prop := v = some (rr r_) ∧ Fr n0 L ∧ h = h0
set_option maxRecDepth 65536 in
set_option maxHeartbeats 40000000 in
theorem rm_rexR (l : Launch) (Z : State) (a0 : Array Value) (hw : HW Z a0) (ws : List Jvm.Cond) (x_ : Addr) (r_ : Addr) (h0 : Heap) (n0 : Nat) (O0 : Old Z n0 h0) (F0_ : Fld Z h0 x_ nm2 "refusal" nm1 (rr r_)) :
  MFP l Z (⟨nm2, "refusal", nm25⟩ : MethodName) prog_37_method_4_code 1 (some (.object nm0)) ({ frames := 0, cells := 0, slots := 0, locals := 0 } : Room) ws #[(rr x_)] h0 (Q_rexR Z x_ r_ h0 n0) := by
 refine MetFree.of_bodySF (plainFor_of_name pn_com_example_rosterd_rosterd_core_RosterException) hisR ?_
 intro p e s m args below meth c s₁ Bd hml0 hP hK
 obtain ⟨rfl, hZ, hh⟩ := hP
 have hx := Bd.exec
 have hby := Bd.bytes
 have hml : c.maxLocals = 1 := hml0
 have hown : s.vm.findClass nm2 = some m.cls := findClass_of_methodNamed Bd.named
 have hnm := (name_of_methodNamed Bd.named Bd.method).1
 have X0 : Stand p l e ({ frames := 0, cells := 0, slots := 0, locals := 0 } : Room) s m #[(rr x_)] below meth c s₁ [] 0 0 := Stand.of_body Bd
 have e0 : s₁.heap = h0 := by rw [← hh, Bd.state]; rfl
 have N0 := Fr.nil n0
 have kp0 : Keep h0 h0 [] := Keep.refl _ _
 have c0 : ∀ t, S_ p e below s₁ m 0 #[vr x_] [] t → Steps p.tables e below (s₁.setTop (entryFrame m #[(rr x_)] 1)) t := fun t k => castTop (ef_rexR m x_) k
 generalize s₁.setTop (entryFrame m #[(rr x_)] 1) = st0 at c0 ⊢
 replace c0 : Kt p e below s₁ st0 (mkF m 0 #[vr x_] []) := c0
 have c1 : Kt p e below s₁ st0 (mkF m 1 #[vr x_] [(rr x_)]) := fun t k => by
  refine c0 t ?_
  show S_ p e below s₁ m 0 #[vr x_] [] t
  refine XS.aloadN X0.here hx rfl (hb hby d25_0) rfl rfl ?_
  exact k
 obtain ⟨T2, X2, e2, c2⟩ := kget X0 hx hZ hown (host := "") (Or.inl (w178 hw)) Via.refl e0 F0_ c1 rfl rfl (hb hby d25_1)
 obtain ⟨fs, hr, hrun, hended, hW, hsame⟩ := X2.leave (v := some (rr r_)) (fun h => by rw [Bd.returns] at h; cases h)
 refine ⟨_, _, c2 _ ?_, hrun, hended, _, _, rfl, ?_, ⟨_, rfl⟩, hW, hsame.mono (by decide) (by decide)⟩
 ·show S_ p e below T2 m 4 #[vr x_] [(rr r_)] _
  exact retOut X2 hx Bd.returns rfl (Or.inr (Or.inr (Or.inr (Or.inr ⟨rfl, rfl, rfl⟩)))) (hb hby d25_4) hr
 ·show Q_rexR Z x_ r_ h0 n0 _ T2.heap _
  rw [e2]
  exact ⟨rfl, N0, rfl⟩
theorem d26_0 : decode jdk_78_method_6_code 0 = .ok (.aload_n 0, 1) := by decide +kernel
theorem d26_1 : decode jdk_78_method_6_code 1 = .ok (.getfield 31, 3) := by decide +kernel
theorem d26_4 : decode jdk_78_method_6_code 4 = .ok (.areturn, 1) := by decide +kernel
theorem ef_rexM (m : MethodId) (x_ : Addr) : entryFrame m #[(rr x_)] 1 = mkF m 0 #[vr x_] [] := by first | (simp [entryFrame, mkF, argsToLocals, Value.category]; done) | rfl
def Q_rexM (Z : State) (x_ : Addr) (m_ : Value) (h0 : Heap) (n0 : Nat) (v : Option Value) (h : Heap) (L : List Loc) : Prop := v = some m_ ∧ Fr n0 L ∧ h = h0
set_option maxRecDepth 65536 in
set_option maxHeartbeats 40000000 in
theorem rm_rexM (l : Launch) (Z : State) (a0 : Array Value) (hw : HW Z a0) (ws : List Jvm.Cond) (x_ : Addr) (m_ : Value) (h0 : Heap) (n0 : Nat) (O0 : Old Z n0 h0) (F0_ : Fld Z h0 x_ nm5 "detailMessage" nm20 m_) (hm_ : m_.isRef = true) :
  MFP l Z (⟨nm5, "getMessage", "()Ljava/lang/String;"⟩ : MethodName) jdk_78_method_6_code 1 (some (.object nm6)) ({ frames := 0, cells := 0, slots := 0, locals := 0 } : Room) ws #[(rr x_)] h0 (Q_rexM Z x_ m_ h0 n0) := by
 refine MetFree.of_bodySF (plainFor_of_name pn_java_lang_Throwable) hisR ?_
 intro p e s m args below meth c s₁ Bd hml0 hP hK
 obtain ⟨rfl, hZ, hh⟩ := hP
 have hx := Bd.exec
 have hby := Bd.bytes
 have hml : c.maxLocals = 1 := hml0
 have hown : s.vm.findClass nm5 = some m.cls := findClass_of_methodNamed Bd.named
 have hnm := (name_of_methodNamed Bd.named Bd.method).1
 have X0 : Stand p l e ({ frames := 0, cells := 0, slots := 0, locals := 0 } : Room) s m #[(rr x_)] below meth c s₁ [] 0 0 := Stand.of_body Bd
 have e0 : s₁.heap = h0 := by rw [← hh, Bd.state]; rfl
 have N0 := Fr.nil n0
 have kp0 : Keep h0 h0 [] := Keep.refl _ _
 have c0 : ∀ t, S_ p e below s₁ m 0 #[vr x_] [] t → Steps p.tables e below (s₁.setTop (entryFrame m #[(rr x_)] 1)) t := fun t k => castTop (ef_rexM m x_) k
 generalize s₁.setTop (entryFrame m #[(rr x_)] 1) = st0 at c0 ⊢
 replace c0 : Kt p e below s₁ st0 (mkF m 0 #[vr x_] []) := c0
 have c1 : Kt p e below s₁ st0 (mkF m 1 #[vr x_] [(rr x_)]) := fun t k => by
  refine c0 t ?_
  show S_ p e below s₁ m 0 #[vr x_] [] t
  refine XS.aloadN X0.here hx rfl (hb hby d26_0) rfl rfl ?_
  exact k
 obtain ⟨T2, X2, e2, c2⟩ := kget X0 hx hZ hown (host := "") (Or.inl (w168 hw)) Via.refl e0 F0_ c1 rfl rfl (hb hby d26_1)
 obtain ⟨fs, hr, hrun, hended, hW, hsame⟩ := X2.leave (v := some m_) (fun h => by rw [Bd.returns] at h; cases h)
 refine ⟨_, _, c2 _ ?_, hrun, hended, _, _, rfl, ?_, ⟨_, rfl⟩, hW, hsame.mono (by decide) (by decide)⟩
 ·show S_ p e below T2 m 4 #[vr x_] [m_] _
  exact retOut X2 hx Bd.returns (narrow_isRef _ hm_) (Or.inr (Or.inr (Or.inr (Or.inr ⟨rfl, rfl, hm_⟩)))) (hb hby d26_4) hr
 ·show Q_rexM Z x_ m_ h0 n0 _ T2.heap _
  rw [e2]
  exact ⟨rfl, N0, rfl⟩
theorem d27_0 : decode prog_37_method_5_code 0 = .ok (.aload_n 0, 1) := by decide +kernel
theorem d27_1 : decode prog_37_method_5_code 1 = .ok (.getfield 35, 3) := by decide +kernel
theorem d27_4 : decode prog_37_method_5_code 4 = .ok (.areturn, 1) := by decide +kernel
theorem ef_rexB (m : MethodId) (x_ : Addr) : entryFrame m #[(rr x_)] 1 = mkF m 0 #[vr x_] [] := by first | (simp [entryFrame, mkF, argsToLocals, Value.category]; done) | rfl
def Q_rexB (Z : State) (x_ : Addr) (e_ : Addr) (h0 : Heap) (n0 : Nat) (v : Option Value) (h : Heap) (L : List Loc) : Prop := v = some (rr e_) ∧ Fr n0 L ∧ h = h0
set_option maxRecDepth 65536 in
set_option maxHeartbeats 40000000 in
theorem rm_rexB (l : Launch) (Z : State) (a0 : Array Value) (hw : HW Z a0) (ws : List Jvm.Cond) (x_ : Addr) (e_ : Addr) (h0 : Heap) (n0 : Nat) (O0 : Old Z n0 h0) (F0_ : Fld Z h0 x_ nm2 "bindingTargets" nm10 (rr e_)) :
  MFP l Z (⟨nm2, "bindingTargets", "()Ljava/util/List;"⟩ : MethodName) prog_37_method_5_code 1 (some (.object nm7)) ({ frames := 0, cells := 0, slots := 0, locals := 0 } : Room) ws #[(rr x_)] h0 (Q_rexB Z x_ e_ h0 n0) := by
 refine MetFree.of_bodySF (plainFor_of_name pn_com_example_rosterd_rosterd_core_RosterException) hisR ?_
 intro p e s m args below meth c s₁ Bd hml0 hP hK
 obtain ⟨rfl, hZ, hh⟩ := hP
 have hx := Bd.exec
 have hby := Bd.bytes
 have hml : c.maxLocals = 1 := hml0
 have hown : s.vm.findClass nm2 = some m.cls := findClass_of_methodNamed Bd.named
 have hnm := (name_of_methodNamed Bd.named Bd.method).1
 have X0 : Stand p l e ({ frames := 0, cells := 0, slots := 0, locals := 0 } : Room) s m #[(rr x_)] below meth c s₁ [] 0 0 := Stand.of_body Bd
 have e0 : s₁.heap = h0 := by rw [← hh, Bd.state]; rfl
 have N0 := Fr.nil n0
 have kp0 : Keep h0 h0 [] := Keep.refl _ _
 have c0 : ∀ t, S_ p e below s₁ m 0 #[vr x_] [] t → Steps p.tables e below (s₁.setTop (entryFrame m #[(rr x_)] 1)) t := fun t k => castTop (ef_rexB m x_) k
 generalize s₁.setTop (entryFrame m #[(rr x_)] 1) = st0 at c0 ⊢
 replace c0 : Kt p e below s₁ st0 (mkF m 0 #[vr x_] []) := c0
 have c1 : Kt p e below s₁ st0 (mkF m 1 #[vr x_] [(rr x_)]) := fun t k => by
  refine c0 t ?_
  show S_ p e below s₁ m 0 #[vr x_] [] t
  refine XS.aloadN X0.here hx rfl (hb hby d27_0) rfl rfl ?_
  exact k
 obtain ⟨T2, X2, e2, c2⟩ := kget X0 hx hZ hown (host := "") (Or.inl (w198 hw)) Via.refl e0 F0_ c1 rfl rfl (hb hby d27_1)
 obtain ⟨fs, hr, hrun, hended, hW, hsame⟩ := X2.leave (v := some (rr e_)) (fun h => by rw [Bd.returns] at h; cases h)
 refine ⟨_, _, c2 _ ?_, hrun, hended, _, _, rfl, ?_, ⟨_, rfl⟩, hW, hsame.mono (by decide) (by decide)⟩
 ·show S_ p e below T2 m 4 #[vr x_] [(rr e_)] _
  exact retOut X2 hx Bd.returns rfl (Or.inr (Or.inr (Or.inr (Or.inr ⟨rfl, rfl, rfl⟩)))) (hb hby d27_4) hr
 ·show Q_rexB Z x_ e_ h0 n0 _ T2.heap _
  rw [e2]
  exact ⟨rfl, N0, rfl⟩
theorem d28_0 : decode prog_29_method_3_code 0 = .ok (.new 8, 3) := by decide +kernel
theorem d28_3 : decode prog_29_method_3_code 3 = .ok (.dup, 1) := by decide +kernel
theorem d28_4 : decode prog_29_method_3_code 4 = .ok (.aload_n 0, 1) := by decide +kernel
theorem d28_5 : decode prog_29_method_3_code 5 = .ok (.aload_n 1, 1) := by decide +kernel
theorem d28_6 : decode prog_29_method_3_code 6 = .ok (.invokevirtual 34, 3) := by decide +kernel
theorem pd_prLcom_example_rosterd_rosterd_core_Refusal_ : parseMethodDescriptor nm25 = some ⟨[], some (.object nm0)⟩ := by decide +kernel
theorem d28_9 : decode prog_29_method_3_code 9 = .ok (.aload_n 1, 1) := by decide +kernel
theorem d28_10 : decode prog_29_method_3_code 10 = .ok (.invokevirtual 39, 3) := by decide +kernel
theorem pd_prLjava_lang_String_ : parseMethodDescriptor "()Ljava/lang/String;" = some ⟨[], some (.object nm6)⟩ := by decide +kernel
theorem d28_13 : decode prog_29_method_3_code 13 = .ok (.aload_n 1, 1) := by decide +kernel
theorem d28_14 : decode prog_29_method_3_code 14 = .ok (.invokevirtual 43, 3) := by decide +kernel
theorem d28_17 : decode prog_29_method_3_code 17 = .ok (.invokespecial 31, 3) := by decide +kernel
theorem d28_20 : decode prog_29_method_3_code 20 = .ok (.areturn, 1) := by decide +kernel
theorem ef_refused (m : MethodId) (i_ : Value) (x_ : Addr) (hi_ : i_.isRef = true) : entryFrame m #[i_, (rr x_)] 2 = mkF m 0 #[.val i_, vr x_] [] := by (rcases ref_cases hi_ with rfl | ⟨_, rfl⟩) <;> first | (simp [entryFrame, mkF, argsToLocals, Value.category]; done) | rfl
def Q_refused (Z : State) (x_ : Addr) (i_ : Value) (r_ : Addr) (m_ : Value) (e_ : Addr) (h0 : Heap) (n0 : Nat) (v : Option Value) (h : Heap) (L : List Loc) : Prop := ∃ (o_ : Addr), v = some (rr o_) ∧ Fr n0 L ∧ Keep h0 h [] ∧ Exa Z h o_ nm3 ∧ Fld Z h o_ nm3 "refusal" nm1 (rr r_)
set_option maxRecDepth 65536 in
set_option maxHeartbeats 40000000 in
theorem rm_refused (l : Launch) (Z : State) (a0 : Array Value) (hw : HW Z a0) (ws : List Jvm.Cond) (x_ : Addr) (i_ : Value) (r_ : Addr) (m_ : Value) (e_ : Addr) (h0 : Heap) (n0 : Nat) (O0 : Old Z n0 h0) (E0_ : Exa Z h0 x_ nm2) (F1_ : Fld Z h0 x_ nm2 "refusal" nm1 (rr r_)) (F2_ : Fld Z h0 x_ nm2 "bindingTargets" nm10 (rr e_)) (F3_ : Fld Z h0 x_ nm5 "detailMessage" nm20 m_) (hi_ : i_.isRef = true) (hm_ : m_.isRef = true) :
  MFP l Z (⟨nm3, "refused", "(Ljava/lang/Object;Lcom/example/rosterd/rosterd/core/RosterException;)Lcom/example/rosterd/rosterd/core/Outcome;"⟩ : MethodName) prog_29_method_3_code 2 (some (.object nm3)) ({ frames := 3, cells := 1, slots := 4, locals := 41 } : Room) ws #[i_, (rr x_)] h0 (Q_refused Z x_ i_ r_ m_ e_ h0 n0) := by
 refine MetFree.of_bodySF (plainFor_of_name pn_com_example_rosterd_rosterd_core_Outcome) hisR ?_
 intro p e s m args below meth c s₁ Bd hml0 hP hK
 obtain ⟨rfl, hZ, hh⟩ := hP
 have hx := Bd.exec
 have hby := Bd.bytes
 have hml : c.maxLocals = 2 := hml0
 have hown : s.vm.findClass nm3 = some m.cls := findClass_of_methodNamed Bd.named
 have hnm := (name_of_methodNamed Bd.named Bd.method).1
 have X0 : Stand p l e ({ frames := 3, cells := 1, slots := 4, locals := 41 } : Room) s m #[i_, (rr x_)] below meth c s₁ [] 0 0 := Stand.of_body Bd
 have e0 : s₁.heap = h0 := by rw [← hh, Bd.state]; rfl
 have N0 := Fr.nil n0
 have kp0 : Keep h0 h0 [] := Keep.refl _ _
 have c0 : ∀ t, S_ p e below s₁ m 0 #[.val i_, vr x_] [] t → Steps p.tables e below (s₁.setTop (entryFrame m #[i_, (rr x_)] 2)) t := fun t k => castTop (ef_refused m i_ x_ hi_) k
 generalize s₁.setTop (entryFrame m #[i_, (rr x_)] 2) = st0 at c0 ⊢
 replace c0 : Kt p e below s₁ st0 (mkF m 0 #[.val i_, vr x_] []) := c0
 obtain ⟨b1, T1, h1, z1, g1, X1, e1, E1, o2, A1, D1, U1, c1⟩ := knew X0 hx hZ hown (w97 hw) (w70 hw) (w71 hw) e0 c0 rfl (hb hby d28_0) (by decide) (by decide) O0
 have kp3 := kp0.ext E1
 have z4 := Nat.le_trans kp0.1 z1
 have c5 : Kt p e below T1 st0 (mkF m 6 #[.val i_, vr x_] [(rr x_), i_, (rr b1), (rr b1)]) := fun t k => by
  refine c1 t ?_
  show S_ p e below T1 m 3 #[.val i_, vr x_] [(rr b1)] t
  refine XS.dup X1.here hx rfl (hb hby d28_3) rfl rfl ?_
  show S_ p e below T1 m 4 #[.val i_, vr x_] [(rr b1), (rr b1)] t
  refine XS.aloadN X1.here hx rfl (hb hby d28_4) rfl hi_ ?_
  show S_ p e below T1 m 5 #[.val i_, vr x_] [i_, (rr b1), (rr b1)] t
  refine XS.aloadN X1.here hx rfl (hb hby d28_5) rfl rfl ?_
  exact k
 obtain ⟨_, T6, L6, X6, hQ6, c6⟩ := kvirt X1 hx hZ hown (w203 hw) (w204 hw) (w206 hw) (w205 hw) (w207 hw) (w107 hw) (rm_rexR l Z a0 hw [] x_ r_ h1 n0 o2 (F1_.ext E1)) e1 (E0_.ext E1) c5 hml pd_prLcom_example_rosterd_rosterd_core_Refusal_ [] [i_, (rr b1), (rr b1)] 3 (hb hby d28_6) rfl rfl rfl rfl rfl (by rcases ref_cases hi_ with q0 | ⟨_, q0⟩ <;> rw [q0] <;> rfl)
 obtain ⟨rfl, N7q, K8⟩ := hQ6
 have N7 := Fr.app N0 N7q
 have c9 : Kt p e below T6 st0 (mkF m 10 #[.val i_, vr x_] [(rr x_), (rr r_), i_, (rr b1), (rr b1)]) := fun t k => by
  refine c6 t ?_
  show S_ p e below T6 m 9 #[.val i_, vr x_] [(rr r_), i_, (rr b1), (rr b1)] t
  refine XS.aloadN X6.here hx rfl (hb hby d28_9) rfl rfl ?_
  exact k
 obtain ⟨_, T10, L10, X10, hQ10, c10⟩ := kvirtU X6 hx hZ hown (w208 hw) (w209 hw) (w210 hw) (w212 hw) (w211 hw) (w213 hw) (w130 hw) (rm_rexM l Z a0 hw [] x_ m_ h1 n0 o2 (F3_.ext E1) hm_) K8 (E0_.ext E1) c9 hml pd_prLjava_lang_String_ [] [(rr r_), i_, (rr b1), (rr b1)] 4 (hb hby d28_10) rfl rfl rfl rfl rfl (by rcases ref_cases hi_ with q0 | ⟨_, q0⟩ <;> rw [q0] <;> rfl)
 obtain ⟨rfl, N11q, K12⟩ := hQ10
 have N11 := Fr.app N7 N11q
 have c13 : Kt p e below T10 st0 (mkF m 14 #[.val i_, vr x_] [(rr x_), m_, (rr r_), i_, (rr b1), (rr b1)]) := fun t k => by
  refine c10 t ?_
  show S_ p e below T10 m 13 #[.val i_, vr x_] [m_, (rr r_), i_, (rr b1), (rr b1)] t
  refine XS.aloadN X10.here hx rfl (hb hby d28_13) rfl rfl ?_
  exact k
 obtain ⟨_, T14, L14, X14, hQ14, c14⟩ := kvirt X10 hx hZ hown (w214 hw) (w215 hw) (w217 hw) (w216 hw) (w218 hw) (w107 hw) (rm_rexB l Z a0 hw [] x_ e_ h1 n0 o2 (F2_.ext E1)) K12 (E0_.ext E1) c13 hml pd_prLjava_util_List_ [] [m_, (rr r_), i_, (rr b1), (rr b1)] 5 (hb hby d28_14) rfl rfl rfl rfl rfl (by rcases ref_cases hm_ with q0 | ⟨_, q0⟩ <;> rcases ref_cases hi_ with q1 | ⟨_, q1⟩ <;> rw [q0, q1] <;> rfl)
 obtain ⟨rfl, N15q, K16⟩ := hQ14
 have N15 := Fr.app N11 N15q
 obtain ⟨_, T17, L17, X17, hQ17, c17⟩ := kspec X14 hx hZ hown (w104 hw) (w73 hw) (w71 hw) (w74 hw) (rm_oinit l Z a0 hw [] b1 i_ (rr r_) m_ (rr e_) h1 n0 o2 A1 (show Fld Z h1 b1 nm3 "item" "Ljava/lang/Object;" .null from D1 (Or.inr (w82 hw)) (ty := (.object nm8)) (by decide)) (show Fld Z h1 b1 nm3 "refusal" nm1 .null from D1 (Or.inr (w84 hw)) (ty := (.object nm0)) (by decide)) (show Fld Z h1 b1 nm3 "message" nm20 .null from D1 (Or.inr (w86 hw)) (ty := (.object nm6)) (by decide)) (show Fld Z h1 b1 nm3 "bindingTargets" nm10 .null from D1 (Or.inr (w88 hw)) (ty := (.object nm7)) (by decide)) g1 hi_ rfl hm_ rfl) K16 c14 hml pd_pLjava_lang_Object_Lcom_example_rosterd_rosterd_core_Refusal_Ljava_lang_String_Ljava_util_List_rV b1 [i_, (rr r_), m_, (rr e_)] [(rr b1)] 1 (hb hby d28_17) rfl rfl rfl rfl rfl rfl
 obtain ⟨rfl, N18q, K19, p20, p21⟩ := hQ17
 have N18 := Fr.app N15 N18q
 have o22 := o2.keep K19 (allS g1 all0)
 have kp23 := kp3.trans K19 (allS (Or.inr z4) all0)
 obtain ⟨fs, hr, hrun, hended, hW, hsame⟩ := X17.leave (v := some (rr b1)) (fun h => by rw [Bd.returns] at h; cases h)
 refine ⟨_, _, c17 _ ?_, hrun, hended, _, _, rfl, ?_, ⟨_, rfl⟩, hW, hsame.mono (by decide) (by decide)⟩
 ·show S_ p e below T17 m 20 #[.val i_, vr x_] [(rr b1)] _
  exact retOut X17 hx Bd.returns rfl (Or.inr (Or.inr (Or.inr (Or.inr ⟨rfl, rfl, rfl⟩)))) (hb hby d28_20) hr
 ·show Q_refused Z x_ i_ r_ m_ e_ h0 n0 _ T17.heap _
  exact ⟨b1, rfl, N18, kp23, p20, p21⟩
theorem pd_pIrLcom_example_rosterd_rosterd_core_Refusal_ : parseMethodDescriptor "(I)Lcom/example/rosterd/rosterd/core/Refusal;" = some ⟨[.int], some (.object nm0)⟩ := by decide +kernel
theorem pd_pIrLjava_lang_Integer_ : parseMethodDescriptor "(I)Ljava/lang/Integer;" = some ⟨[.int], some (.object nm11)⟩ := by decide +kernel
theorem pd_pACrV : parseMethodDescriptor "([C)V" = some ⟨[(.array .char)], none⟩ := by decide +kernel
theorem pd_prZ : parseMethodDescriptor "()Z" = some ⟨[], some .boolean⟩ := by decide +kernel
theorem pd_pLjava_lang_Object_rLcom_example_rosterd_rosterd_core_Outcome_ : parseMethodDescriptor "(Ljava/lang/Object;)Lcom/example/rosterd/rosterd/core/Outcome;" = some ⟨[(.object nm8)], some (.object nm3)⟩ := by decide +kernel
theorem pd_pLcom_example_rosterd_rosterd_core_Refusal_Ljava_lang_String_rV : parseMethodDescriptor "(Lcom/example/rosterd/rosterd/core/Refusal;Ljava/lang/String;)V" = some ⟨[(.object nm0), (.object nm6)], none⟩ := by decide +kernel
theorem pd_pLjava_lang_Object_Lcom_example_rosterd_rosterd_core_RosterException_rLcom_example_rosterd_rosterd_core_Outcome_ : parseMethodDescriptor "(Ljava/lang/Object;Lcom/example/rosterd/rosterd/core/RosterException;)Lcom/example/rosterd/rosterd/core/Outcome;" = some ⟨[(.object nm8), (.object nm2)], some (.object nm3)⟩ := by decide +kernel
theorem ef_law (m : MethodId) (k_ : Int32) (i_ : Int32) (a_ : Int32) (b_ : Int32) (f_ : Int32) : entryFrame m #[(.int k_), (.int i_), (.int a_), (.int b_), (.int f_)] maxLocals = mkF m 0 #[vi k_, vi i_, vi a_, vi b_, vi f_, u_, u_, u_, u_, u_, u_, u_, u_, u_, u_, u_, u_] [] := by first | (simp [entryFrame, mkF, argsToLocals, Value.category, maxLocals]; done) | rfl
def Q_law (Z : State) (k_ : Int32) (i_ : Int32) (a_ : Int32) (b_ : Int32) (f_ : Int32) (sa45_ : Addr) (sa49_ : Addr) (sa53_ : Addr) (sa57_ : Addr) (sa61_ : Addr) (sa65_ : Addr) (sa69_ : Addr) (sa73_ : Addr) (sa77_ : Addr) (sa81_ : Addr) (sa85_ : Addr) (sa89_ : Addr) (sa93_ : Addr) (sa97_ : Addr) (sa101_ : Addr) (sa105_ : Addr) (sa109_ : Addr) (sa113_ : Addr) (sa117_ : Addr) (sa121_ : Addr) (sa125_ : Addr) (sa129_ : Addr) (sa133_ : Addr) (sa139_ : Addr) (si144_ : Int32) (sa149_ : Addr) (sa154_ : Addr) (sa159_ : Addr) (sa163_ : Addr) (sa172_ : Addr) (sa176_ : Addr) (sa180_ : Addr) (sv184_ : Value) (sk188_ : ClassId) (sk191_ : ClassId) (sk194_ : ClassId) (sk197_ : ClassId) (sk200_ : ClassId) (sc142_ : Cell) (h0 : Heap) (n0 : Nat) (v : Option Value) (h : Heap) (L : List Loc) : Prop := v = some (ii 1) ∧ Fr n0 L ∧ Keep h0 h []
set_option maxRecDepth 65536 in
set_option maxHeartbeats 40000000 in
theorem rm_law (l : Launch) (Z : State) (a0 : Array Value) (hw : HW Z a0) (ws : List Jvm.Cond) (k_ : Int32) (i_ : Int32) (a_ : Int32) (b_ : Int32) (f_ : Int32) (sa45_ : Addr) (sa49_ : Addr) (sa53_ : Addr) (sa57_ : Addr) (sa61_ : Addr) (sa65_ : Addr) (sa69_ : Addr) (sa73_ : Addr) (sa77_ : Addr) (sa81_ : Addr) (sa85_ : Addr) (sa89_ : Addr) (sa93_ : Addr) (sa97_ : Addr) (sa101_ : Addr) (sa105_ : Addr) (sa109_ : Addr) (sa113_ : Addr) (sa117_ : Addr) (sa121_ : Addr) (sa125_ : Addr) (sa129_ : Addr) (sa133_ : Addr) (sa139_ : Addr) (si144_ : Int32) (sa149_ : Addr) (sa154_ : Addr) (sa159_ : Addr) (sa163_ : Addr) (sa172_ : Addr) (sa176_ : Addr) (sa180_ : Addr) (sv184_ : Value) (sk188_ : ClassId) (sk191_ : ClassId) (sk194_ : ClassId) (sk197_ : ClassId) (sk200_ : ClassId) (sc142_ : Cell) (h0 : Heap) (n0 : Nat) (O0 : Old Z n0 h0) (ZS0_ : Sta Z Z.heap nm0 "INVALID_ARGUMENT" nm1 (rr sa45_)) (ZE1_ : Exa Z Z.heap sa45_ nm0) (ZS2_ : Sta Z Z.heap nm0 "NOT_FOUND" nm1 (rr sa49_)) (ZE3_ : Exa Z Z.heap sa49_ nm0) (ZS4_ : Sta Z Z.heap nm0 "ALREADY_IN_ORGANIZATION" nm1 (rr sa53_)) (ZE5_ : Exa Z Z.heap sa53_ nm0) (ZS6_ : Sta Z Z.heap nm0 "NOT_MEMBER" nm1 (rr sa57_)) (ZE7_ : Exa Z Z.heap sa57_ nm0) (ZS8_ : Sta Z Z.heap nm0 "NOT_BOUND" nm1 (rr sa61_)) (ZE9_ : Exa Z Z.heap sa61_ nm0) (ZS10_ : Sta Z Z.heap nm0 "LOGIN_ID_TAKEN" nm1 (rr sa65_)) (ZE11_ : Exa Z Z.heap sa65_ nm0) (ZS12_ : Sta Z Z.heap nm0 "DEPTH_LIMIT_EXCEEDED" nm1 (rr sa69_)) (ZE13_ : Exa Z Z.heap sa69_ nm0) (ZS14_ : Sta Z Z.heap nm0 "INVALID_POLICY_DOCUMENT" nm1 (rr sa73_)) (ZE15_ : Exa Z Z.heap sa73_ nm0) (ZS16_ : Sta Z Z.heap nm0 "SYSTEM_POLICY_NOT_MODIFIABLE" nm1 (rr sa77_)) (ZE17_ : Exa Z Z.heap sa77_ nm0) (ZS18_ : Sta Z Z.heap nm0 "NOT_IN_ORGANIZATION" nm1 (rr sa81_)) (ZE19_ : Exa Z Z.heap sa81_ nm0) (ZS20_ : Sta Z Z.heap nm0 "DENIED_BY_GUARDRAIL" nm1 (rr sa85_)) (ZE21_ : Exa Z Z.heap sa85_ nm0) (ZS22_ : Sta Z Z.heap nm0 "FORBIDDEN" nm1 (rr sa89_)) (ZE23_ : Exa Z Z.heap sa89_ nm0) (ZS24_ : Sta Z Z.heap nm0 "POLICY_TOO_LARGE" nm1 (rr sa93_)) (ZE25_ : Exa Z Z.heap sa93_ nm0) (ZS26_ : Sta Z Z.heap nm0 "POLICY_IN_USE" nm1 (rr sa97_)) (ZE27_ : Exa Z Z.heap sa97_ nm0) (ZS28_ : Sta Z Z.heap nm0 "NAME_TAKEN" nm1 (rr sa101_)) (ZE29_ : Exa Z Z.heap sa101_ nm0) (ZS30_ : Sta Z Z.heap nm0 "MALFORMED_POLICY_DOCUMENT" nm1 (rr sa105_)) (ZE31_ : Exa Z Z.heap sa105_ nm0) (ZS32_ : Sta Z Z.heap nm0 "UNIT_NOT_EMPTY" nm1 (rr sa109_)) (ZE33_ : Exa Z Z.heap sa109_ nm0) (ZS34_ : Sta Z Z.heap nm0 "ROOT_NOT_MODIFIABLE" nm1 (rr sa113_)) (ZE35_ : Exa Z Z.heap sa113_ nm0) (ZS36_ : Sta Z Z.heap nm0 "ORGANIZATION_NOT_EMPTY" nm1 (rr sa117_)) (ZE37_ : Exa Z Z.heap sa117_ nm0) (ZS38_ : Sta Z Z.heap nm0 "ACCOUNT_NOT_REMOVABLE" nm1 (rr sa121_)) (ZE39_ : Exa Z Z.heap sa121_ nm0) (ZS40_ : Sta Z Z.heap nm0 "INVITATION_NOT_PENDING" nm1 (rr sa125_)) (ZE41_ : Exa Z Z.heap sa125_ nm0) (ZS42_ : Sta Z Z.heap nm0 "INVITATION_ALREADY_SENT" nm1 (rr sa129_)) (ZE43_ : Exa Z Z.heap sa129_ nm0) (ZS44_ : Sta Z Z.heap nm0 "DELEGATION_POLICY_EXISTS" nm1 (rr sa133_)) (ZE45_ : Exa Z Z.heap sa133_ nm0) (ZS46_ : Sta Z Z.heap "java/lang/Integer$IntegerCache" "high" "I" (ii 127)) (ZS47_ : Sta Z Z.heap "java/lang/Integer$IntegerCache" "cache" "[Ljava/lang/Integer;" (rr sa139_)) (ZE48_ : Exa Z Z.heap sa139_ "[Ljava/lang/Integer;") (ZS49_ : Sta Z Z.heap nm6 "COMPACT_STRINGS" "Z" (.int si144_)) (sn147_ : ¬ (si144_ = (0 : Int32))) (ZS51_ : Sta Z Z.heap nm12 "EMPTY_ELEMENTDATA" nm19 (rr sa149_)) (ZE52_ : Exa Z Z.heap sa149_ nm19) (ZS53_ : Sta Z Z.heap nm12 "DEFAULTCAPACITY_EMPTY_ELEMENTDATA" nm19 (rr sa154_)) (ZE54_ : Exa Z Z.heap sa154_ nm19) (ZS55_ : Sta Z Z.heap nm14 "EMPTY_LIST" "Ljava/util/ImmutableCollections$ListN;" (rr sa159_)) (ZE56_ : Exa Z Z.heap sa159_ nm9) (ZF57_ : Fld Z Z.heap sa159_ nm9 "elements" nm19 (rr sa163_)) (ZE58_ : Exa Z Z.heap sa163_ nm19) (ZF59_ : Fld Z Z.heap sa159_ nm9 "allowNulls" "Z" (ii 0)) (ZS60_ : Sta Z Z.heap nm5 "$assertionsDisabled" "Z" (ii 1)) (ZS61_ : Sta Z Z.heap nm5 "UNASSIGNED_STACK" nm16 (rr sa172_)) (ZS62_ : Sta Z Z.heap nm5 "SUPPRESSED_SENTINEL" nm10 (rr sa176_)) (ZE63_ : Exa Z Z.heap sa176_ "java/util/Collections$EmptyList") (ZS64_ : Sta Z Z.heap nm5 "EMPTY_THROWABLE_ARRAY" "[Ljava/lang/Throwable;" (rr sa180_)) (sv184_r : sv184_.isRef = true) (ZS66_ : Sta Z Z.heap "jdk/internal/util/Preconditions" "SIOOBE_FORMATTER" "Ljava/util/function/BiFunction;" sv184_) (ZA67_ : Arv Z Z.heap sa149_ sk188_ (.object nm8) (0 : Int32) [] .null) (ZA68_ : Arv Z Z.heap sa154_ sk191_ (.object nm8) (0 : Int32) [] .null) (ZA69_ : Arv Z Z.heap sa163_ sk194_ (.object nm8) (0 : Int32) [] .null) (ZA70_ : Arv Z Z.heap sa172_ sk197_ (.object nm18) (0 : Int32) [] .null) (ZA71_ : Arv Z Z.heap sa180_ sk200_ (.object nm5) (0 : Int32) [] .null) (sb203_ : Bxs Z sa139_ sc142_ nm11 "I" (256 : Int32) (fun j => .int (j - (128 : Int32)))) (hst : l.stackTraces = true) :
  MFKJ l Z x code maxLocals ret room_1 ws #[(.int k_), (.int i_), (.int a_), (.int b_), (.int f_)] h0 (Q_law Z k_ i_ a_ b_ f_ sa45_ sa49_ sa53_ sa57_ sa61_ sa65_ sa69_ sa73_ sa77_ sa81_ sa85_ sa89_ sa93_ sa97_ sa101_ sa105_ sa109_ sa113_ sa117_ sa121_ sa125_ sa129_ sa133_ sa139_ si144_ sa149_ sa154_ sa159_ sa163_ sa172_ sa176_ sa180_ sv184_ sk188_ sk191_ sk194_ sk197_ sk200_ sc142_ h0 n0) := by
 refine MetFree.of_bodySF (plainFor_of_name pn_com_example_rosterd_rosterd_core_OutcomeSucceededPinLaw) hisR ?_
 intro p e s m args below meth c s₁ Bd hml0 hP hK
 obtain ⟨rfl, hZ, hh⟩ := hP
 have hx := Bd.exec
 have hby := Bd.bytes
 have hml : c.maxLocals = 17 := hml0
 have hown : s.vm.findClass nm4 = some m.cls := findClass_of_methodNamed Bd.named
 have hnm := (name_of_methodNamed Bd.named Bd.method).1
 have X0 : Stand p l e room_1 (s.setVm s.vm) m #[(.int k_), (.int i_), (.int a_), (.int b_), (.int f_)] below meth c s₁ [] 0 0 := Stand.of_body Bd
 have e0 : s₁.heap = h0 := by rw [← hh, Bd.state]; rfl
 have N0 := Fr.nil n0
 have kp0 : Keep h0 h0 [] := Keep.refl _ _
 obtain ⟨hTK, hBelow⟩ := own_known X0.frames hK.2 hK.1
 have hS0 : s.Since s.vm 0 := (State.WarmedH.refl s).since 0
 have c0 : ∀ t, S_ p e below s₁ m 0 #[vi k_, vi i_, vi a_, vi b_, vi f_, u_, u_, u_, u_, u_, u_, u_, u_, u_, u_, u_, u_] [] t → Steps p.tables e below (s₁.setTop (entryFrame m #[(.int k_), (.int i_), (.int a_), (.int b_), (.int f_)] maxLocals)) t := fun t k => castTop (ef_law m k_ i_ a_ b_ f_) k
 generalize s₁.setTop (entryFrame m #[(.int k_), (.int i_), (.int a_), (.int b_), (.int f_)] maxLocals) = st0 at c0 ⊢
 replace c0 : Kt p e below s₁ st0 (mkF m 0 #[vi k_, vi i_, vi a_, vi b_, vi f_, u_, u_, u_, u_, u_, u_, u_, u_, u_, u_, u_, u_] []) := c0
 have c1 : Kt p e below s₁ st0 (mkF m 11 #[vi k_, vi i_, vi a_, vi b_, vi f_, .val (.int ((k_ &&& (2147483647 : Int32)) % (24 : Int32))), u_, u_, u_, u_, u_, u_, u_, u_, u_, u_, u_] [(.int ((k_ &&& (2147483647 : Int32)) % (24 : Int32)))]) := fun t k => by
  refine c0 t ?_
  show S_ p e below s₁ m 0 #[vi k_, vi i_, vi a_, vi b_, vi f_, u_, u_, u_, u_, u_, u_, u_, u_, u_, u_, u_, u_] [] t
  refine XS.iloadN X0.here hx rfl (hb hby at_0) rfl ?_
  show S_ p e below s₁ m 1 #[vi k_, vi i_, vi a_, vi b_, vi f_, u_, u_, u_, u_, u_, u_, u_, u_, u_, u_, u_, u_] [(.int k_)] t
  refine X0.ldcInt hx hown (mvT hZ (w0 hw)) (g := (mkF m 1 #[vi k_, vi i_, vi a_, vi b_, vi f_, u_, u_, u_, u_, u_, u_, u_, u_, u_, u_, u_, u_] [(.int k_)])) rfl (hb hby at_1) _ ?_
  show S_ p e below s₁ m 3 #[vi k_, vi i_, vi a_, vi b_, vi f_, u_, u_, u_, u_, u_, u_, u_, u_, u_, u_, u_, u_] [(ii 2147483647), (.int k_)] t
  refine XS.iand X0.here hx rfl (hb hby at_3) rfl ?_
  show S_ p e below s₁ m 4 #[vi k_, vi i_, vi a_, vi b_, vi f_, u_, u_, u_, u_, u_, u_, u_, u_, u_, u_, u_, u_] [(.int (k_ &&& (2147483647 : Int32)))] t
  refine XS.bipush X0.here hx rfl (hb hby at_4) ?_
  show S_ p e below s₁ m 6 #[vi k_, vi i_, vi a_, vi b_, vi f_, u_, u_, u_, u_, u_, u_, u_, u_, u_, u_, u_, u_] [(ii 24), (.int (k_ &&& (2147483647 : Int32)))] t
  refine iremM X0 hx rfl (hb hby at_6) rfl (by decide) ?_
  show S_ p e below s₁ m 7 #[vi k_, vi i_, vi a_, vi b_, vi f_, u_, u_, u_, u_, u_, u_, u_, u_, u_, u_, u_, u_] [(.int ((k_ &&& (2147483647 : Int32)) % (24 : Int32)))] t
  refine XS.istore X0.here hx rfl (hb hby at_7) rfl (l' := #[vi k_, vi i_, vi a_, vi b_, vi f_, .val (.int ((k_ &&& (2147483647 : Int32)) % (24 : Int32))), u_, u_, u_, u_, u_, u_, u_, u_, u_, u_, u_]) rfl ?_
  show S_ p e below s₁ m 9 #[vi k_, vi i_, vi a_, vi b_, vi f_, .val (.int ((k_ &&& (2147483647 : Int32)) % (24 : Int32))), u_, u_, u_, u_, u_, u_, u_, u_, u_, u_, u_] [] t
  refine XS.iload X0.here hx rfl (hb hby at_9) rfl ?_
  exact k
 obtain ⟨_, T2, L2, X2, hQ2, c2⟩ := kstat X0 hx hZ hown (w1 hw) (w2 hw) (w3 hw) (w4 hw) (rm_pick l Z a0 hw [] (((k_ &&& (2147483647 : Int32)) % (24 : Int32))) sa45_ sa49_ sa53_ sa57_ sa61_ sa65_ sa69_ sa73_ sa77_ sa81_ sa85_ sa89_ sa93_ sa97_ sa101_ sa105_ sa109_ sa113_ sa117_ sa121_ sa125_ sa129_ sa133_ h0 n0 O0 ZS0_ ZE1_ ZS2_ ZE3_ ZS4_ ZE5_ ZS6_ ZE7_ ZS8_ ZE9_ ZS10_ ZE11_ ZS12_ ZE13_ ZS14_ ZE15_ ZS16_ ZE17_ ZS18_ ZE19_ ZS20_ ZE21_ ZS22_ ZE23_ ZS24_ ZE25_ ZS26_ ZE27_ ZS28_ ZE29_ ZS30_ ZE31_ ZS32_ ZE33_ ZS34_ ZE35_ ZS36_ ZE37_ ZS38_ ZE39_ ZS40_ ZE41_ ZS42_ ZE43_ ZS44_ ZE45_) e0 c1 hml pd_pIrLcom_example_rosterd_rosterd_core_Refusal_ [(.int ((k_ &&& (2147483647 : Int32)) % (24 : Int32)))] [] 0 (hb hby at_11) rfl rfl rfl rfl rfl rfl
 rcases hQ2 with hQ2 | hQ2
 ·obtain ⟨rfl, N3q, K4⟩ := hQ2
  have N3 := Fr.app N0 N3q
  have c5 : Kt p e below T2 st0 (mkF m 16 #[vi k_, vi i_, vi a_, vi b_, vi f_, .val (.int ((k_ &&& (2147483647 : Int32)) % (24 : Int32))), .val .null, u_, u_, u_, u_, u_, u_, u_, u_, u_, u_] []) := fun t k => by
   refine c2 t ?_
   show S_ p e below T2 m 14 #[vi k_, vi i_, vi a_, vi b_, vi f_, .val (.int ((k_ &&& (2147483647 : Int32)) % (24 : Int32))), u_, u_, u_, u_, u_, u_, u_, u_, u_, u_, u_] [.null] t
   refine XS.astore X2.here hx rfl (hb hby at_14) rfl rfl (l' := #[vi k_, vi i_, vi a_, vi b_, vi f_, .val (.int ((k_ &&& (2147483647 : Int32)) % (24 : Int32))), .val .null, u_, u_, u_, u_, u_, u_, u_, u_, u_, u_]) rfl ?_
   exact k
  obtain ⟨mv10, T11, h11, L11, X11, e11, o11, K11, kp11, N11, c11⟩ : ∃ (mv10 : Int32), ∃ (T11 : State) (h11 : Heap) (L11 : List Loc), Stand p l e room_1 (s.setVm s.vm) m #[(.int k_), (.int i_), (.int a_), (.int b_), (.int f_)] below meth c T11 L11 0 0 ∧ T11.heap = h11 ∧ Old Z n0 h11 ∧ Keep h0 h11 [] ∧ Keep h0 h11 [] ∧ Fr n0 L11 ∧ Kt p e below T11 st0 (mkF m 30 #[vi k_, vi i_, vi a_, vi b_, vi f_, .val (.int ((k_ &&& (2147483647 : Int32)) % (24 : Int32))), .val .null, vi mv10, u_, u_, u_, u_, u_, u_, u_, u_, u_] []) := by
   have c6 : Kt p e below T2 st0 (mkF m 20 #[vi k_, vi i_, vi a_, vi b_, vi f_, .val (.int ((k_ &&& (2147483647 : Int32)) % (24 : Int32))), .val .null, u_, u_, u_, u_, u_, u_, u_, u_, u_, u_] [(.int (f_ &&& (1 : Int32)))]) := fun t k => by
    refine c5 t ?_
    show S_ p e below T2 m 16 #[vi k_, vi i_, vi a_, vi b_, vi f_, .val (.int ((k_ &&& (2147483647 : Int32)) % (24 : Int32))), .val .null, u_, u_, u_, u_, u_, u_, u_, u_, u_, u_] [] t
    refine XS.iload X2.here hx rfl (hb hby at_16) rfl ?_
    show S_ p e below T2 m 18 #[vi k_, vi i_, vi a_, vi b_, vi f_, .val (.int ((k_ &&& (2147483647 : Int32)) % (24 : Int32))), .val .null, u_, u_, u_, u_, u_, u_, u_, u_, u_, u_] [(.int f_)] t
    refine XS.iconst X2.here hx rfl (hb hby at_18) ?_
    show S_ p e below T2 m 19 #[vi k_, vi i_, vi a_, vi b_, vi f_, .val (.int ((k_ &&& (2147483647 : Int32)) % (24 : Int32))), .val .null, u_, u_, u_, u_, u_, u_, u_, u_, u_, u_] [(ii 1), (.int f_)] t
    refine XS.iand X2.here hx rfl (hb hby at_19) rfl ?_
    exact k
   by_cases hc7 : (f_ &&& (1 : Int32)) = (0 : Int32)
   ·have c8 : Kt p e below T2 st0 (mkF m 30 #[vi k_, vi i_, vi a_, vi b_, vi f_, .val (.int ((k_ &&& (2147483647 : Int32)) % (24 : Int32))), .val .null, vi 0, u_, u_, u_, u_, u_, u_, u_, u_, u_] []) := fun t k => by
     refine c6 t ?_
     show S_ p e below T2 m 20 #[vi k_, vi i_, vi a_, vi b_, vi f_, .val (.int ((k_ &&& (2147483647 : Int32)) % (24 : Int32))), .val .null, u_, u_, u_, u_, u_, u_, u_, u_, u_, u_] [(.int (f_ &&& (1 : Int32)))] t
     refine yI X2.here hx rfl 20 27 rfl (hb hby at_20) rfl ((if0 _ _).trans (teq hc7).1) ?_
     show S_ p e below T2 m 27 #[vi k_, vi i_, vi a_, vi b_, vi f_, .val (.int ((k_ &&& (2147483647 : Int32)) % (24 : Int32))), .val .null, u_, u_, u_, u_, u_, u_, u_, u_, u_, u_] [] t
     refine XS.iconst X2.here hx rfl (hb hby at_27) ?_
     show S_ p e below T2 m 28 #[vi k_, vi i_, vi a_, vi b_, vi f_, .val (.int ((k_ &&& (2147483647 : Int32)) % (24 : Int32))), .val .null, u_, u_, u_, u_, u_, u_, u_, u_, u_, u_] [(ii 0)] t
     refine XS.istore X2.here hx rfl (hb hby at_28) rfl (l' := #[vi k_, vi i_, vi a_, vi b_, vi f_, .val (.int ((k_ &&& (2147483647 : Int32)) % (24 : Int32))), .val .null, vi 0, u_, u_, u_, u_, u_, u_, u_, u_, u_]) rfl ?_
     exact k
    have K13 : Keep h0 h0 [] := (Keep.refl _ _)
    exact ⟨(0 : Int32), T2, _, _, X2.mono (by decide) (by decide), K4, O0, K13, kp0, N3, c8⟩
   ·have c9 : Kt p e below T2 st0 (mkF m 30 #[vi k_, vi i_, vi a_, vi b_, vi f_, .val (.int ((k_ &&& (2147483647 : Int32)) % (24 : Int32))), .val .null, vi 1, u_, u_, u_, u_, u_, u_, u_, u_, u_] []) := fun t k => by
     refine c6 t ?_
     show S_ p e below T2 m 20 #[vi k_, vi i_, vi a_, vi b_, vi f_, .val (.int ((k_ &&& (2147483647 : Int32)) % (24 : Int32))), .val .null, u_, u_, u_, u_, u_, u_, u_, u_, u_, u_] [(.int (f_ &&& (1 : Int32)))] t
     refine XS.ifNo X2.here hx rfl (hb hby at_20) rfl ((if0 _ _).trans (feq hc7).1) ?_
     show S_ p e below T2 m 23 #[vi k_, vi i_, vi a_, vi b_, vi f_, .val (.int ((k_ &&& (2147483647 : Int32)) % (24 : Int32))), .val .null, u_, u_, u_, u_, u_, u_, u_, u_, u_, u_] [] t
     refine XS.iconst X2.here hx rfl (hb hby at_23) ?_
     show S_ p e below T2 m 24 #[vi k_, vi i_, vi a_, vi b_, vi f_, .val (.int ((k_ &&& (2147483647 : Int32)) % (24 : Int32))), .val .null, u_, u_, u_, u_, u_, u_, u_, u_, u_, u_] [(ii 1)] t
     refine yG X2.here hx rfl 24 28 rfl (hb hby at_24) ?_
     show S_ p e below T2 m 28 #[vi k_, vi i_, vi a_, vi b_, vi f_, .val (.int ((k_ &&& (2147483647 : Int32)) % (24 : Int32))), .val .null, u_, u_, u_, u_, u_, u_, u_, u_, u_, u_] [(ii 1)] t
     refine XS.istore X2.here hx rfl (hb hby at_28) rfl (l' := #[vi k_, vi i_, vi a_, vi b_, vi f_, .val (.int ((k_ &&& (2147483647 : Int32)) % (24 : Int32))), .val .null, vi 1, u_, u_, u_, u_, u_, u_, u_, u_, u_]) rfl ?_
     exact k
    have K12 : Keep h0 h0 [] := (Keep.refl _ _)
    exact ⟨(1 : Int32), T2, _, _, X2.mono (by decide) (by decide), K4, O0, K12, kp0, N3, c9⟩
  obtain ⟨mv18, T19, h19, L19, X19, e19, o19, K19, kp19, N19, c19⟩ : ∃ (mv18 : Int32), ∃ (T19 : State) (h19 : Heap) (L19 : List Loc), Stand p l e room_1 (s.setVm s.vm) m #[(.int k_), (.int i_), (.int a_), (.int b_), (.int f_)] below meth c T19 L19 0 0 ∧ T19.heap = h19 ∧ Old Z n0 h19 ∧ Keep h11 h19 [] ∧ Keep h0 h19 [] ∧ Fr n0 L19 ∧ Kt p e below T19 st0 (mkF m 44 #[vi k_, vi i_, vi a_, vi b_, vi f_, .val (.int ((k_ &&& (2147483647 : Int32)) % (24 : Int32))), .val .null, vi mv10, vi mv18, u_, u_, u_, u_, u_, u_, u_, u_] []) := by
   have c14 : Kt p e below T11 st0 (mkF m 34 #[vi k_, vi i_, vi a_, vi b_, vi f_, .val (.int ((k_ &&& (2147483647 : Int32)) % (24 : Int32))), .val .null, vi mv10, u_, u_, u_, u_, u_, u_, u_, u_, u_] [(.int (f_ &&& (2 : Int32)))]) := fun t k => by
    refine c11 t ?_
    show S_ p e below T11 m 30 #[vi k_, vi i_, vi a_, vi b_, vi f_, .val (.int ((k_ &&& (2147483647 : Int32)) % (24 : Int32))), .val .null, vi mv10, u_, u_, u_, u_, u_, u_, u_, u_, u_] [] t
    refine XS.iload X11.here hx rfl (hb hby at_30) rfl ?_
    show S_ p e below T11 m 32 #[vi k_, vi i_, vi a_, vi b_, vi f_, .val (.int ((k_ &&& (2147483647 : Int32)) % (24 : Int32))), .val .null, vi mv10, u_, u_, u_, u_, u_, u_, u_, u_, u_] [(.int f_)] t
    refine XS.iconst X11.here hx rfl (hb hby at_32) ?_
    show S_ p e below T11 m 33 #[vi k_, vi i_, vi a_, vi b_, vi f_, .val (.int ((k_ &&& (2147483647 : Int32)) % (24 : Int32))), .val .null, vi mv10, u_, u_, u_, u_, u_, u_, u_, u_, u_] [(ii 2), (.int f_)] t
    refine XS.iand X11.here hx rfl (hb hby at_33) rfl ?_
    exact k
   by_cases hc15 : (f_ &&& (2 : Int32)) = (0 : Int32)
   ·have c16 : Kt p e below T11 st0 (mkF m 44 #[vi k_, vi i_, vi a_, vi b_, vi f_, .val (.int ((k_ &&& (2147483647 : Int32)) % (24 : Int32))), .val .null, vi mv10, vi 0, u_, u_, u_, u_, u_, u_, u_, u_] []) := fun t k => by
     refine c14 t ?_
     show S_ p e below T11 m 34 #[vi k_, vi i_, vi a_, vi b_, vi f_, .val (.int ((k_ &&& (2147483647 : Int32)) % (24 : Int32))), .val .null, vi mv10, u_, u_, u_, u_, u_, u_, u_, u_, u_] [(.int (f_ &&& (2 : Int32)))] t
     refine yI X11.here hx rfl 34 41 rfl (hb hby at_34) rfl ((if0 _ _).trans (teq hc15).1) ?_
     show S_ p e below T11 m 41 #[vi k_, vi i_, vi a_, vi b_, vi f_, .val (.int ((k_ &&& (2147483647 : Int32)) % (24 : Int32))), .val .null, vi mv10, u_, u_, u_, u_, u_, u_, u_, u_, u_] [] t
     refine XS.iconst X11.here hx rfl (hb hby at_41) ?_
     show S_ p e below T11 m 42 #[vi k_, vi i_, vi a_, vi b_, vi f_, .val (.int ((k_ &&& (2147483647 : Int32)) % (24 : Int32))), .val .null, vi mv10, u_, u_, u_, u_, u_, u_, u_, u_, u_] [(ii 0)] t
     refine XS.istore X11.here hx rfl (hb hby at_42) rfl (l' := #[vi k_, vi i_, vi a_, vi b_, vi f_, .val (.int ((k_ &&& (2147483647 : Int32)) % (24 : Int32))), .val .null, vi mv10, vi 0, u_, u_, u_, u_, u_, u_, u_, u_]) rfl ?_
     exact k
    have K21 : Keep h11 h11 [] := (Keep.refl _ _)
    exact ⟨(0 : Int32), T11, _, _, X11.mono (by decide) (by decide), e11, o11, K21, kp11, N11, c16⟩
   ·have c17 : Kt p e below T11 st0 (mkF m 44 #[vi k_, vi i_, vi a_, vi b_, vi f_, .val (.int ((k_ &&& (2147483647 : Int32)) % (24 : Int32))), .val .null, vi mv10, vi 1, u_, u_, u_, u_, u_, u_, u_, u_] []) := fun t k => by
     refine c14 t ?_
     show S_ p e below T11 m 34 #[vi k_, vi i_, vi a_, vi b_, vi f_, .val (.int ((k_ &&& (2147483647 : Int32)) % (24 : Int32))), .val .null, vi mv10, u_, u_, u_, u_, u_, u_, u_, u_, u_] [(.int (f_ &&& (2 : Int32)))] t
     refine XS.ifNo X11.here hx rfl (hb hby at_34) rfl ((if0 _ _).trans (feq hc15).1) ?_
     show S_ p e below T11 m 37 #[vi k_, vi i_, vi a_, vi b_, vi f_, .val (.int ((k_ &&& (2147483647 : Int32)) % (24 : Int32))), .val .null, vi mv10, u_, u_, u_, u_, u_, u_, u_, u_, u_] [] t
     refine XS.iconst X11.here hx rfl (hb hby at_37) ?_
     show S_ p e below T11 m 38 #[vi k_, vi i_, vi a_, vi b_, vi f_, .val (.int ((k_ &&& (2147483647 : Int32)) % (24 : Int32))), .val .null, vi mv10, u_, u_, u_, u_, u_, u_, u_, u_, u_] [(ii 1)] t
     refine yG X11.here hx rfl 38 42 rfl (hb hby at_38) ?_
     show S_ p e below T11 m 42 #[vi k_, vi i_, vi a_, vi b_, vi f_, .val (.int ((k_ &&& (2147483647 : Int32)) % (24 : Int32))), .val .null, vi mv10, u_, u_, u_, u_, u_, u_, u_, u_, u_] [(ii 1)] t
     refine XS.istore X11.here hx rfl (hb hby at_42) rfl (l' := #[vi k_, vi i_, vi a_, vi b_, vi f_, .val (.int ((k_ &&& (2147483647 : Int32)) % (24 : Int32))), .val .null, vi mv10, vi 1, u_, u_, u_, u_, u_, u_, u_, u_]) rfl ?_
     exact k
    have K20 : Keep h11 h11 [] := (Keep.refl _ _)
    exact ⟨(1 : Int32), T11, _, _, X11.mono (by decide) (by decide), e11, o11, K20, kp11, N11, c17⟩
  obtain ⟨mv26, T27, h27, L27, X27, e27, o27, K27, kp27, N27, c27⟩ : ∃ (mv26 : Int32), ∃ (T27 : State) (h27 : Heap) (L27 : List Loc), Stand p l e room_1 (s.setVm s.vm) m #[(.int k_), (.int i_), (.int a_), (.int b_), (.int f_)] below meth c T27 L27 0 0 ∧ T27.heap = h27 ∧ Old Z n0 h27 ∧ Keep h19 h27 [] ∧ Keep h0 h27 [] ∧ Fr n0 L27 ∧ Kt p e below T27 st0 (mkF m 58 #[vi k_, vi i_, vi a_, vi b_, vi f_, .val (.int ((k_ &&& (2147483647 : Int32)) % (24 : Int32))), .val .null, vi mv10, vi mv18, vi mv26, u_, u_, u_, u_, u_, u_, u_] []) := by
   have c22 : Kt p e below T19 st0 (mkF m 48 #[vi k_, vi i_, vi a_, vi b_, vi f_, .val (.int ((k_ &&& (2147483647 : Int32)) % (24 : Int32))), .val .null, vi mv10, vi mv18, u_, u_, u_, u_, u_, u_, u_, u_] [(.int (f_ &&& (4 : Int32)))]) := fun t k => by
    refine c19 t ?_
    show S_ p e below T19 m 44 #[vi k_, vi i_, vi a_, vi b_, vi f_, .val (.int ((k_ &&& (2147483647 : Int32)) % (24 : Int32))), .val .null, vi mv10, vi mv18, u_, u_, u_, u_, u_, u_, u_, u_] [] t
    refine XS.iload X19.here hx rfl (hb hby at_44) rfl ?_
    show S_ p e below T19 m 46 #[vi k_, vi i_, vi a_, vi b_, vi f_, .val (.int ((k_ &&& (2147483647 : Int32)) % (24 : Int32))), .val .null, vi mv10, vi mv18, u_, u_, u_, u_, u_, u_, u_, u_] [(.int f_)] t
    refine XS.iconst X19.here hx rfl (hb hby at_46) ?_
    show S_ p e below T19 m 47 #[vi k_, vi i_, vi a_, vi b_, vi f_, .val (.int ((k_ &&& (2147483647 : Int32)) % (24 : Int32))), .val .null, vi mv10, vi mv18, u_, u_, u_, u_, u_, u_, u_, u_] [(ii 4), (.int f_)] t
    refine XS.iand X19.here hx rfl (hb hby at_47) rfl ?_
    exact k
   by_cases hc23 : (f_ &&& (4 : Int32)) = (0 : Int32)
   ·have c24 : Kt p e below T19 st0 (mkF m 58 #[vi k_, vi i_, vi a_, vi b_, vi f_, .val (.int ((k_ &&& (2147483647 : Int32)) % (24 : Int32))), .val .null, vi mv10, vi mv18, vi 0, u_, u_, u_, u_, u_, u_, u_] []) := fun t k => by
     refine c22 t ?_
     show S_ p e below T19 m 48 #[vi k_, vi i_, vi a_, vi b_, vi f_, .val (.int ((k_ &&& (2147483647 : Int32)) % (24 : Int32))), .val .null, vi mv10, vi mv18, u_, u_, u_, u_, u_, u_, u_, u_] [(.int (f_ &&& (4 : Int32)))] t
     refine yI X19.here hx rfl 48 55 rfl (hb hby at_48) rfl ((if0 _ _).trans (teq hc23).1) ?_
     show S_ p e below T19 m 55 #[vi k_, vi i_, vi a_, vi b_, vi f_, .val (.int ((k_ &&& (2147483647 : Int32)) % (24 : Int32))), .val .null, vi mv10, vi mv18, u_, u_, u_, u_, u_, u_, u_, u_] [] t
     refine XS.iconst X19.here hx rfl (hb hby at_55) ?_
     show S_ p e below T19 m 56 #[vi k_, vi i_, vi a_, vi b_, vi f_, .val (.int ((k_ &&& (2147483647 : Int32)) % (24 : Int32))), .val .null, vi mv10, vi mv18, u_, u_, u_, u_, u_, u_, u_, u_] [(ii 0)] t
     refine XS.istore X19.here hx rfl (hb hby at_56) rfl (l' := #[vi k_, vi i_, vi a_, vi b_, vi f_, .val (.int ((k_ &&& (2147483647 : Int32)) % (24 : Int32))), .val .null, vi mv10, vi mv18, vi 0, u_, u_, u_, u_, u_, u_, u_]) rfl ?_
     exact k
    have K29 : Keep h19 h19 [] := (Keep.refl _ _)
    exact ⟨(0 : Int32), T19, _, _, X19.mono (by decide) (by decide), e19, o19, K29, kp19, N19, c24⟩
   ·have c25 : Kt p e below T19 st0 (mkF m 58 #[vi k_, vi i_, vi a_, vi b_, vi f_, .val (.int ((k_ &&& (2147483647 : Int32)) % (24 : Int32))), .val .null, vi mv10, vi mv18, vi 1, u_, u_, u_, u_, u_, u_, u_] []) := fun t k => by
     refine c22 t ?_
     show S_ p e below T19 m 48 #[vi k_, vi i_, vi a_, vi b_, vi f_, .val (.int ((k_ &&& (2147483647 : Int32)) % (24 : Int32))), .val .null, vi mv10, vi mv18, u_, u_, u_, u_, u_, u_, u_, u_] [(.int (f_ &&& (4 : Int32)))] t
     refine XS.ifNo X19.here hx rfl (hb hby at_48) rfl ((if0 _ _).trans (feq hc23).1) ?_
     show S_ p e below T19 m 51 #[vi k_, vi i_, vi a_, vi b_, vi f_, .val (.int ((k_ &&& (2147483647 : Int32)) % (24 : Int32))), .val .null, vi mv10, vi mv18, u_, u_, u_, u_, u_, u_, u_, u_] [] t
     refine XS.iconst X19.here hx rfl (hb hby at_51) ?_
     show S_ p e below T19 m 52 #[vi k_, vi i_, vi a_, vi b_, vi f_, .val (.int ((k_ &&& (2147483647 : Int32)) % (24 : Int32))), .val .null, vi mv10, vi mv18, u_, u_, u_, u_, u_, u_, u_, u_] [(ii 1)] t
     refine yG X19.here hx rfl 52 56 rfl (hb hby at_52) ?_
     show S_ p e below T19 m 56 #[vi k_, vi i_, vi a_, vi b_, vi f_, .val (.int ((k_ &&& (2147483647 : Int32)) % (24 : Int32))), .val .null, vi mv10, vi mv18, u_, u_, u_, u_, u_, u_, u_, u_] [(ii 1)] t
     refine XS.istore X19.here hx rfl (hb hby at_56) rfl (l' := #[vi k_, vi i_, vi a_, vi b_, vi f_, .val (.int ((k_ &&& (2147483647 : Int32)) % (24 : Int32))), .val .null, vi mv10, vi mv18, vi 1, u_, u_, u_, u_, u_, u_, u_]) rfl ?_
     exact k
    have K28 : Keep h19 h19 [] := (Keep.refl _ _)
    exact ⟨(1 : Int32), T19, _, _, X19.mono (by decide) (by decide), e19, o19, K28, kp19, N19, c25⟩
  obtain ⟨mv42, T44, h44, L44, X44, e44, o44, K44, kp44, N44, hr43, c44⟩ : ∃ (mv42 : Value), ∃ (T44 : State) (h44 : Heap) (L44 : List Loc), Stand p l e room_1 (s.setVm s.vm) m #[(.int k_), (.int i_), (.int a_), (.int b_), (.int f_)] below meth c T44 L44 1 1 ∧ T44.heap = h44 ∧ Old Z n0 h44 ∧ Keep h27 h44 [] ∧ Keep h0 h44 [] ∧ Fr n0 L44 ∧ mv42.isRef = true ∧ Kt p e below T44 st0 (mkF m 73 #[vi k_, vi i_, vi a_, vi b_, vi f_, .val (.int ((k_ &&& (2147483647 : Int32)) % (24 : Int32))), .val .null, vi mv10, vi mv18, vi mv26, .val mv42, u_, u_, u_, u_, u_, u_] []) := by
   have c30 : Kt p e below T27 st0 (mkF m 60 #[vi k_, vi i_, vi a_, vi b_, vi f_, .val (.int ((k_ &&& (2147483647 : Int32)) % (24 : Int32))), .val .null, vi mv10, vi mv18, vi mv26, u_, u_, u_, u_, u_, u_, u_] [(.int mv10)]) := fun t k => by
    refine c27 t ?_
    show S_ p e below T27 m 58 #[vi k_, vi i_, vi a_, vi b_, vi f_, .val (.int ((k_ &&& (2147483647 : Int32)) % (24 : Int32))), .val .null, vi mv10, vi mv18, vi mv26, u_, u_, u_, u_, u_, u_, u_] [] t
    refine XS.iload X27.here hx rfl (hb hby at_58) rfl ?_
    exact k
   by_cases hc31 : mv10 = (0 : Int32)
   ·have c32 : Kt p e below T27 st0 (mkF m 68 #[vi k_, vi i_, vi a_, vi b_, vi f_, .val (.int ((k_ &&& (2147483647 : Int32)) % (24 : Int32))), .val .null, vi mv10, vi mv18, vi mv26, u_, u_, u_, u_, u_, u_, u_] [(.int i_)]) := fun t k => by
     refine c30 t ?_
     show S_ p e below T27 m 60 #[vi k_, vi i_, vi a_, vi b_, vi f_, .val (.int ((k_ &&& (2147483647 : Int32)) % (24 : Int32))), .val .null, vi mv10, vi mv18, vi mv26, u_, u_, u_, u_, u_, u_, u_] [(.int mv10)] t
     refine yI X27.here hx rfl 60 67 rfl (hb hby at_60) rfl ((if0 _ _).trans (teq hc31).1) ?_
     show S_ p e below T27 m 67 #[vi k_, vi i_, vi a_, vi b_, vi f_, .val (.int ((k_ &&& (2147483647 : Int32)) % (24 : Int32))), .val .null, vi mv10, vi mv18, vi mv26, u_, u_, u_, u_, u_, u_, u_] [] t
     refine XS.iloadN X27.here hx rfl (hb hby at_67) rfl ?_
     exact k
    obtain ⟨_, T33, L33, X33, hQ33, c33⟩ := kstat X27 hx hZ hown (w8 hw) (w9 hw) (w10 hw) (w11 hw) (rm_voI l Z a0 hw [] i_ sa139_ sc142_ h27 n0 o27 ZS46_ ZS47_ sb203_) e27 c32 hml pd_pIrLjava_lang_Integer_ [(.int i_)] [] 0 (hb hby at_68) rfl rfl rfl rfl rfl rfl
    obtain ⟨b34, rfl, N35q, K36, p37⟩ := hQ33
    have N35 := Fr.app N27 N35q
    have o38 := o27.keep K36 all0
    have kp39 := kp27.trans K36 all0
    have c40 : Kt p e below T33 st0 (mkF m 73 #[vi k_, vi i_, vi a_, vi b_, vi f_, .val (.int ((k_ &&& (2147483647 : Int32)) % (24 : Int32))), .val .null, vi mv10, vi mv18, vi mv26, vr b34, u_, u_, u_, u_, u_, u_] []) := fun t k => by
     refine c33 t ?_
     show S_ p e below T33 m 71 #[vi k_, vi i_, vi a_, vi b_, vi f_, .val (.int ((k_ &&& (2147483647 : Int32)) % (24 : Int32))), .val .null, vi mv10, vi mv18, vi mv26, u_, u_, u_, u_, u_, u_, u_] [(rr b34)] t
     refine XS.astore X33.here hx rfl (hb hby at_71) rfl rfl (l' := #[vi k_, vi i_, vi a_, vi b_, vi f_, .val (.int ((k_ &&& (2147483647 : Int32)) % (24 : Int32))), .val .null, vi mv10, vi mv18, vi mv26, vr b34, u_, u_, u_, u_, u_, u_]) rfl ?_
     exact k
    have K46 : Keep h27 T33.heap [] := ((Keep.refl _ _).trans K36 all0)
    exact ⟨(rr b34), T33, _, _, X33.mono (by decide) (by decide), rfl, o38, K46, kp39, N35, rfl, c40⟩
   ·have c41 : Kt p e below T27 st0 (mkF m 73 #[vi k_, vi i_, vi a_, vi b_, vi f_, .val (.int ((k_ &&& (2147483647 : Int32)) % (24 : Int32))), .val .null, vi mv10, vi mv18, vi mv26, .val .null, u_, u_, u_, u_, u_, u_] []) := fun t k => by
     refine c30 t ?_
     show S_ p e below T27 m 60 #[vi k_, vi i_, vi a_, vi b_, vi f_, .val (.int ((k_ &&& (2147483647 : Int32)) % (24 : Int32))), .val .null, vi mv10, vi mv18, vi mv26, u_, u_, u_, u_, u_, u_, u_] [(.int mv10)] t
     refine XS.ifNo X27.here hx rfl (hb hby at_60) rfl ((if0 _ _).trans (feq hc31).1) ?_
     show S_ p e below T27 m 63 #[vi k_, vi i_, vi a_, vi b_, vi f_, .val (.int ((k_ &&& (2147483647 : Int32)) % (24 : Int32))), .val .null, vi mv10, vi mv18, vi mv26, u_, u_, u_, u_, u_, u_, u_] [] t
     refine XS.aconstNull X27.here hx rfl (hb hby at_63) ?_
     show S_ p e below T27 m 64 #[vi k_, vi i_, vi a_, vi b_, vi f_, .val (.int ((k_ &&& (2147483647 : Int32)) % (24 : Int32))), .val .null, vi mv10, vi mv18, vi mv26, u_, u_, u_, u_, u_, u_, u_] [.null] t
     refine yG X27.here hx rfl 64 71 rfl (hb hby at_64) ?_
     show S_ p e below T27 m 71 #[vi k_, vi i_, vi a_, vi b_, vi f_, .val (.int ((k_ &&& (2147483647 : Int32)) % (24 : Int32))), .val .null, vi mv10, vi mv18, vi mv26, u_, u_, u_, u_, u_, u_, u_] [.null] t
     refine XS.astore X27.here hx rfl (hb hby at_71) rfl rfl (l' := #[vi k_, vi i_, vi a_, vi b_, vi f_, .val (.int ((k_ &&& (2147483647 : Int32)) % (24 : Int32))), .val .null, vi mv10, vi mv18, vi mv26, .val .null, u_, u_, u_, u_, u_, u_]) rfl ?_
     exact k
    have K45 : Keep h27 h27 [] := (Keep.refl _ _)
    exact ⟨.null, T27, _, _, X27.mono (by decide) (by decide), e27, o27, K45, kp27, N27, rfl, c41⟩
  have c47 : Kt p e below T44 st0 (mkF m 74 #[vi k_, vi i_, vi a_, vi b_, vi f_, .val (.int ((k_ &&& (2147483647 : Int32)) % (24 : Int32))), .val .null, vi mv10, vi mv18, vi mv26, .val mv42, u_, u_, u_, u_, u_, u_] [(ii 2)]) := fun t k => by
   refine c44 t ?_
   show S_ p e below T44 m 73 #[vi k_, vi i_, vi a_, vi b_, vi f_, .val (.int ((k_ &&& (2147483647 : Int32)) % (24 : Int32))), .val .null, vi mv10, vi mv18, vi mv26, .val mv42, u_, u_, u_, u_, u_, u_] [] t
   refine XS.iconst X44.here hx rfl (hb hby at_73) ?_
   exact k
  obtain ⟨b48, T48, h48, k48, z48, g48, X48, e48, E48, o49, A48, c48⟩ := knewP (aty := .char) X44 hx hZ (w15 hw) e44 c47 rfl (hb hby at_74) rfl (by decide) 2 (by decide) (by decide) (by decide) (by decide) o44
  have kp51 := kp44.ext E48
  have z52 := Nat.le_trans kp44.1 z48
  have f50 : Arv Z h48 b48 k48 .char (2 : Int32) [(ii 0), (ii 0)] (ii 0) := A48.pad (pad_rep [] (ii 0) 2)
  have c53 : Kt p e below T48 st0 (mkF m 87 #[vi k_, vi i_, vi a_, vi b_, vi f_, .val (.int ((k_ &&& (2147483647 : Int32)) % (24 : Int32))), .val .null, vi mv10, vi mv18, vi mv26, .val mv42, vr b48, u_, u_, u_, u_, u_] [(.int ((a_ &&& (255 : Int32)).toUInt32.toUInt16.toUInt32.toInt32)), (ii 0), (rr b48)]) := fun t k => by
   refine c48 t ?_
   show S_ p e below T48 m 76 #[vi k_, vi i_, vi a_, vi b_, vi f_, .val (.int ((k_ &&& (2147483647 : Int32)) % (24 : Int32))), .val .null, vi mv10, vi mv18, vi mv26, .val mv42, u_, u_, u_, u_, u_, u_] [(rr b48)] t
   refine XS.astore X48.here hx rfl (hb hby at_76) rfl rfl (l' := #[vi k_, vi i_, vi a_, vi b_, vi f_, .val (.int ((k_ &&& (2147483647 : Int32)) % (24 : Int32))), .val .null, vi mv10, vi mv18, vi mv26, .val mv42, vr b48, u_, u_, u_, u_, u_]) rfl ?_
   show S_ p e below T48 m 78 #[vi k_, vi i_, vi a_, vi b_, vi f_, .val (.int ((k_ &&& (2147483647 : Int32)) % (24 : Int32))), .val .null, vi mv10, vi mv18, vi mv26, .val mv42, vr b48, u_, u_, u_, u_, u_] [] t
   refine XS.aload X48.here hx rfl (hb hby at_78) rfl rfl ?_
   show S_ p e below T48 m 80 #[vi k_, vi i_, vi a_, vi b_, vi f_, .val (.int ((k_ &&& (2147483647 : Int32)) % (24 : Int32))), .val .null, vi mv10, vi mv18, vi mv26, .val mv42, vr b48, u_, u_, u_, u_, u_] [(rr b48)] t
   refine XS.iconst X48.here hx rfl (hb hby at_80) ?_
   show S_ p e below T48 m 81 #[vi k_, vi i_, vi a_, vi b_, vi f_, .val (.int ((k_ &&& (2147483647 : Int32)) % (24 : Int32))), .val .null, vi mv10, vi mv18, vi mv26, .val mv42, vr b48, u_, u_, u_, u_, u_] [(ii 0), (rr b48)] t
   refine XS.iloadN X48.here hx rfl (hb hby at_81) rfl ?_
   show S_ p e below T48 m 82 #[vi k_, vi i_, vi a_, vi b_, vi f_, .val (.int ((k_ &&& (2147483647 : Int32)) % (24 : Int32))), .val .null, vi mv10, vi mv18, vi mv26, .val mv42, vr b48, u_, u_, u_, u_, u_] [(.int a_), (ii 0), (rr b48)] t
   refine XS.sipush X48.here hx rfl (hb hby at_82) ?_
   show S_ p e below T48 m 85 #[vi k_, vi i_, vi a_, vi b_, vi f_, .val (.int ((k_ &&& (2147483647 : Int32)) % (24 : Int32))), .val .null, vi mv10, vi mv18, vi mv26, .val mv42, vr b48, u_, u_, u_, u_, u_] [(ii 255), (.int a_), (ii 0), (rr b48)] t
   refine XS.iand X48.here hx rfl (hb hby at_85) rfl ?_
   show S_ p e below T48 m 86 #[vi k_, vi i_, vi a_, vi b_, vi f_, .val (.int ((k_ &&& (2147483647 : Int32)) % (24 : Int32))), .val .null, vi mv10, vi mv18, vi mv26, .val mv42, vr b48, u_, u_, u_, u_, u_] [(.int (a_ &&& (255 : Int32))), (ii 0), (rr b48)] t
   refine XS.i2c X48.here hx rfl (hb hby at_86) rfl ?_
   exact k
  obtain ⟨T54, h54, X54, e54, W54, f57, o55, N56, c54⟩ := kstC X48 hx hZ e48 f50 (j := (0 : Int32)) (by decide) (by decide) 0 rfl (Nat.le_of_ble_eq_true rfl) c53 rfl rfl (hb hby at_87) o49 N44 g48
  have f58 : Arv Z h54 b48 k48 .char (2 : Int32) [(.int (nar .char ((a_ &&& (255 : Int32)).toUInt32.toUInt16.toUInt32.toInt32))), (ii 0)] (ii 0) := f57
  have kp59 := kp51.wr W54 (Or.inr z52)
  have c60 : Kt p e below T54 st0 (mkF m 97 #[vi k_, vi i_, vi a_, vi b_, vi f_, .val (.int ((k_ &&& (2147483647 : Int32)) % (24 : Int32))), .val .null, vi mv10, vi mv18, vi mv26, .val mv42, vr b48, u_, u_, u_, u_, u_] [(.int ((b_ &&& (255 : Int32)).toUInt32.toUInt16.toUInt32.toInt32)), (ii 1), (rr b48)]) := fun t k => by
   refine c54 t ?_
   show S_ p e below T54 m 88 #[vi k_, vi i_, vi a_, vi b_, vi f_, .val (.int ((k_ &&& (2147483647 : Int32)) % (24 : Int32))), .val .null, vi mv10, vi mv18, vi mv26, .val mv42, vr b48, u_, u_, u_, u_, u_] [] t
   refine XS.aload X54.here hx rfl (hb hby at_88) rfl rfl ?_
   show S_ p e below T54 m 90 #[vi k_, vi i_, vi a_, vi b_, vi f_, .val (.int ((k_ &&& (2147483647 : Int32)) % (24 : Int32))), .val .null, vi mv10, vi mv18, vi mv26, .val mv42, vr b48, u_, u_, u_, u_, u_] [(rr b48)] t
   refine XS.iconst X54.here hx rfl (hb hby at_90) ?_
   show S_ p e below T54 m 91 #[vi k_, vi i_, vi a_, vi b_, vi f_, .val (.int ((k_ &&& (2147483647 : Int32)) % (24 : Int32))), .val .null, vi mv10, vi mv18, vi mv26, .val mv42, vr b48, u_, u_, u_, u_, u_] [(ii 1), (rr b48)] t
   refine XS.iloadN X54.here hx rfl (hb hby at_91) rfl ?_
   show S_ p e below T54 m 92 #[vi k_, vi i_, vi a_, vi b_, vi f_, .val (.int ((k_ &&& (2147483647 : Int32)) % (24 : Int32))), .val .null, vi mv10, vi mv18, vi mv26, .val mv42, vr b48, u_, u_, u_, u_, u_] [(.int b_), (ii 1), (rr b48)] t
   refine XS.sipush X54.here hx rfl (hb hby at_92) ?_
   show S_ p e below T54 m 95 #[vi k_, vi i_, vi a_, vi b_, vi f_, .val (.int ((k_ &&& (2147483647 : Int32)) % (24 : Int32))), .val .null, vi mv10, vi mv18, vi mv26, .val mv42, vr b48, u_, u_, u_, u_, u_] [(ii 255), (.int b_), (ii 1), (rr b48)] t
   refine XS.iand X54.here hx rfl (hb hby at_95) rfl ?_
   show S_ p e below T54 m 96 #[vi k_, vi i_, vi a_, vi b_, vi f_, .val (.int ((k_ &&& (2147483647 : Int32)) % (24 : Int32))), .val .null, vi mv10, vi mv18, vi mv26, .val mv42, vr b48, u_, u_, u_, u_, u_] [(.int (b_ &&& (255 : Int32))), (ii 1), (rr b48)] t
   refine XS.i2c X54.here hx rfl (hb hby at_96) rfl ?_
   exact k
  obtain ⟨T61, h61, X61, e61, W61, f64, o62, N63, c61⟩ := kstC X54 hx hZ e54 f58 (j := (1 : Int32)) (by decide) (by decide) 1 rfl (Nat.le_of_ble_eq_true rfl) c60 rfl rfl (hb hby at_97) o55 N56 g48
  have f65 : Arv Z h61 b48 k48 .char (2 : Int32) [(.int (nar .char ((a_ &&& (255 : Int32)).toUInt32.toUInt16.toUInt32.toInt32))), (.int (nar .char ((b_ &&& (255 : Int32)).toUInt32.toUInt16.toUInt32.toInt32)))] (ii 0) := f64
  have kp66 := kp59.wr W61 (Or.inr z52)
  obtain ⟨mv92, T94, h94, L94, X94, e94, o94, K94, kp94, N94, hr93, c94⟩ : ∃ (mv92 : Value), ∃ (T94 : State) (h94 : Heap) (L94 : List Loc), Stand p l e room_1 (s.setVm s.vm) m #[(.int k_), (.int i_), (.int a_), (.int b_), (.int f_)] below meth c T94 L94 4 9 ∧ T94.heap = h94 ∧ Old Z n0 h94 ∧ Keep h61 h94 [] ∧ Keep h0 h94 [] ∧ Fr n0 L94 ∧ mv92.isRef = true ∧ Kt p e below T94 st0 (mkF m 118 #[vi k_, vi i_, vi a_, vi b_, vi f_, .val (.int ((k_ &&& (2147483647 : Int32)) % (24 : Int32))), .val .null, vi mv10, vi mv18, vi mv26, .val mv42, vr b48, .val mv92, u_, u_, u_, u_] []) := by
   have c67 : Kt p e below T61 st0 (mkF m 100 #[vi k_, vi i_, vi a_, vi b_, vi f_, .val (.int ((k_ &&& (2147483647 : Int32)) % (24 : Int32))), .val .null, vi mv10, vi mv18, vi mv26, .val mv42, vr b48, u_, u_, u_, u_, u_] [(.int mv18)]) := fun t k => by
    refine c61 t ?_
    show S_ p e below T61 m 98 #[vi k_, vi i_, vi a_, vi b_, vi f_, .val (.int ((k_ &&& (2147483647 : Int32)) % (24 : Int32))), .val .null, vi mv10, vi mv18, vi mv26, .val mv42, vr b48, u_, u_, u_, u_, u_] [] t
    refine XS.iload X61.here hx rfl (hb hby at_98) rfl ?_
    exact k
   by_cases hc68 : mv18 = (0 : Int32)
   ·have c69 : Kt p e below T61 st0 (mkF m 107 #[vi k_, vi i_, vi a_, vi b_, vi f_, .val (.int ((k_ &&& (2147483647 : Int32)) % (24 : Int32))), .val .null, vi mv10, vi mv18, vi mv26, .val mv42, vr b48, u_, u_, u_, u_, u_] []) := fun t k => by
     refine c67 t ?_
     show S_ p e below T61 m 100 #[vi k_, vi i_, vi a_, vi b_, vi f_, .val (.int ((k_ &&& (2147483647 : Int32)) % (24 : Int32))), .val .null, vi mv10, vi mv18, vi mv26, .val mv42, vr b48, u_, u_, u_, u_, u_] [(.int mv18)] t
     refine yI X61.here hx rfl 100 107 rfl (hb hby at_100) rfl ((if0 _ _).trans (teq hc68).1) ?_
     exact k
    obtain ⟨b70, T70, h70, z70, g70, X70, e70, E70, o71, A70, D70, U70, c70⟩ := knew X61 hx hZ hown (w16 hw) (w17 hw) (w18 hw) e61 c69 rfl (hb hby at_107) (by decide) (by decide) o62
    have kp72 := kp66.ext E70
    have z73 := Nat.le_trans kp66.1 z70
    have c74 : Kt p e below T70 st0 (mkF m 113 #[vi k_, vi i_, vi a_, vi b_, vi f_, .val (.int ((k_ &&& (2147483647 : Int32)) % (24 : Int32))), .val .null, vi mv10, vi mv18, vi mv26, .val mv42, vr b48, u_, u_, u_, u_, u_] [(rr b48), (rr b70), (rr b70)]) := fun t k => by
     refine c70 t ?_
     show S_ p e below T70 m 110 #[vi k_, vi i_, vi a_, vi b_, vi f_, .val (.int ((k_ &&& (2147483647 : Int32)) % (24 : Int32))), .val .null, vi mv10, vi mv18, vi mv26, .val mv42, vr b48, u_, u_, u_, u_, u_] [(rr b70)] t
     refine XS.dup X70.here hx rfl (hb hby at_110) rfl rfl ?_
     show S_ p e below T70 m 111 #[vi k_, vi i_, vi a_, vi b_, vi f_, .val (.int ((k_ &&& (2147483647 : Int32)) % (24 : Int32))), .val .null, vi mv10, vi mv18, vi mv26, .val mv42, vr b48, u_, u_, u_, u_, u_] [(rr b70), (rr b70)] t
     refine XS.aload X70.here hx rfl (hb hby at_111) rfl rfl ?_
     exact k
    obtain ⟨_, T75, L75, X75, hQ75, c75⟩ := kspec X70 hx hZ hown (w19 hw) (w20 hw) (w18 hw) (w21 hw) (rm_str1_2 l Z a0 hw [] b70 b48 k48 si144_ ((nar .char ((a_ &&& (255 : Int32)).toUInt32.toUInt16.toUInt32.toInt32))) ((nar .char ((b_ &&& (255 : Int32)).toUInt32.toUInt16.toUInt32.toInt32))) h70 n0 o71 A70 (show Fld Z h70 b70 nm6 "value" "[B" .null from D70 (Or.inr (w44 hw)) (ty := (.array .byte)) (by decide)) (show Fld Z h70 b70 nm6 "coder" "B" (ii 0) from D70 (Or.inr (w42 hw)) (ty := .byte) (by decide)) g70 (f65.ext E70) ZS49_ sn147_ (own_small _) (own_small _)) e70 c74 hml pd_pACrV b70 [(rr b48)] [(rr b70)] 1 (hb hby at_113) rfl rfl rfl rfl rfl rfl
    obtain ⟨rfl, N76q, K77, p78, p79, b80, k81, p82, p83, p84, p85⟩ := hQ75
    have N76 := Fr.app N63 N76q
    have o86 := o71.keep K77 (allS g70 all0)
    have kp87 := kp72.trans K77 (allS (Or.inr z73) all0)
    have z88 := Nat.le_trans kp72.1 p85
    have g89 := Nat.le_trans (Nat.le_trans (Nat.le_of_eq o71.1.symm) o71.2.1) p85
    have c90 : Kt p e below T75 st0 (mkF m 118 #[vi k_, vi i_, vi a_, vi b_, vi f_, .val (.int ((k_ &&& (2147483647 : Int32)) % (24 : Int32))), .val .null, vi mv10, vi mv18, vi mv26, .val mv42, vr b48, vr b70, u_, u_, u_, u_] []) := fun t k => by
     refine c75 t ?_
     show S_ p e below T75 m 116 #[vi k_, vi i_, vi a_, vi b_, vi f_, .val (.int ((k_ &&& (2147483647 : Int32)) % (24 : Int32))), .val .null, vi mv10, vi mv18, vi mv26, .val mv42, vr b48, u_, u_, u_, u_, u_] [(rr b70)] t
     refine XS.astore X75.here hx rfl (hb hby at_116) rfl rfl (l' := #[vi k_, vi i_, vi a_, vi b_, vi f_, .val (.int ((k_ &&& (2147483647 : Int32)) % (24 : Int32))), .val .null, vi mv10, vi mv18, vi mv26, .val mv42, vr b48, vr b70, u_, u_, u_, u_]) rfl ?_
     exact k
    have K96 : Keep h61 T75.heap [] := (((Keep.refl _ _).ext E70).trans K77 (allS (Or.inr (Nat.le_trans (Nat.le_refl _) z70)) all0))
    exact ⟨(rr b70), T75, _, _, X75.mono (by decide) (by decide), rfl, o86, K96, kp87, N76, rfl, c90⟩
   ·have c91 : Kt p e below T61 st0 (mkF m 118 #[vi k_, vi i_, vi a_, vi b_, vi f_, .val (.int ((k_ &&& (2147483647 : Int32)) % (24 : Int32))), .val .null, vi mv10, vi mv18, vi mv26, .val mv42, vr b48, .val .null, u_, u_, u_, u_] []) := fun t k => by
     refine c67 t ?_
     show S_ p e below T61 m 100 #[vi k_, vi i_, vi a_, vi b_, vi f_, .val (.int ((k_ &&& (2147483647 : Int32)) % (24 : Int32))), .val .null, vi mv10, vi mv18, vi mv26, .val mv42, vr b48, u_, u_, u_, u_, u_] [(.int mv18)] t
     refine XS.ifNo X61.here hx rfl (hb hby at_100) rfl ((if0 _ _).trans (feq hc68).1) ?_
     show S_ p e below T61 m 103 #[vi k_, vi i_, vi a_, vi b_, vi f_, .val (.int ((k_ &&& (2147483647 : Int32)) % (24 : Int32))), .val .null, vi mv10, vi mv18, vi mv26, .val mv42, vr b48, u_, u_, u_, u_, u_] [] t
     refine XS.aconstNull X61.here hx rfl (hb hby at_103) ?_
     show S_ p e below T61 m 104 #[vi k_, vi i_, vi a_, vi b_, vi f_, .val (.int ((k_ &&& (2147483647 : Int32)) % (24 : Int32))), .val .null, vi mv10, vi mv18, vi mv26, .val mv42, vr b48, u_, u_, u_, u_, u_] [.null] t
     refine yG X61.here hx rfl 104 116 rfl (hb hby at_104) ?_
     show S_ p e below T61 m 116 #[vi k_, vi i_, vi a_, vi b_, vi f_, .val (.int ((k_ &&& (2147483647 : Int32)) % (24 : Int32))), .val .null, vi mv10, vi mv18, vi mv26, .val mv42, vr b48, u_, u_, u_, u_, u_] [.null] t
     refine XS.astore X61.here hx rfl (hb hby at_116) rfl rfl (l' := #[vi k_, vi i_, vi a_, vi b_, vi f_, .val (.int ((k_ &&& (2147483647 : Int32)) % (24 : Int32))), .val .null, vi mv10, vi mv18, vi mv26, .val mv42, vr b48, .val .null, u_, u_, u_, u_]) rfl ?_
     exact k
    have K95 : Keep h61 h61 [] := (Keep.refl _ _)
    exact ⟨.null, T61, _, _, X61.mono (by decide) (by decide), e61, o62, K95, kp66, N63, rfl, c91⟩
  obtain ⟨mv113, T115, h115, L115, X115, e115, o115, K115, kp115, N115, hr114, c115⟩ : ∃ (mv113 : Value), ∃ (T115 : State) (h115 : Heap) (L115 : List Loc), Stand p l e room_1 (s.setVm s.vm) m #[(.int k_), (.int i_), (.int a_), (.int b_), (.int f_)] below meth c T115 L115 5 12 ∧ T115.heap = h115 ∧ Old Z n0 h115 ∧ Keep h94 h115 [] ∧ Keep h0 h115 [] ∧ Fr n0 L115 ∧ mv113.isRef = true ∧ Kt p e below T115 st0 (mkF m 136 #[vi k_, vi i_, vi a_, vi b_, vi f_, .val (.int ((k_ &&& (2147483647 : Int32)) % (24 : Int32))), .val .null, vi mv10, vi mv18, vi mv26, .val mv42, vr b48, .val mv92, .val mv113, u_, u_, u_] []) := by
   have c97 : Kt p e below T94 st0 (mkF m 120 #[vi k_, vi i_, vi a_, vi b_, vi f_, .val (.int ((k_ &&& (2147483647 : Int32)) % (24 : Int32))), .val .null, vi mv10, vi mv18, vi mv26, .val mv42, vr b48, .val mv92, u_, u_, u_, u_] [(.int mv26)]) := fun t k => by
    refine c94 t ?_
    show S_ p e below T94 m 118 #[vi k_, vi i_, vi a_, vi b_, vi f_, .val (.int ((k_ &&& (2147483647 : Int32)) % (24 : Int32))), .val .null, vi mv10, vi mv18, vi mv26, .val mv42, vr b48, .val mv92, u_, u_, u_, u_] [] t
    refine XS.iload X94.here hx rfl (hb hby at_118) rfl ?_
    exact k
   by_cases hc98 : mv26 = (0 : Int32)
   ·have c99 : Kt p e below T94 st0 (mkF m 127 #[vi k_, vi i_, vi a_, vi b_, vi f_, .val (.int ((k_ &&& (2147483647 : Int32)) % (24 : Int32))), .val .null, vi mv10, vi mv18, vi mv26, .val mv42, vr b48, .val mv92, u_, u_, u_, u_] []) := fun t k => by
     refine c97 t ?_
     show S_ p e below T94 m 120 #[vi k_, vi i_, vi a_, vi b_, vi f_, .val (.int ((k_ &&& (2147483647 : Int32)) % (24 : Int32))), .val .null, vi mv10, vi mv18, vi mv26, .val mv42, vr b48, .val mv92, u_, u_, u_, u_] [(.int mv26)] t
     refine yI X94.here hx rfl 120 127 rfl (hb hby at_120) rfl ((if0 _ _).trans (teq hc98).1) ?_
     exact k
    obtain ⟨b100, T100, h100, z100, g100, X100, e100, E100, o101, A100, D100, U100, c100⟩ := knew X94 hx hZ hown (w45 hw) (w46 hw) (w47 hw) e94 c99 rfl (hb hby at_127) (by decide) (by decide) o94
    have kp102 := kp94.ext E100
    have z103 := Nat.le_trans kp94.1 z100
    have c104 : Kt p e below T100 st0 (mkF m 131 #[vi k_, vi i_, vi a_, vi b_, vi f_, .val (.int ((k_ &&& (2147483647 : Int32)) % (24 : Int32))), .val .null, vi mv10, vi mv18, vi mv26, .val mv42, vr b48, .val mv92, u_, u_, u_, u_] [(rr b100), (rr b100)]) := fun t k => by
     refine c100 t ?_
     show S_ p e below T100 m 130 #[vi k_, vi i_, vi a_, vi b_, vi f_, .val (.int ((k_ &&& (2147483647 : Int32)) % (24 : Int32))), .val .null, vi mv10, vi mv18, vi mv26, .val mv42, vr b48, .val mv92, u_, u_, u_, u_] [(rr b100)] t
     refine XS.dup X100.here hx rfl (hb hby at_130) rfl rfl ?_
     exact k
    obtain ⟨_, T105, L105, X105, hQ105, c105⟩ := kspec X100 hx hZ hown (w48 hw) (w49 hw) (w47 hw) (w50 hw) (rm_al l Z a0 hw [] b100 sa154_ h100 n0 o101 A100 (show Fld Z h100 b100 nm26 "modCount" "I" (ii 0) from D100 (Or.inl (w65 hw)) (ty := .int) (by decide)) (show Fld Z h100 b100 nm12 "elementData" nm19 .null from D100 (Or.inl (w68 hw)) (ty := (.array (.object nm8))) (by decide)) g100 ZS53_) e100 c104 hml pd_prV b100 [] [(rr b100)] 1 (hb hby at_131) rfl rfl rfl rfl rfl rfl
    obtain ⟨rfl, N106q, K107, p108⟩ := hQ105
    have N106 := Fr.app N94 N106q
    have o109 := o101.keep K107 (allS g100 all0)
    have kp110 := kp102.trans K107 (allS (Or.inr z103) all0)
    have c111 : Kt p e below T105 st0 (mkF m 136 #[vi k_, vi i_, vi a_, vi b_, vi f_, .val (.int ((k_ &&& (2147483647 : Int32)) % (24 : Int32))), .val .null, vi mv10, vi mv18, vi mv26, .val mv42, vr b48, .val mv92, vr b100, u_, u_, u_] []) := fun t k => by
     refine c105 t ?_
     show S_ p e below T105 m 134 #[vi k_, vi i_, vi a_, vi b_, vi f_, .val (.int ((k_ &&& (2147483647 : Int32)) % (24 : Int32))), .val .null, vi mv10, vi mv18, vi mv26, .val mv42, vr b48, .val mv92, u_, u_, u_, u_] [(rr b100)] t
     refine XS.astore X105.here hx rfl (hb hby at_134) rfl rfl (l' := #[vi k_, vi i_, vi a_, vi b_, vi f_, .val (.int ((k_ &&& (2147483647 : Int32)) % (24 : Int32))), .val .null, vi mv10, vi mv18, vi mv26, .val mv42, vr b48, .val mv92, vr b100, u_, u_, u_]) rfl ?_
     exact k
    have K117 : Keep h94 T105.heap [] := (((Keep.refl _ _).ext E100).trans K107 (allS (Or.inr (Nat.le_trans (Nat.le_refl _) z100)) all0))
    exact ⟨(rr b100), T105, _, _, X105.mono (by decide) (by decide), rfl, o109, K117, kp110, N106, rfl, c111⟩
   ·have c112 : Kt p e below T94 st0 (mkF m 136 #[vi k_, vi i_, vi a_, vi b_, vi f_, .val (.int ((k_ &&& (2147483647 : Int32)) % (24 : Int32))), .val .null, vi mv10, vi mv18, vi mv26, .val mv42, vr b48, .val mv92, .val .null, u_, u_, u_] []) := fun t k => by
     refine c97 t ?_
     show S_ p e below T94 m 120 #[vi k_, vi i_, vi a_, vi b_, vi f_, .val (.int ((k_ &&& (2147483647 : Int32)) % (24 : Int32))), .val .null, vi mv10, vi mv18, vi mv26, .val mv42, vr b48, .val mv92, u_, u_, u_, u_] [(.int mv26)] t
     refine XS.ifNo X94.here hx rfl (hb hby at_120) rfl ((if0 _ _).trans (feq hc98).1) ?_
     show S_ p e below T94 m 123 #[vi k_, vi i_, vi a_, vi b_, vi f_, .val (.int ((k_ &&& (2147483647 : Int32)) % (24 : Int32))), .val .null, vi mv10, vi mv18, vi mv26, .val mv42, vr b48, .val mv92, u_, u_, u_, u_] [] t
     refine XS.aconstNull X94.here hx rfl (hb hby at_123) ?_
     show S_ p e below T94 m 124 #[vi k_, vi i_, vi a_, vi b_, vi f_, .val (.int ((k_ &&& (2147483647 : Int32)) % (24 : Int32))), .val .null, vi mv10, vi mv18, vi mv26, .val mv42, vr b48, .val mv92, u_, u_, u_, u_] [.null] t
     refine yG X94.here hx rfl 124 134 rfl (hb hby at_124) ?_
     show S_ p e below T94 m 134 #[vi k_, vi i_, vi a_, vi b_, vi f_, .val (.int ((k_ &&& (2147483647 : Int32)) % (24 : Int32))), .val .null, vi mv10, vi mv18, vi mv26, .val mv42, vr b48, .val mv92, u_, u_, u_, u_] [.null] t
     refine XS.astore X94.here hx rfl (hb hby at_134) rfl rfl (l' := #[vi k_, vi i_, vi a_, vi b_, vi f_, .val (.int ((k_ &&& (2147483647 : Int32)) % (24 : Int32))), .val .null, vi mv10, vi mv18, vi mv26, .val mv42, vr b48, .val mv92, .val .null, u_, u_, u_]) rfl ?_
     exact k
    have K116 : Keep h94 h94 [] := (Keep.refl _ _)
    exact ⟨.null, T94, _, _, X94.mono (by decide) (by decide), e94, o94, K116, kp94, N94, rfl, c112⟩
  obtain ⟨b118, T118, h118, z118, g118, X118, e118, E118, o119, A118, D118, U118, c118⟩ := knew X115 hx hZ hown (w69 hw) (w70 hw) (w71 hw) e115 c115 rfl (hb hby at_136) (by decide) (by decide) o115
  have kp120 := kp115.ext E118
  have z121 := Nat.le_trans kp115.1 z118
  have c122 : Kt p e below T118 st0 (mkF m 148 #[vi k_, vi i_, vi a_, vi b_, vi f_, .val (.int ((k_ &&& (2147483647 : Int32)) % (24 : Int32))), .val .null, vi mv10, vi mv18, vi mv26, .val mv42, vr b48, .val mv92, .val mv113, u_, u_, u_] [mv113, mv92, .null, mv42, (rr b118), (rr b118)]) := fun t k => by
   refine c118 t ?_
   show S_ p e below T118 m 139 #[vi k_, vi i_, vi a_, vi b_, vi f_, .val (.int ((k_ &&& (2147483647 : Int32)) % (24 : Int32))), .val .null, vi mv10, vi mv18, vi mv26, .val mv42, vr b48, .val mv92, .val mv113, u_, u_, u_] [(rr b118)] t
   refine XS.dup X118.here hx rfl (hb hby at_139) rfl rfl ?_
   show S_ p e below T118 m 140 #[vi k_, vi i_, vi a_, vi b_, vi f_, .val (.int ((k_ &&& (2147483647 : Int32)) % (24 : Int32))), .val .null, vi mv10, vi mv18, vi mv26, .val mv42, vr b48, .val mv92, .val mv113, u_, u_, u_] [(rr b118), (rr b118)] t
   refine XS.aload X118.here hx rfl (hb hby at_140) rfl hr43 ?_
   show S_ p e below T118 m 142 #[vi k_, vi i_, vi a_, vi b_, vi f_, .val (.int ((k_ &&& (2147483647 : Int32)) % (24 : Int32))), .val .null, vi mv10, vi mv18, vi mv26, .val mv42, vr b48, .val mv92, .val mv113, u_, u_, u_] [mv42, (rr b118), (rr b118)] t
   refine XS.aload X118.here hx rfl (hb hby at_142) rfl rfl ?_
   show S_ p e below T118 m 144 #[vi k_, vi i_, vi a_, vi b_, vi f_, .val (.int ((k_ &&& (2147483647 : Int32)) % (24 : Int32))), .val .null, vi mv10, vi mv18, vi mv26, .val mv42, vr b48, .val mv92, .val mv113, u_, u_, u_] [.null, mv42, (rr b118), (rr b118)] t
   refine XS.aload X118.here hx rfl (hb hby at_144) rfl hr93 ?_
   show S_ p e below T118 m 146 #[vi k_, vi i_, vi a_, vi b_, vi f_, .val (.int ((k_ &&& (2147483647 : Int32)) % (24 : Int32))), .val .null, vi mv10, vi mv18, vi mv26, .val mv42, vr b48, .val mv92, .val mv113, u_, u_, u_] [mv92, .null, mv42, (rr b118), (rr b118)] t
   refine XS.aload X118.here hx rfl (hb hby at_146) rfl hr114 ?_
   exact k
  obtain ⟨_, T123, L123, X123, hQ123, c123⟩ := kspec X118 hx hZ hown (w72 hw) (w73 hw) (w71 hw) (w74 hw) (rm_oinit l Z a0 hw [] b118 mv42 (.null) mv92 mv113 h118 n0 o119 A118 (show Fld Z h118 b118 nm3 "item" "Ljava/lang/Object;" .null from D118 (Or.inr (w82 hw)) (ty := (.object nm8)) (by decide)) (show Fld Z h118 b118 nm3 "refusal" nm1 .null from D118 (Or.inr (w84 hw)) (ty := (.object nm0)) (by decide)) (show Fld Z h118 b118 nm3 "message" nm20 .null from D118 (Or.inr (w86 hw)) (ty := (.object nm6)) (by decide)) (show Fld Z h118 b118 nm3 "bindingTargets" nm10 .null from D118 (Or.inr (w88 hw)) (ty := (.object nm7)) (by decide)) g118 hr43 rfl hr93 hr114) e118 c122 hml pd_pLjava_lang_Object_Lcom_example_rosterd_rosterd_core_Refusal_Ljava_lang_String_Ljava_util_List_rV b118 [mv42, .null, mv92, mv113] [(rr b118)] 1 (hb hby at_148) rfl rfl rfl rfl rfl rfl
  obtain ⟨rfl, N124q, K125, p126, p127⟩ := hQ123
  have N124 := Fr.app N115 N124q
  have o128 := o119.keep K125 (allS g118 all0)
  have kp129 := kp120.trans K125 (allS (Or.inr z121) all0)
  have c130 : Kt p e below T123 st0 (mkF m 155 #[vi k_, vi i_, vi a_, vi b_, vi f_, .val (.int ((k_ &&& (2147483647 : Int32)) % (24 : Int32))), .val .null, vi mv10, vi mv18, vi mv26, .val mv42, vr b48, .val mv92, .val mv113, vr b118, u_, u_] [(rr b118)]) := fun t k => by
   refine c123 t ?_
   show S_ p e below T123 m 151 #[vi k_, vi i_, vi a_, vi b_, vi f_, .val (.int ((k_ &&& (2147483647 : Int32)) % (24 : Int32))), .val .null, vi mv10, vi mv18, vi mv26, .val mv42, vr b48, .val mv92, .val mv113, u_, u_, u_] [(rr b118)] t
   refine XS.astore X123.here hx rfl (hb hby at_151) rfl rfl (l' := #[vi k_, vi i_, vi a_, vi b_, vi f_, .val (.int ((k_ &&& (2147483647 : Int32)) % (24 : Int32))), .val .null, vi mv10, vi mv18, vi mv26, .val mv42, vr b48, .val mv92, .val mv113, vr b118, u_, u_]) rfl ?_
   show S_ p e below T123 m 153 #[vi k_, vi i_, vi a_, vi b_, vi f_, .val (.int ((k_ &&& (2147483647 : Int32)) % (24 : Int32))), .val .null, vi mv10, vi mv18, vi mv26, .val mv42, vr b48, .val mv92, .val mv113, vr b118, u_, u_] [] t
   refine XS.aload X123.here hx rfl (hb hby at_153) rfl rfl ?_
   exact k
  obtain ⟨_, T131, L131, X131, hQ131, c131⟩ := kvirt X123 hx hZ hown (w89 hw) (w90 hw) (w92 hw) (w91 hw) (w93 hw) (w71 hw) (rm_sucN l Z a0 hw [] b118 T123.heap n0 o128 p127) rfl p126 c130 hml pd_prZ [] [] 0 (hb hby at_155) rfl rfl rfl rfl rfl rfl
  obtain ⟨rfl, N132q, K133⟩ := hQ131
  have N132 := Fr.app N124 N132q
  have c134 : Kt p e below T131 st0 (mkF m 185 #[vi k_, vi i_, vi a_, vi b_, vi f_, .val (.int ((k_ &&& (2147483647 : Int32)) % (24 : Int32))), .val .null, vi mv10, vi mv18, vi mv26, .val mv42, vr b48, .val mv92, .val mv113, vr b118, vi 1, u_] [mv42]) := fun t k => by
   refine c131 t ?_
   show S_ p e below T131 m 158 #[vi k_, vi i_, vi a_, vi b_, vi f_, .val (.int ((k_ &&& (2147483647 : Int32)) % (24 : Int32))), .val .null, vi mv10, vi mv18, vi mv26, .val mv42, vr b48, .val mv92, .val mv113, vr b118, u_, u_] [(ii 1)] t
   refine XS.aload X131.here hx rfl (hb hby at_158) rfl rfl ?_
   show S_ p e below T131 m 160 #[vi k_, vi i_, vi a_, vi b_, vi f_, .val (.int ((k_ &&& (2147483647 : Int32)) % (24 : Int32))), .val .null, vi mv10, vi mv18, vi mv26, .val mv42, vr b48, .val mv92, .val mv113, vr b118, u_, u_] [.null, (ii 1)] t
   refine XS.ifnonnullNo X131.here hx rfl (hb hby at_160) rfl ?_
   show S_ p e below T131 m 163 #[vi k_, vi i_, vi a_, vi b_, vi f_, .val (.int ((k_ &&& (2147483647 : Int32)) % (24 : Int32))), .val .null, vi mv10, vi mv18, vi mv26, .val mv42, vr b48, .val mv92, .val mv113, vr b118, u_, u_] [(ii 1)] t
   refine XS.iconst X131.here hx rfl (hb hby at_163) ?_
   show S_ p e below T131 m 164 #[vi k_, vi i_, vi a_, vi b_, vi f_, .val (.int ((k_ &&& (2147483647 : Int32)) % (24 : Int32))), .val .null, vi mv10, vi mv18, vi mv26, .val mv42, vr b48, .val mv92, .val mv113, vr b118, u_, u_] [(ii 1), (ii 1)] t
   refine yG X131.here hx rfl 164 168 rfl (hb hby at_164) ?_
   show S_ p e below T131 m 168 #[vi k_, vi i_, vi a_, vi b_, vi f_, .val (.int ((k_ &&& (2147483647 : Int32)) % (24 : Int32))), .val .null, vi mv10, vi mv18, vi mv26, .val mv42, vr b48, .val mv92, .val mv113, vr b118, u_, u_] [(ii 1), (ii 1)] t
   refine XS.icmpNo X131.here hx rfl (hb hby at_168) rfl rfl ?_
   show S_ p e below T131 m 171 #[vi k_, vi i_, vi a_, vi b_, vi f_, .val (.int ((k_ &&& (2147483647 : Int32)) % (24 : Int32))), .val .null, vi mv10, vi mv18, vi mv26, .val mv42, vr b48, .val mv92, .val mv113, vr b118, u_, u_] [] t
   refine XS.iconst X131.here hx rfl (hb hby at_171) ?_
   show S_ p e below T131 m 172 #[vi k_, vi i_, vi a_, vi b_, vi f_, .val (.int ((k_ &&& (2147483647 : Int32)) % (24 : Int32))), .val .null, vi mv10, vi mv18, vi mv26, .val mv42, vr b48, .val mv92, .val mv113, vr b118, u_, u_] [(ii 1)] t
   refine yG X131.here hx rfl 172 176 rfl (hb hby at_172) ?_
   show S_ p e below T131 m 176 #[vi k_, vi i_, vi a_, vi b_, vi f_, .val (.int ((k_ &&& (2147483647 : Int32)) % (24 : Int32))), .val .null, vi mv10, vi mv18, vi mv26, .val mv42, vr b48, .val mv92, .val mv113, vr b118, u_, u_] [(ii 1)] t
   refine XS.istore X131.here hx rfl (hb hby at_176) rfl (l' := #[vi k_, vi i_, vi a_, vi b_, vi f_, .val (.int ((k_ &&& (2147483647 : Int32)) % (24 : Int32))), .val .null, vi mv10, vi mv18, vi mv26, .val mv42, vr b48, .val mv92, .val mv113, vr b118, vi 1, u_]) rfl ?_
   show S_ p e below T131 m 178 #[vi k_, vi i_, vi a_, vi b_, vi f_, .val (.int ((k_ &&& (2147483647 : Int32)) % (24 : Int32))), .val .null, vi mv10, vi mv18, vi mv26, .val mv42, vr b48, .val mv92, .val mv113, vr b118, vi 1, u_] [] t
   refine XS.iload X131.here hx rfl (hb hby at_178) rfl ?_
   show S_ p e below T131 m 180 #[vi k_, vi i_, vi a_, vi b_, vi f_, .val (.int ((k_ &&& (2147483647 : Int32)) % (24 : Int32))), .val .null, vi mv10, vi mv18, vi mv26, .val mv42, vr b48, .val mv92, .val mv113, vr b118, vi 1, u_] [(ii 1)] t
   refine XS.ifNo X131.here hx rfl (hb hby at_180) rfl rfl ?_
   show S_ p e below T131 m 183 #[vi k_, vi i_, vi a_, vi b_, vi f_, .val (.int ((k_ &&& (2147483647 : Int32)) % (24 : Int32))), .val .null, vi mv10, vi mv18, vi mv26, .val mv42, vr b48, .val mv92, .val mv113, vr b118, vi 1, u_] [] t
   refine XS.aload X131.here hx rfl (hb hby at_183) rfl hr43 ?_
   exact k
  obtain ⟨_, T135, L135, X135, hQ135, c135⟩ := kstat X131 hx hZ hown (w94 hw) (w95 hw) (w71 hw) (w96 hw) (rm_done l Z a0 hw [] mv42 sa159_ T123.heap n0 o128 ZS55_ hr43) K133 c134 hml pd_pLjava_lang_Object_rLcom_example_rosterd_rosterd_core_Outcome_ [mv42] [] 0 (hb hby at_185) rfl rfl rfl rfl rfl rfl
  obtain ⟨b136, rfl, N137q, K138, p139, p140⟩ := hQ135
  have N137 := Fr.app N132 N137q
  have o141 := o128.keep K138 all0
  have kp142 := kp129.trans K138 all0
  obtain ⟨_, T143, L143, X143, hQ143, c143⟩ := kvirt X135 hx hZ hown (w89 hw) (w90 hw) (w92 hw) (w91 hw) (w93 hw) (w71 hw) (rm_sucN l Z a0 hw [] b136 T135.heap n0 o141 p140) rfl p139 c135 hml pd_prZ [] [] 0 (hb hby at_188) rfl rfl rfl rfl rfl rfl
  obtain ⟨rfl, N144q, K145⟩ := hQ143
  have N144 := Fr.app N137 N144q
  obtain ⟨fs, hr, hrun, hended, hRW⟩ := X143.leaveW hS0 (by first | exact (Nat.le_trans (Nat.zero_le _) (Nat.le_trans (Nat.le_trans (Nat.le_trans (Nat.le_trans (Nat.le_trans (Nat.le_trans (Nat.le_trans (Nat.le_trans (Nat.le_trans (Nat.le_trans (Nat.le_trans K11.1 K19.1) K27.1) K44.1) E48.1) (Keep.of_wr W54).1) (Keep.of_wr W61).1) K94.1) K115.1) E118.1) K125.1) K138.1)) | (rw [K145]; exact (Nat.le_trans (Nat.zero_le _) (Nat.le_trans (Nat.le_trans (Nat.le_trans (Nat.le_trans (Nat.le_trans (Nat.le_trans (Nat.le_trans (Nat.le_trans (Nat.le_trans (Nat.le_trans (Nat.le_trans K11.1 K19.1) K27.1) K44.1) E48.1) (Keep.of_wr W54).1) (Keep.of_wr W61).1) K94.1) K115.1) E118.1) K125.1) K138.1)))) (v := some (ii 1)) (fun h => by rw [Bd.returns] at h; cases h)
  refine ⟨_, _, c143 _ ?_, hrun, hended, _, _, rfl, ?_, hRW.1, hRW.2.1, hRW.2.2.1, hRW.2.2.2.mono (by decide) (by decide)⟩
  ·show S_ p e below T143 m 191 #[vi k_, vi i_, vi a_, vi b_, vi f_, .val (.int ((k_ &&& (2147483647 : Int32)) % (24 : Int32))), .val .null, vi mv10, vi mv18, vi mv26, .val mv42, vr b48, .val mv92, .val mv113, vr b118, vi 1, u_] [(ii 1)] _
   refine XS.ifNo X143.here hx rfl (hb hby at_191) rfl rfl ?_
   show S_ p e below T143 m 194 #[vi k_, vi i_, vi a_, vi b_, vi f_, .val (.int ((k_ &&& (2147483647 : Int32)) % (24 : Int32))), .val .null, vi mv10, vi mv18, vi mv26, .val mv42, vr b48, .val mv92, .val mv113, vr b118, vi 1, u_] [] _
   refine XS.iconst X143.here hx rfl (hb hby at_194) ?_
   show S_ p e below T143 m 195 #[vi k_, vi i_, vi a_, vi b_, vi f_, .val (.int ((k_ &&& (2147483647 : Int32)) % (24 : Int32))), .val .null, vi mv10, vi mv18, vi mv26, .val mv42, vr b48, .val mv92, .val mv113, vr b118, vi 1, u_] [(ii 1)] _
   refine yG X143.here hx rfl 195 199 rfl (hb hby at_195) ?_
   show S_ p e below T143 m 199 #[vi k_, vi i_, vi a_, vi b_, vi f_, .val (.int ((k_ &&& (2147483647 : Int32)) % (24 : Int32))), .val .null, vi mv10, vi mv18, vi mv26, .val mv42, vr b48, .val mv92, .val mv113, vr b118, vi 1, u_] [(ii 1)] _
   refine XS.istore X143.here hx rfl (hb hby at_199) rfl (l' := #[vi k_, vi i_, vi a_, vi b_, vi f_, .val (.int ((k_ &&& (2147483647 : Int32)) % (24 : Int32))), .val .null, vi mv10, vi mv18, vi mv26, .val mv42, vr b48, .val mv92, .val mv113, vr b118, vi 1, u_]) rfl ?_
   show S_ p e below T143 m 201 #[vi k_, vi i_, vi a_, vi b_, vi f_, .val (.int ((k_ &&& (2147483647 : Int32)) % (24 : Int32))), .val .null, vi mv10, vi mv18, vi mv26, .val mv42, vr b48, .val mv92, .val mv113, vr b118, vi 1, u_] [] _
   refine XS.aload X143.here hx rfl (hb hby at_201) rfl rfl ?_
   show S_ p e below T143 m 203 #[vi k_, vi i_, vi a_, vi b_, vi f_, .val (.int ((k_ &&& (2147483647 : Int32)) % (24 : Int32))), .val .null, vi mv10, vi mv18, vi mv26, .val mv42, vr b48, .val mv92, .val mv113, vr b118, vi 1, u_] [.null] _
   refine XS.ifnullYes X143.here hx rfl (pc0 := 203) (pc' := 244) rfl (hb hby at_203) rfl (by decide) (by decide) ?_
   show S_ p e below T143 m 244 #[vi k_, vi i_, vi a_, vi b_, vi f_, .val (.int ((k_ &&& (2147483647 : Int32)) % (24 : Int32))), .val .null, vi mv10, vi mv18, vi mv26, .val mv42, vr b48, .val mv92, .val mv113, vr b118, vi 1, u_] [] _
   refine XS.iload X143.here hx rfl (hb hby at_244) rfl ?_
   show S_ p e below T143 m 246 #[vi k_, vi i_, vi a_, vi b_, vi f_, .val (.int ((k_ &&& (2147483647 : Int32)) % (24 : Int32))), .val .null, vi mv10, vi mv18, vi mv26, .val mv42, vr b48, .val mv92, .val mv113, vr b118, vi 1, u_] [(ii 1)] _
   exact retN X143 hx (t := .boolean) Bd.returns (by simp) (hb hby at_246) hr
  ·show Q_law Z k_ i_ a_ b_ f_ sa45_ sa49_ sa53_ sa57_ sa61_ sa65_ sa69_ sa73_ sa77_ sa81_ sa85_ sa89_ sa93_ sa97_ sa101_ sa105_ sa109_ sa113_ sa117_ sa121_ sa125_ sa129_ sa133_ sa139_ si144_ sa149_ sa154_ sa159_ sa163_ sa172_ sa176_ sa180_ sv184_ sk188_ sk191_ sk194_ sk197_ sk200_ sc142_ h0 n0 _ T143.heap _
   rw [K145]
   exact ⟨rfl, N144, kp142⟩
 ·obtain ⟨b146, rfl, N147q, K148, p149⟩ := hQ2
  have N147 := Fr.app N0 N147q
  have f150 : Exa Z h0 b146 nm0 := by rw [← K148]; exact p149
  have c151 : Kt p e below T2 st0 (mkF m 16 #[vi k_, vi i_, vi a_, vi b_, vi f_, .val (.int ((k_ &&& (2147483647 : Int32)) % (24 : Int32))), vr b146, u_, u_, u_, u_, u_, u_, u_, u_, u_, u_] []) := fun t k => by
   refine c2 t ?_
   show S_ p e below T2 m 14 #[vi k_, vi i_, vi a_, vi b_, vi f_, .val (.int ((k_ &&& (2147483647 : Int32)) % (24 : Int32))), u_, u_, u_, u_, u_, u_, u_, u_, u_, u_, u_] [(rr b146)] t
   refine XS.astore X2.here hx rfl (hb hby at_14) rfl rfl (l' := #[vi k_, vi i_, vi a_, vi b_, vi f_, .val (.int ((k_ &&& (2147483647 : Int32)) % (24 : Int32))), vr b146, u_, u_, u_, u_, u_, u_, u_, u_, u_, u_]) rfl ?_
   exact k
  obtain ⟨mv156, T157, h157, L157, X157, e157, o157, K157, kp157, N157, c157⟩ : ∃ (mv156 : Int32), ∃ (T157 : State) (h157 : Heap) (L157 : List Loc), Stand p l e room_1 (s.setVm s.vm) m #[(.int k_), (.int i_), (.int a_), (.int b_), (.int f_)] below meth c T157 L157 0 0 ∧ T157.heap = h157 ∧ Old Z n0 h157 ∧ Keep h0 h157 [] ∧ Keep h0 h157 [] ∧ Fr n0 L157 ∧ Kt p e below T157 st0 (mkF m 30 #[vi k_, vi i_, vi a_, vi b_, vi f_, .val (.int ((k_ &&& (2147483647 : Int32)) % (24 : Int32))), vr b146, vi mv156, u_, u_, u_, u_, u_, u_, u_, u_, u_] []) := by
   have c152 : Kt p e below T2 st0 (mkF m 20 #[vi k_, vi i_, vi a_, vi b_, vi f_, .val (.int ((k_ &&& (2147483647 : Int32)) % (24 : Int32))), vr b146, u_, u_, u_, u_, u_, u_, u_, u_, u_, u_] [(.int (f_ &&& (1 : Int32)))]) := fun t k => by
    refine c151 t ?_
    show S_ p e below T2 m 16 #[vi k_, vi i_, vi a_, vi b_, vi f_, .val (.int ((k_ &&& (2147483647 : Int32)) % (24 : Int32))), vr b146, u_, u_, u_, u_, u_, u_, u_, u_, u_, u_] [] t
    refine XS.iload X2.here hx rfl (hb hby at_16) rfl ?_
    show S_ p e below T2 m 18 #[vi k_, vi i_, vi a_, vi b_, vi f_, .val (.int ((k_ &&& (2147483647 : Int32)) % (24 : Int32))), vr b146, u_, u_, u_, u_, u_, u_, u_, u_, u_, u_] [(.int f_)] t
    refine XS.iconst X2.here hx rfl (hb hby at_18) ?_
    show S_ p e below T2 m 19 #[vi k_, vi i_, vi a_, vi b_, vi f_, .val (.int ((k_ &&& (2147483647 : Int32)) % (24 : Int32))), vr b146, u_, u_, u_, u_, u_, u_, u_, u_, u_, u_] [(ii 1), (.int f_)] t
    refine XS.iand X2.here hx rfl (hb hby at_19) rfl ?_
    exact k
   by_cases hc153 : (f_ &&& (1 : Int32)) = (0 : Int32)
   ·have c154 : Kt p e below T2 st0 (mkF m 30 #[vi k_, vi i_, vi a_, vi b_, vi f_, .val (.int ((k_ &&& (2147483647 : Int32)) % (24 : Int32))), vr b146, vi 0, u_, u_, u_, u_, u_, u_, u_, u_, u_] []) := fun t k => by
     refine c152 t ?_
     show S_ p e below T2 m 20 #[vi k_, vi i_, vi a_, vi b_, vi f_, .val (.int ((k_ &&& (2147483647 : Int32)) % (24 : Int32))), vr b146, u_, u_, u_, u_, u_, u_, u_, u_, u_, u_] [(.int (f_ &&& (1 : Int32)))] t
     refine yI X2.here hx rfl 20 27 rfl (hb hby at_20) rfl ((if0 _ _).trans (teq hc153).1) ?_
     show S_ p e below T2 m 27 #[vi k_, vi i_, vi a_, vi b_, vi f_, .val (.int ((k_ &&& (2147483647 : Int32)) % (24 : Int32))), vr b146, u_, u_, u_, u_, u_, u_, u_, u_, u_, u_] [] t
     refine XS.iconst X2.here hx rfl (hb hby at_27) ?_
     show S_ p e below T2 m 28 #[vi k_, vi i_, vi a_, vi b_, vi f_, .val (.int ((k_ &&& (2147483647 : Int32)) % (24 : Int32))), vr b146, u_, u_, u_, u_, u_, u_, u_, u_, u_, u_] [(ii 0)] t
     refine XS.istore X2.here hx rfl (hb hby at_28) rfl (l' := #[vi k_, vi i_, vi a_, vi b_, vi f_, .val (.int ((k_ &&& (2147483647 : Int32)) % (24 : Int32))), vr b146, vi 0, u_, u_, u_, u_, u_, u_, u_, u_, u_]) rfl ?_
     exact k
    have K159 : Keep h0 h0 [] := (Keep.refl _ _)
    exact ⟨(0 : Int32), T2, _, _, X2.mono (by decide) (by decide), K148, O0, K159, kp0, N147, c154⟩
   ·have c155 : Kt p e below T2 st0 (mkF m 30 #[vi k_, vi i_, vi a_, vi b_, vi f_, .val (.int ((k_ &&& (2147483647 : Int32)) % (24 : Int32))), vr b146, vi 1, u_, u_, u_, u_, u_, u_, u_, u_, u_] []) := fun t k => by
     refine c152 t ?_
     show S_ p e below T2 m 20 #[vi k_, vi i_, vi a_, vi b_, vi f_, .val (.int ((k_ &&& (2147483647 : Int32)) % (24 : Int32))), vr b146, u_, u_, u_, u_, u_, u_, u_, u_, u_, u_] [(.int (f_ &&& (1 : Int32)))] t
     refine XS.ifNo X2.here hx rfl (hb hby at_20) rfl ((if0 _ _).trans (feq hc153).1) ?_
     show S_ p e below T2 m 23 #[vi k_, vi i_, vi a_, vi b_, vi f_, .val (.int ((k_ &&& (2147483647 : Int32)) % (24 : Int32))), vr b146, u_, u_, u_, u_, u_, u_, u_, u_, u_, u_] [] t
     refine XS.iconst X2.here hx rfl (hb hby at_23) ?_
     show S_ p e below T2 m 24 #[vi k_, vi i_, vi a_, vi b_, vi f_, .val (.int ((k_ &&& (2147483647 : Int32)) % (24 : Int32))), vr b146, u_, u_, u_, u_, u_, u_, u_, u_, u_, u_] [(ii 1)] t
     refine yG X2.here hx rfl 24 28 rfl (hb hby at_24) ?_
     show S_ p e below T2 m 28 #[vi k_, vi i_, vi a_, vi b_, vi f_, .val (.int ((k_ &&& (2147483647 : Int32)) % (24 : Int32))), vr b146, u_, u_, u_, u_, u_, u_, u_, u_, u_, u_] [(ii 1)] t
     refine XS.istore X2.here hx rfl (hb hby at_28) rfl (l' := #[vi k_, vi i_, vi a_, vi b_, vi f_, .val (.int ((k_ &&& (2147483647 : Int32)) % (24 : Int32))), vr b146, vi 1, u_, u_, u_, u_, u_, u_, u_, u_, u_]) rfl ?_
     exact k
    have K158 : Keep h0 h0 [] := (Keep.refl _ _)
    exact ⟨(1 : Int32), T2, _, _, X2.mono (by decide) (by decide), K148, O0, K158, kp0, N147, c155⟩
  obtain ⟨mv164, T165, h165, L165, X165, e165, o165, K165, kp165, N165, c165⟩ : ∃ (mv164 : Int32), ∃ (T165 : State) (h165 : Heap) (L165 : List Loc), Stand p l e room_1 (s.setVm s.vm) m #[(.int k_), (.int i_), (.int a_), (.int b_), (.int f_)] below meth c T165 L165 0 0 ∧ T165.heap = h165 ∧ Old Z n0 h165 ∧ Keep h157 h165 [] ∧ Keep h0 h165 [] ∧ Fr n0 L165 ∧ Kt p e below T165 st0 (mkF m 44 #[vi k_, vi i_, vi a_, vi b_, vi f_, .val (.int ((k_ &&& (2147483647 : Int32)) % (24 : Int32))), vr b146, vi mv156, vi mv164, u_, u_, u_, u_, u_, u_, u_, u_] []) := by
   have c160 : Kt p e below T157 st0 (mkF m 34 #[vi k_, vi i_, vi a_, vi b_, vi f_, .val (.int ((k_ &&& (2147483647 : Int32)) % (24 : Int32))), vr b146, vi mv156, u_, u_, u_, u_, u_, u_, u_, u_, u_] [(.int (f_ &&& (2 : Int32)))]) := fun t k => by
    refine c157 t ?_
    show S_ p e below T157 m 30 #[vi k_, vi i_, vi a_, vi b_, vi f_, .val (.int ((k_ &&& (2147483647 : Int32)) % (24 : Int32))), vr b146, vi mv156, u_, u_, u_, u_, u_, u_, u_, u_, u_] [] t
    refine XS.iload X157.here hx rfl (hb hby at_30) rfl ?_
    show S_ p e below T157 m 32 #[vi k_, vi i_, vi a_, vi b_, vi f_, .val (.int ((k_ &&& (2147483647 : Int32)) % (24 : Int32))), vr b146, vi mv156, u_, u_, u_, u_, u_, u_, u_, u_, u_] [(.int f_)] t
    refine XS.iconst X157.here hx rfl (hb hby at_32) ?_
    show S_ p e below T157 m 33 #[vi k_, vi i_, vi a_, vi b_, vi f_, .val (.int ((k_ &&& (2147483647 : Int32)) % (24 : Int32))), vr b146, vi mv156, u_, u_, u_, u_, u_, u_, u_, u_, u_] [(ii 2), (.int f_)] t
    refine XS.iand X157.here hx rfl (hb hby at_33) rfl ?_
    exact k
   by_cases hc161 : (f_ &&& (2 : Int32)) = (0 : Int32)
   ·have c162 : Kt p e below T157 st0 (mkF m 44 #[vi k_, vi i_, vi a_, vi b_, vi f_, .val (.int ((k_ &&& (2147483647 : Int32)) % (24 : Int32))), vr b146, vi mv156, vi 0, u_, u_, u_, u_, u_, u_, u_, u_] []) := fun t k => by
     refine c160 t ?_
     show S_ p e below T157 m 34 #[vi k_, vi i_, vi a_, vi b_, vi f_, .val (.int ((k_ &&& (2147483647 : Int32)) % (24 : Int32))), vr b146, vi mv156, u_, u_, u_, u_, u_, u_, u_, u_, u_] [(.int (f_ &&& (2 : Int32)))] t
     refine yI X157.here hx rfl 34 41 rfl (hb hby at_34) rfl ((if0 _ _).trans (teq hc161).1) ?_
     show S_ p e below T157 m 41 #[vi k_, vi i_, vi a_, vi b_, vi f_, .val (.int ((k_ &&& (2147483647 : Int32)) % (24 : Int32))), vr b146, vi mv156, u_, u_, u_, u_, u_, u_, u_, u_, u_] [] t
     refine XS.iconst X157.here hx rfl (hb hby at_41) ?_
     show S_ p e below T157 m 42 #[vi k_, vi i_, vi a_, vi b_, vi f_, .val (.int ((k_ &&& (2147483647 : Int32)) % (24 : Int32))), vr b146, vi mv156, u_, u_, u_, u_, u_, u_, u_, u_, u_] [(ii 0)] t
     refine XS.istore X157.here hx rfl (hb hby at_42) rfl (l' := #[vi k_, vi i_, vi a_, vi b_, vi f_, .val (.int ((k_ &&& (2147483647 : Int32)) % (24 : Int32))), vr b146, vi mv156, vi 0, u_, u_, u_, u_, u_, u_, u_, u_]) rfl ?_
     exact k
    have K167 : Keep h157 h157 [] := (Keep.refl _ _)
    exact ⟨(0 : Int32), T157, _, _, X157.mono (by decide) (by decide), e157, o157, K167, kp157, N157, c162⟩
   ·have c163 : Kt p e below T157 st0 (mkF m 44 #[vi k_, vi i_, vi a_, vi b_, vi f_, .val (.int ((k_ &&& (2147483647 : Int32)) % (24 : Int32))), vr b146, vi mv156, vi 1, u_, u_, u_, u_, u_, u_, u_, u_] []) := fun t k => by
     refine c160 t ?_
     show S_ p e below T157 m 34 #[vi k_, vi i_, vi a_, vi b_, vi f_, .val (.int ((k_ &&& (2147483647 : Int32)) % (24 : Int32))), vr b146, vi mv156, u_, u_, u_, u_, u_, u_, u_, u_, u_] [(.int (f_ &&& (2 : Int32)))] t
     refine XS.ifNo X157.here hx rfl (hb hby at_34) rfl ((if0 _ _).trans (feq hc161).1) ?_
     show S_ p e below T157 m 37 #[vi k_, vi i_, vi a_, vi b_, vi f_, .val (.int ((k_ &&& (2147483647 : Int32)) % (24 : Int32))), vr b146, vi mv156, u_, u_, u_, u_, u_, u_, u_, u_, u_] [] t
     refine XS.iconst X157.here hx rfl (hb hby at_37) ?_
     show S_ p e below T157 m 38 #[vi k_, vi i_, vi a_, vi b_, vi f_, .val (.int ((k_ &&& (2147483647 : Int32)) % (24 : Int32))), vr b146, vi mv156, u_, u_, u_, u_, u_, u_, u_, u_, u_] [(ii 1)] t
     refine yG X157.here hx rfl 38 42 rfl (hb hby at_38) ?_
     show S_ p e below T157 m 42 #[vi k_, vi i_, vi a_, vi b_, vi f_, .val (.int ((k_ &&& (2147483647 : Int32)) % (24 : Int32))), vr b146, vi mv156, u_, u_, u_, u_, u_, u_, u_, u_, u_] [(ii 1)] t
     refine XS.istore X157.here hx rfl (hb hby at_42) rfl (l' := #[vi k_, vi i_, vi a_, vi b_, vi f_, .val (.int ((k_ &&& (2147483647 : Int32)) % (24 : Int32))), vr b146, vi mv156, vi 1, u_, u_, u_, u_, u_, u_, u_, u_]) rfl ?_
     exact k
    have K166 : Keep h157 h157 [] := (Keep.refl _ _)
    exact ⟨(1 : Int32), T157, _, _, X157.mono (by decide) (by decide), e157, o157, K166, kp157, N157, c163⟩
  obtain ⟨mv172, T173, h173, L173, X173, e173, o173, K173, kp173, N173, c173⟩ : ∃ (mv172 : Int32), ∃ (T173 : State) (h173 : Heap) (L173 : List Loc), Stand p l e room_1 (s.setVm s.vm) m #[(.int k_), (.int i_), (.int a_), (.int b_), (.int f_)] below meth c T173 L173 0 0 ∧ T173.heap = h173 ∧ Old Z n0 h173 ∧ Keep h165 h173 [] ∧ Keep h0 h173 [] ∧ Fr n0 L173 ∧ Kt p e below T173 st0 (mkF m 58 #[vi k_, vi i_, vi a_, vi b_, vi f_, .val (.int ((k_ &&& (2147483647 : Int32)) % (24 : Int32))), vr b146, vi mv156, vi mv164, vi mv172, u_, u_, u_, u_, u_, u_, u_] []) := by
   have c168 : Kt p e below T165 st0 (mkF m 48 #[vi k_, vi i_, vi a_, vi b_, vi f_, .val (.int ((k_ &&& (2147483647 : Int32)) % (24 : Int32))), vr b146, vi mv156, vi mv164, u_, u_, u_, u_, u_, u_, u_, u_] [(.int (f_ &&& (4 : Int32)))]) := fun t k => by
    refine c165 t ?_
    show S_ p e below T165 m 44 #[vi k_, vi i_, vi a_, vi b_, vi f_, .val (.int ((k_ &&& (2147483647 : Int32)) % (24 : Int32))), vr b146, vi mv156, vi mv164, u_, u_, u_, u_, u_, u_, u_, u_] [] t
    refine XS.iload X165.here hx rfl (hb hby at_44) rfl ?_
    show S_ p e below T165 m 46 #[vi k_, vi i_, vi a_, vi b_, vi f_, .val (.int ((k_ &&& (2147483647 : Int32)) % (24 : Int32))), vr b146, vi mv156, vi mv164, u_, u_, u_, u_, u_, u_, u_, u_] [(.int f_)] t
    refine XS.iconst X165.here hx rfl (hb hby at_46) ?_
    show S_ p e below T165 m 47 #[vi k_, vi i_, vi a_, vi b_, vi f_, .val (.int ((k_ &&& (2147483647 : Int32)) % (24 : Int32))), vr b146, vi mv156, vi mv164, u_, u_, u_, u_, u_, u_, u_, u_] [(ii 4), (.int f_)] t
    refine XS.iand X165.here hx rfl (hb hby at_47) rfl ?_
    exact k
   by_cases hc169 : (f_ &&& (4 : Int32)) = (0 : Int32)
   ·have c170 : Kt p e below T165 st0 (mkF m 58 #[vi k_, vi i_, vi a_, vi b_, vi f_, .val (.int ((k_ &&& (2147483647 : Int32)) % (24 : Int32))), vr b146, vi mv156, vi mv164, vi 0, u_, u_, u_, u_, u_, u_, u_] []) := fun t k => by
     refine c168 t ?_
     show S_ p e below T165 m 48 #[vi k_, vi i_, vi a_, vi b_, vi f_, .val (.int ((k_ &&& (2147483647 : Int32)) % (24 : Int32))), vr b146, vi mv156, vi mv164, u_, u_, u_, u_, u_, u_, u_, u_] [(.int (f_ &&& (4 : Int32)))] t
     refine yI X165.here hx rfl 48 55 rfl (hb hby at_48) rfl ((if0 _ _).trans (teq hc169).1) ?_
     show S_ p e below T165 m 55 #[vi k_, vi i_, vi a_, vi b_, vi f_, .val (.int ((k_ &&& (2147483647 : Int32)) % (24 : Int32))), vr b146, vi mv156, vi mv164, u_, u_, u_, u_, u_, u_, u_, u_] [] t
     refine XS.iconst X165.here hx rfl (hb hby at_55) ?_
     show S_ p e below T165 m 56 #[vi k_, vi i_, vi a_, vi b_, vi f_, .val (.int ((k_ &&& (2147483647 : Int32)) % (24 : Int32))), vr b146, vi mv156, vi mv164, u_, u_, u_, u_, u_, u_, u_, u_] [(ii 0)] t
     refine XS.istore X165.here hx rfl (hb hby at_56) rfl (l' := #[vi k_, vi i_, vi a_, vi b_, vi f_, .val (.int ((k_ &&& (2147483647 : Int32)) % (24 : Int32))), vr b146, vi mv156, vi mv164, vi 0, u_, u_, u_, u_, u_, u_, u_]) rfl ?_
     exact k
    have K175 : Keep h165 h165 [] := (Keep.refl _ _)
    exact ⟨(0 : Int32), T165, _, _, X165.mono (by decide) (by decide), e165, o165, K175, kp165, N165, c170⟩
   ·have c171 : Kt p e below T165 st0 (mkF m 58 #[vi k_, vi i_, vi a_, vi b_, vi f_, .val (.int ((k_ &&& (2147483647 : Int32)) % (24 : Int32))), vr b146, vi mv156, vi mv164, vi 1, u_, u_, u_, u_, u_, u_, u_] []) := fun t k => by
     refine c168 t ?_
     show S_ p e below T165 m 48 #[vi k_, vi i_, vi a_, vi b_, vi f_, .val (.int ((k_ &&& (2147483647 : Int32)) % (24 : Int32))), vr b146, vi mv156, vi mv164, u_, u_, u_, u_, u_, u_, u_, u_] [(.int (f_ &&& (4 : Int32)))] t
     refine XS.ifNo X165.here hx rfl (hb hby at_48) rfl ((if0 _ _).trans (feq hc169).1) ?_
     show S_ p e below T165 m 51 #[vi k_, vi i_, vi a_, vi b_, vi f_, .val (.int ((k_ &&& (2147483647 : Int32)) % (24 : Int32))), vr b146, vi mv156, vi mv164, u_, u_, u_, u_, u_, u_, u_, u_] [] t
     refine XS.iconst X165.here hx rfl (hb hby at_51) ?_
     show S_ p e below T165 m 52 #[vi k_, vi i_, vi a_, vi b_, vi f_, .val (.int ((k_ &&& (2147483647 : Int32)) % (24 : Int32))), vr b146, vi mv156, vi mv164, u_, u_, u_, u_, u_, u_, u_, u_] [(ii 1)] t
     refine yG X165.here hx rfl 52 56 rfl (hb hby at_52) ?_
     show S_ p e below T165 m 56 #[vi k_, vi i_, vi a_, vi b_, vi f_, .val (.int ((k_ &&& (2147483647 : Int32)) % (24 : Int32))), vr b146, vi mv156, vi mv164, u_, u_, u_, u_, u_, u_, u_, u_] [(ii 1)] t
     refine XS.istore X165.here hx rfl (hb hby at_56) rfl (l' := #[vi k_, vi i_, vi a_, vi b_, vi f_, .val (.int ((k_ &&& (2147483647 : Int32)) % (24 : Int32))), vr b146, vi mv156, vi mv164, vi 1, u_, u_, u_, u_, u_, u_, u_]) rfl ?_
     exact k
    have K174 : Keep h165 h165 [] := (Keep.refl _ _)
    exact ⟨(1 : Int32), T165, _, _, X165.mono (by decide) (by decide), e165, o165, K174, kp165, N165, c171⟩
  obtain ⟨mv188, T190, h190, L190, X190, e190, o190, K190, kp190, N190, hr189, c190⟩ : ∃ (mv188 : Value), ∃ (T190 : State) (h190 : Heap) (L190 : List Loc), Stand p l e room_1 (s.setVm s.vm) m #[(.int k_), (.int i_), (.int a_), (.int b_), (.int f_)] below meth c T190 L190 1 1 ∧ T190.heap = h190 ∧ Old Z n0 h190 ∧ Keep h173 h190 [] ∧ Keep h0 h190 [] ∧ Fr n0 L190 ∧ mv188.isRef = true ∧ Kt p e below T190 st0 (mkF m 73 #[vi k_, vi i_, vi a_, vi b_, vi f_, .val (.int ((k_ &&& (2147483647 : Int32)) % (24 : Int32))), vr b146, vi mv156, vi mv164, vi mv172, .val mv188, u_, u_, u_, u_, u_, u_] []) := by
   have c176 : Kt p e below T173 st0 (mkF m 60 #[vi k_, vi i_, vi a_, vi b_, vi f_, .val (.int ((k_ &&& (2147483647 : Int32)) % (24 : Int32))), vr b146, vi mv156, vi mv164, vi mv172, u_, u_, u_, u_, u_, u_, u_] [(.int mv156)]) := fun t k => by
    refine c173 t ?_
    show S_ p e below T173 m 58 #[vi k_, vi i_, vi a_, vi b_, vi f_, .val (.int ((k_ &&& (2147483647 : Int32)) % (24 : Int32))), vr b146, vi mv156, vi mv164, vi mv172, u_, u_, u_, u_, u_, u_, u_] [] t
    refine XS.iload X173.here hx rfl (hb hby at_58) rfl ?_
    exact k
   by_cases hc177 : mv156 = (0 : Int32)
   ·have c178 : Kt p e below T173 st0 (mkF m 68 #[vi k_, vi i_, vi a_, vi b_, vi f_, .val (.int ((k_ &&& (2147483647 : Int32)) % (24 : Int32))), vr b146, vi mv156, vi mv164, vi mv172, u_, u_, u_, u_, u_, u_, u_] [(.int i_)]) := fun t k => by
     refine c176 t ?_
     show S_ p e below T173 m 60 #[vi k_, vi i_, vi a_, vi b_, vi f_, .val (.int ((k_ &&& (2147483647 : Int32)) % (24 : Int32))), vr b146, vi mv156, vi mv164, vi mv172, u_, u_, u_, u_, u_, u_, u_] [(.int mv156)] t
     refine yI X173.here hx rfl 60 67 rfl (hb hby at_60) rfl ((if0 _ _).trans (teq hc177).1) ?_
     show S_ p e below T173 m 67 #[vi k_, vi i_, vi a_, vi b_, vi f_, .val (.int ((k_ &&& (2147483647 : Int32)) % (24 : Int32))), vr b146, vi mv156, vi mv164, vi mv172, u_, u_, u_, u_, u_, u_, u_] [] t
     refine XS.iloadN X173.here hx rfl (hb hby at_67) rfl ?_
     exact k
    obtain ⟨_, T179, L179, X179, hQ179, c179⟩ := kstat X173 hx hZ hown (w8 hw) (w9 hw) (w10 hw) (w11 hw) (rm_voI l Z a0 hw [] i_ sa139_ sc142_ h173 n0 o173 ZS46_ ZS47_ sb203_) e173 c178 hml pd_pIrLjava_lang_Integer_ [(.int i_)] [] 0 (hb hby at_68) rfl rfl rfl rfl rfl rfl
    obtain ⟨b180, rfl, N181q, K182, p183⟩ := hQ179
    have N181 := Fr.app N173 N181q
    have o184 := o173.keep K182 all0
    have kp185 := kp173.trans K182 all0
    have c186 : Kt p e below T179 st0 (mkF m 73 #[vi k_, vi i_, vi a_, vi b_, vi f_, .val (.int ((k_ &&& (2147483647 : Int32)) % (24 : Int32))), vr b146, vi mv156, vi mv164, vi mv172, vr b180, u_, u_, u_, u_, u_, u_] []) := fun t k => by
     refine c179 t ?_
     show S_ p e below T179 m 71 #[vi k_, vi i_, vi a_, vi b_, vi f_, .val (.int ((k_ &&& (2147483647 : Int32)) % (24 : Int32))), vr b146, vi mv156, vi mv164, vi mv172, u_, u_, u_, u_, u_, u_, u_] [(rr b180)] t
     refine XS.astore X179.here hx rfl (hb hby at_71) rfl rfl (l' := #[vi k_, vi i_, vi a_, vi b_, vi f_, .val (.int ((k_ &&& (2147483647 : Int32)) % (24 : Int32))), vr b146, vi mv156, vi mv164, vi mv172, vr b180, u_, u_, u_, u_, u_, u_]) rfl ?_
     exact k
    have K192 : Keep h173 T179.heap [] := ((Keep.refl _ _).trans K182 all0)
    exact ⟨(rr b180), T179, _, _, X179.mono (by decide) (by decide), rfl, o184, K192, kp185, N181, rfl, c186⟩
   ·have c187 : Kt p e below T173 st0 (mkF m 73 #[vi k_, vi i_, vi a_, vi b_, vi f_, .val (.int ((k_ &&& (2147483647 : Int32)) % (24 : Int32))), vr b146, vi mv156, vi mv164, vi mv172, .val .null, u_, u_, u_, u_, u_, u_] []) := fun t k => by
     refine c176 t ?_
     show S_ p e below T173 m 60 #[vi k_, vi i_, vi a_, vi b_, vi f_, .val (.int ((k_ &&& (2147483647 : Int32)) % (24 : Int32))), vr b146, vi mv156, vi mv164, vi mv172, u_, u_, u_, u_, u_, u_, u_] [(.int mv156)] t
     refine XS.ifNo X173.here hx rfl (hb hby at_60) rfl ((if0 _ _).trans (feq hc177).1) ?_
     show S_ p e below T173 m 63 #[vi k_, vi i_, vi a_, vi b_, vi f_, .val (.int ((k_ &&& (2147483647 : Int32)) % (24 : Int32))), vr b146, vi mv156, vi mv164, vi mv172, u_, u_, u_, u_, u_, u_, u_] [] t
     refine XS.aconstNull X173.here hx rfl (hb hby at_63) ?_
     show S_ p e below T173 m 64 #[vi k_, vi i_, vi a_, vi b_, vi f_, .val (.int ((k_ &&& (2147483647 : Int32)) % (24 : Int32))), vr b146, vi mv156, vi mv164, vi mv172, u_, u_, u_, u_, u_, u_, u_] [.null] t
     refine yG X173.here hx rfl 64 71 rfl (hb hby at_64) ?_
     show S_ p e below T173 m 71 #[vi k_, vi i_, vi a_, vi b_, vi f_, .val (.int ((k_ &&& (2147483647 : Int32)) % (24 : Int32))), vr b146, vi mv156, vi mv164, vi mv172, u_, u_, u_, u_, u_, u_, u_] [.null] t
     refine XS.astore X173.here hx rfl (hb hby at_71) rfl rfl (l' := #[vi k_, vi i_, vi a_, vi b_, vi f_, .val (.int ((k_ &&& (2147483647 : Int32)) % (24 : Int32))), vr b146, vi mv156, vi mv164, vi mv172, .val .null, u_, u_, u_, u_, u_, u_]) rfl ?_
     exact k
    have K191 : Keep h173 h173 [] := (Keep.refl _ _)
    exact ⟨.null, T173, _, _, X173.mono (by decide) (by decide), e173, o173, K191, kp173, N173, rfl, c187⟩
  have c193 : Kt p e below T190 st0 (mkF m 74 #[vi k_, vi i_, vi a_, vi b_, vi f_, .val (.int ((k_ &&& (2147483647 : Int32)) % (24 : Int32))), vr b146, vi mv156, vi mv164, vi mv172, .val mv188, u_, u_, u_, u_, u_, u_] [(ii 2)]) := fun t k => by
   refine c190 t ?_
   show S_ p e below T190 m 73 #[vi k_, vi i_, vi a_, vi b_, vi f_, .val (.int ((k_ &&& (2147483647 : Int32)) % (24 : Int32))), vr b146, vi mv156, vi mv164, vi mv172, .val mv188, u_, u_, u_, u_, u_, u_] [] t
   refine XS.iconst X190.here hx rfl (hb hby at_73) ?_
   exact k
  obtain ⟨b194, T194, h194, k194, z194, g194, X194, e194, E194, o195, A194, c194⟩ := knewP (aty := .char) X190 hx hZ (w15 hw) e190 c193 rfl (hb hby at_74) rfl (by decide) 2 (by decide) (by decide) (by decide) (by decide) o190
  have kp197 := kp190.ext E194
  have z198 := Nat.le_trans kp190.1 z194
  have f196 : Arv Z h194 b194 k194 .char (2 : Int32) [(ii 0), (ii 0)] (ii 0) := A194.pad (pad_rep [] (ii 0) 2)
  have c199 : Kt p e below T194 st0 (mkF m 87 #[vi k_, vi i_, vi a_, vi b_, vi f_, .val (.int ((k_ &&& (2147483647 : Int32)) % (24 : Int32))), vr b146, vi mv156, vi mv164, vi mv172, .val mv188, vr b194, u_, u_, u_, u_, u_] [(.int ((a_ &&& (255 : Int32)).toUInt32.toUInt16.toUInt32.toInt32)), (ii 0), (rr b194)]) := fun t k => by
   refine c194 t ?_
   show S_ p e below T194 m 76 #[vi k_, vi i_, vi a_, vi b_, vi f_, .val (.int ((k_ &&& (2147483647 : Int32)) % (24 : Int32))), vr b146, vi mv156, vi mv164, vi mv172, .val mv188, u_, u_, u_, u_, u_, u_] [(rr b194)] t
   refine XS.astore X194.here hx rfl (hb hby at_76) rfl rfl (l' := #[vi k_, vi i_, vi a_, vi b_, vi f_, .val (.int ((k_ &&& (2147483647 : Int32)) % (24 : Int32))), vr b146, vi mv156, vi mv164, vi mv172, .val mv188, vr b194, u_, u_, u_, u_, u_]) rfl ?_
   show S_ p e below T194 m 78 #[vi k_, vi i_, vi a_, vi b_, vi f_, .val (.int ((k_ &&& (2147483647 : Int32)) % (24 : Int32))), vr b146, vi mv156, vi mv164, vi mv172, .val mv188, vr b194, u_, u_, u_, u_, u_] [] t
   refine XS.aload X194.here hx rfl (hb hby at_78) rfl rfl ?_
   show S_ p e below T194 m 80 #[vi k_, vi i_, vi a_, vi b_, vi f_, .val (.int ((k_ &&& (2147483647 : Int32)) % (24 : Int32))), vr b146, vi mv156, vi mv164, vi mv172, .val mv188, vr b194, u_, u_, u_, u_, u_] [(rr b194)] t
   refine XS.iconst X194.here hx rfl (hb hby at_80) ?_
   show S_ p e below T194 m 81 #[vi k_, vi i_, vi a_, vi b_, vi f_, .val (.int ((k_ &&& (2147483647 : Int32)) % (24 : Int32))), vr b146, vi mv156, vi mv164, vi mv172, .val mv188, vr b194, u_, u_, u_, u_, u_] [(ii 0), (rr b194)] t
   refine XS.iloadN X194.here hx rfl (hb hby at_81) rfl ?_
   show S_ p e below T194 m 82 #[vi k_, vi i_, vi a_, vi b_, vi f_, .val (.int ((k_ &&& (2147483647 : Int32)) % (24 : Int32))), vr b146, vi mv156, vi mv164, vi mv172, .val mv188, vr b194, u_, u_, u_, u_, u_] [(.int a_), (ii 0), (rr b194)] t
   refine XS.sipush X194.here hx rfl (hb hby at_82) ?_
   show S_ p e below T194 m 85 #[vi k_, vi i_, vi a_, vi b_, vi f_, .val (.int ((k_ &&& (2147483647 : Int32)) % (24 : Int32))), vr b146, vi mv156, vi mv164, vi mv172, .val mv188, vr b194, u_, u_, u_, u_, u_] [(ii 255), (.int a_), (ii 0), (rr b194)] t
   refine XS.iand X194.here hx rfl (hb hby at_85) rfl ?_
   show S_ p e below T194 m 86 #[vi k_, vi i_, vi a_, vi b_, vi f_, .val (.int ((k_ &&& (2147483647 : Int32)) % (24 : Int32))), vr b146, vi mv156, vi mv164, vi mv172, .val mv188, vr b194, u_, u_, u_, u_, u_] [(.int (a_ &&& (255 : Int32))), (ii 0), (rr b194)] t
   refine XS.i2c X194.here hx rfl (hb hby at_86) rfl ?_
   exact k
  obtain ⟨T200, h200, X200, e200, W200, f203, o201, N202, c200⟩ := kstC X194 hx hZ e194 f196 (j := (0 : Int32)) (by decide) (by decide) 0 rfl (Nat.le_of_ble_eq_true rfl) c199 rfl rfl (hb hby at_87) o195 N190 g194
  have f204 : Arv Z h200 b194 k194 .char (2 : Int32) [(.int (nar .char ((a_ &&& (255 : Int32)).toUInt32.toUInt16.toUInt32.toInt32))), (ii 0)] (ii 0) := f203
  have kp205 := kp197.wr W200 (Or.inr z198)
  have c206 : Kt p e below T200 st0 (mkF m 97 #[vi k_, vi i_, vi a_, vi b_, vi f_, .val (.int ((k_ &&& (2147483647 : Int32)) % (24 : Int32))), vr b146, vi mv156, vi mv164, vi mv172, .val mv188, vr b194, u_, u_, u_, u_, u_] [(.int ((b_ &&& (255 : Int32)).toUInt32.toUInt16.toUInt32.toInt32)), (ii 1), (rr b194)]) := fun t k => by
   refine c200 t ?_
   show S_ p e below T200 m 88 #[vi k_, vi i_, vi a_, vi b_, vi f_, .val (.int ((k_ &&& (2147483647 : Int32)) % (24 : Int32))), vr b146, vi mv156, vi mv164, vi mv172, .val mv188, vr b194, u_, u_, u_, u_, u_] [] t
   refine XS.aload X200.here hx rfl (hb hby at_88) rfl rfl ?_
   show S_ p e below T200 m 90 #[vi k_, vi i_, vi a_, vi b_, vi f_, .val (.int ((k_ &&& (2147483647 : Int32)) % (24 : Int32))), vr b146, vi mv156, vi mv164, vi mv172, .val mv188, vr b194, u_, u_, u_, u_, u_] [(rr b194)] t
   refine XS.iconst X200.here hx rfl (hb hby at_90) ?_
   show S_ p e below T200 m 91 #[vi k_, vi i_, vi a_, vi b_, vi f_, .val (.int ((k_ &&& (2147483647 : Int32)) % (24 : Int32))), vr b146, vi mv156, vi mv164, vi mv172, .val mv188, vr b194, u_, u_, u_, u_, u_] [(ii 1), (rr b194)] t
   refine XS.iloadN X200.here hx rfl (hb hby at_91) rfl ?_
   show S_ p e below T200 m 92 #[vi k_, vi i_, vi a_, vi b_, vi f_, .val (.int ((k_ &&& (2147483647 : Int32)) % (24 : Int32))), vr b146, vi mv156, vi mv164, vi mv172, .val mv188, vr b194, u_, u_, u_, u_, u_] [(.int b_), (ii 1), (rr b194)] t
   refine XS.sipush X200.here hx rfl (hb hby at_92) ?_
   show S_ p e below T200 m 95 #[vi k_, vi i_, vi a_, vi b_, vi f_, .val (.int ((k_ &&& (2147483647 : Int32)) % (24 : Int32))), vr b146, vi mv156, vi mv164, vi mv172, .val mv188, vr b194, u_, u_, u_, u_, u_] [(ii 255), (.int b_), (ii 1), (rr b194)] t
   refine XS.iand X200.here hx rfl (hb hby at_95) rfl ?_
   show S_ p e below T200 m 96 #[vi k_, vi i_, vi a_, vi b_, vi f_, .val (.int ((k_ &&& (2147483647 : Int32)) % (24 : Int32))), vr b146, vi mv156, vi mv164, vi mv172, .val mv188, vr b194, u_, u_, u_, u_, u_] [(.int (b_ &&& (255 : Int32))), (ii 1), (rr b194)] t
   refine XS.i2c X200.here hx rfl (hb hby at_96) rfl ?_
   exact k
  obtain ⟨T207, h207, X207, e207, W207, f210, o208, N209, c207⟩ := kstC X200 hx hZ e200 f204 (j := (1 : Int32)) (by decide) (by decide) 1 rfl (Nat.le_of_ble_eq_true rfl) c206 rfl rfl (hb hby at_97) o201 N202 g194
  have f211 : Arv Z h207 b194 k194 .char (2 : Int32) [(.int (nar .char ((a_ &&& (255 : Int32)).toUInt32.toUInt16.toUInt32.toInt32))), (.int (nar .char ((b_ &&& (255 : Int32)).toUInt32.toUInt16.toUInt32.toInt32)))] (ii 0) := f210
  have kp212 := kp205.wr W207 (Or.inr z198)
  obtain ⟨mv238, T240, h240, L240, X240, e240, o240, K240, kp240, N240, hr239, c240⟩ : ∃ (mv238 : Value), ∃ (T240 : State) (h240 : Heap) (L240 : List Loc), Stand p l e room_1 (s.setVm s.vm) m #[(.int k_), (.int i_), (.int a_), (.int b_), (.int f_)] below meth c T240 L240 4 9 ∧ T240.heap = h240 ∧ Old Z n0 h240 ∧ Keep h207 h240 [] ∧ Keep h0 h240 [] ∧ Fr n0 L240 ∧ mv238.isRef = true ∧ Kt p e below T240 st0 (mkF m 118 #[vi k_, vi i_, vi a_, vi b_, vi f_, .val (.int ((k_ &&& (2147483647 : Int32)) % (24 : Int32))), vr b146, vi mv156, vi mv164, vi mv172, .val mv188, vr b194, .val mv238, u_, u_, u_, u_] []) := by
   have c213 : Kt p e below T207 st0 (mkF m 100 #[vi k_, vi i_, vi a_, vi b_, vi f_, .val (.int ((k_ &&& (2147483647 : Int32)) % (24 : Int32))), vr b146, vi mv156, vi mv164, vi mv172, .val mv188, vr b194, u_, u_, u_, u_, u_] [(.int mv164)]) := fun t k => by
    refine c207 t ?_
    show S_ p e below T207 m 98 #[vi k_, vi i_, vi a_, vi b_, vi f_, .val (.int ((k_ &&& (2147483647 : Int32)) % (24 : Int32))), vr b146, vi mv156, vi mv164, vi mv172, .val mv188, vr b194, u_, u_, u_, u_, u_] [] t
    refine XS.iload X207.here hx rfl (hb hby at_98) rfl ?_
    exact k
   by_cases hc214 : mv164 = (0 : Int32)
   ·have c215 : Kt p e below T207 st0 (mkF m 107 #[vi k_, vi i_, vi a_, vi b_, vi f_, .val (.int ((k_ &&& (2147483647 : Int32)) % (24 : Int32))), vr b146, vi mv156, vi mv164, vi mv172, .val mv188, vr b194, u_, u_, u_, u_, u_] []) := fun t k => by
     refine c213 t ?_
     show S_ p e below T207 m 100 #[vi k_, vi i_, vi a_, vi b_, vi f_, .val (.int ((k_ &&& (2147483647 : Int32)) % (24 : Int32))), vr b146, vi mv156, vi mv164, vi mv172, .val mv188, vr b194, u_, u_, u_, u_, u_] [(.int mv164)] t
     refine yI X207.here hx rfl 100 107 rfl (hb hby at_100) rfl ((if0 _ _).trans (teq hc214).1) ?_
     exact k
    obtain ⟨b216, T216, h216, z216, g216, X216, e216, E216, o217, A216, D216, U216, c216⟩ := knew X207 hx hZ hown (w16 hw) (w17 hw) (w18 hw) e207 c215 rfl (hb hby at_107) (by decide) (by decide) o208
    have kp218 := kp212.ext E216
    have z219 := Nat.le_trans kp212.1 z216
    have c220 : Kt p e below T216 st0 (mkF m 113 #[vi k_, vi i_, vi a_, vi b_, vi f_, .val (.int ((k_ &&& (2147483647 : Int32)) % (24 : Int32))), vr b146, vi mv156, vi mv164, vi mv172, .val mv188, vr b194, u_, u_, u_, u_, u_] [(rr b194), (rr b216), (rr b216)]) := fun t k => by
     refine c216 t ?_
     show S_ p e below T216 m 110 #[vi k_, vi i_, vi a_, vi b_, vi f_, .val (.int ((k_ &&& (2147483647 : Int32)) % (24 : Int32))), vr b146, vi mv156, vi mv164, vi mv172, .val mv188, vr b194, u_, u_, u_, u_, u_] [(rr b216)] t
     refine XS.dup X216.here hx rfl (hb hby at_110) rfl rfl ?_
     show S_ p e below T216 m 111 #[vi k_, vi i_, vi a_, vi b_, vi f_, .val (.int ((k_ &&& (2147483647 : Int32)) % (24 : Int32))), vr b146, vi mv156, vi mv164, vi mv172, .val mv188, vr b194, u_, u_, u_, u_, u_] [(rr b216), (rr b216)] t
     refine XS.aload X216.here hx rfl (hb hby at_111) rfl rfl ?_
     exact k
    obtain ⟨_, T221, L221, X221, hQ221, c221⟩ := kspec X216 hx hZ hown (w19 hw) (w20 hw) (w18 hw) (w21 hw) (rm_str1_2 l Z a0 hw [] b216 b194 k194 si144_ ((nar .char ((a_ &&& (255 : Int32)).toUInt32.toUInt16.toUInt32.toInt32))) ((nar .char ((b_ &&& (255 : Int32)).toUInt32.toUInt16.toUInt32.toInt32))) h216 n0 o217 A216 (show Fld Z h216 b216 nm6 "value" "[B" .null from D216 (Or.inr (w44 hw)) (ty := (.array .byte)) (by decide)) (show Fld Z h216 b216 nm6 "coder" "B" (ii 0) from D216 (Or.inr (w42 hw)) (ty := .byte) (by decide)) g216 (f211.ext E216) ZS49_ sn147_ (own_small _) (own_small _)) e216 c220 hml pd_pACrV b216 [(rr b194)] [(rr b216)] 1 (hb hby at_113) rfl rfl rfl rfl rfl rfl
    obtain ⟨rfl, N222q, K223, p224, p225, b226, k227, p228, p229, p230, p231⟩ := hQ221
    have N222 := Fr.app N209 N222q
    have o232 := o217.keep K223 (allS g216 all0)
    have kp233 := kp218.trans K223 (allS (Or.inr z219) all0)
    have z234 := Nat.le_trans kp218.1 p231
    have g235 := Nat.le_trans (Nat.le_trans (Nat.le_of_eq o217.1.symm) o217.2.1) p231
    have c236 : Kt p e below T221 st0 (mkF m 118 #[vi k_, vi i_, vi a_, vi b_, vi f_, .val (.int ((k_ &&& (2147483647 : Int32)) % (24 : Int32))), vr b146, vi mv156, vi mv164, vi mv172, .val mv188, vr b194, vr b216, u_, u_, u_, u_] []) := fun t k => by
     refine c221 t ?_
     show S_ p e below T221 m 116 #[vi k_, vi i_, vi a_, vi b_, vi f_, .val (.int ((k_ &&& (2147483647 : Int32)) % (24 : Int32))), vr b146, vi mv156, vi mv164, vi mv172, .val mv188, vr b194, u_, u_, u_, u_, u_] [(rr b216)] t
     refine XS.astore X221.here hx rfl (hb hby at_116) rfl rfl (l' := #[vi k_, vi i_, vi a_, vi b_, vi f_, .val (.int ((k_ &&& (2147483647 : Int32)) % (24 : Int32))), vr b146, vi mv156, vi mv164, vi mv172, .val mv188, vr b194, vr b216, u_, u_, u_, u_]) rfl ?_
     exact k
    have K242 : Keep h207 T221.heap [] := (((Keep.refl _ _).ext E216).trans K223 (allS (Or.inr (Nat.le_trans (Nat.le_refl _) z216)) all0))
    exact ⟨(rr b216), T221, _, _, X221.mono (by decide) (by decide), rfl, o232, K242, kp233, N222, rfl, c236⟩
   ·have c237 : Kt p e below T207 st0 (mkF m 118 #[vi k_, vi i_, vi a_, vi b_, vi f_, .val (.int ((k_ &&& (2147483647 : Int32)) % (24 : Int32))), vr b146, vi mv156, vi mv164, vi mv172, .val mv188, vr b194, .val .null, u_, u_, u_, u_] []) := fun t k => by
     refine c213 t ?_
     show S_ p e below T207 m 100 #[vi k_, vi i_, vi a_, vi b_, vi f_, .val (.int ((k_ &&& (2147483647 : Int32)) % (24 : Int32))), vr b146, vi mv156, vi mv164, vi mv172, .val mv188, vr b194, u_, u_, u_, u_, u_] [(.int mv164)] t
     refine XS.ifNo X207.here hx rfl (hb hby at_100) rfl ((if0 _ _).trans (feq hc214).1) ?_
     show S_ p e below T207 m 103 #[vi k_, vi i_, vi a_, vi b_, vi f_, .val (.int ((k_ &&& (2147483647 : Int32)) % (24 : Int32))), vr b146, vi mv156, vi mv164, vi mv172, .val mv188, vr b194, u_, u_, u_, u_, u_] [] t
     refine XS.aconstNull X207.here hx rfl (hb hby at_103) ?_
     show S_ p e below T207 m 104 #[vi k_, vi i_, vi a_, vi b_, vi f_, .val (.int ((k_ &&& (2147483647 : Int32)) % (24 : Int32))), vr b146, vi mv156, vi mv164, vi mv172, .val mv188, vr b194, u_, u_, u_, u_, u_] [.null] t
     refine yG X207.here hx rfl 104 116 rfl (hb hby at_104) ?_
     show S_ p e below T207 m 116 #[vi k_, vi i_, vi a_, vi b_, vi f_, .val (.int ((k_ &&& (2147483647 : Int32)) % (24 : Int32))), vr b146, vi mv156, vi mv164, vi mv172, .val mv188, vr b194, u_, u_, u_, u_, u_] [.null] t
     refine XS.astore X207.here hx rfl (hb hby at_116) rfl rfl (l' := #[vi k_, vi i_, vi a_, vi b_, vi f_, .val (.int ((k_ &&& (2147483647 : Int32)) % (24 : Int32))), vr b146, vi mv156, vi mv164, vi mv172, .val mv188, vr b194, .val .null, u_, u_, u_, u_]) rfl ?_
     exact k
    have K241 : Keep h207 h207 [] := (Keep.refl _ _)
    exact ⟨.null, T207, _, _, X207.mono (by decide) (by decide), e207, o208, K241, kp212, N209, rfl, c237⟩
  obtain ⟨mv259, T261, h261, L261, X261, e261, o261, K261, kp261, N261, hr260, c261⟩ : ∃ (mv259 : Value), ∃ (T261 : State) (h261 : Heap) (L261 : List Loc), Stand p l e room_1 (s.setVm s.vm) m #[(.int k_), (.int i_), (.int a_), (.int b_), (.int f_)] below meth c T261 L261 5 12 ∧ T261.heap = h261 ∧ Old Z n0 h261 ∧ Keep h240 h261 [] ∧ Keep h0 h261 [] ∧ Fr n0 L261 ∧ mv259.isRef = true ∧ Kt p e below T261 st0 (mkF m 136 #[vi k_, vi i_, vi a_, vi b_, vi f_, .val (.int ((k_ &&& (2147483647 : Int32)) % (24 : Int32))), vr b146, vi mv156, vi mv164, vi mv172, .val mv188, vr b194, .val mv238, .val mv259, u_, u_, u_] []) := by
   have c243 : Kt p e below T240 st0 (mkF m 120 #[vi k_, vi i_, vi a_, vi b_, vi f_, .val (.int ((k_ &&& (2147483647 : Int32)) % (24 : Int32))), vr b146, vi mv156, vi mv164, vi mv172, .val mv188, vr b194, .val mv238, u_, u_, u_, u_] [(.int mv172)]) := fun t k => by
    refine c240 t ?_
    show S_ p e below T240 m 118 #[vi k_, vi i_, vi a_, vi b_, vi f_, .val (.int ((k_ &&& (2147483647 : Int32)) % (24 : Int32))), vr b146, vi mv156, vi mv164, vi mv172, .val mv188, vr b194, .val mv238, u_, u_, u_, u_] [] t
    refine XS.iload X240.here hx rfl (hb hby at_118) rfl ?_
    exact k
   by_cases hc244 : mv172 = (0 : Int32)
   ·have c245 : Kt p e below T240 st0 (mkF m 127 #[vi k_, vi i_, vi a_, vi b_, vi f_, .val (.int ((k_ &&& (2147483647 : Int32)) % (24 : Int32))), vr b146, vi mv156, vi mv164, vi mv172, .val mv188, vr b194, .val mv238, u_, u_, u_, u_] []) := fun t k => by
     refine c243 t ?_
     show S_ p e below T240 m 120 #[vi k_, vi i_, vi a_, vi b_, vi f_, .val (.int ((k_ &&& (2147483647 : Int32)) % (24 : Int32))), vr b146, vi mv156, vi mv164, vi mv172, .val mv188, vr b194, .val mv238, u_, u_, u_, u_] [(.int mv172)] t
     refine yI X240.here hx rfl 120 127 rfl (hb hby at_120) rfl ((if0 _ _).trans (teq hc244).1) ?_
     exact k
    obtain ⟨b246, T246, h246, z246, g246, X246, e246, E246, o247, A246, D246, U246, c246⟩ := knew X240 hx hZ hown (w45 hw) (w46 hw) (w47 hw) e240 c245 rfl (hb hby at_127) (by decide) (by decide) o240
    have kp248 := kp240.ext E246
    have z249 := Nat.le_trans kp240.1 z246
    have c250 : Kt p e below T246 st0 (mkF m 131 #[vi k_, vi i_, vi a_, vi b_, vi f_, .val (.int ((k_ &&& (2147483647 : Int32)) % (24 : Int32))), vr b146, vi mv156, vi mv164, vi mv172, .val mv188, vr b194, .val mv238, u_, u_, u_, u_] [(rr b246), (rr b246)]) := fun t k => by
     refine c246 t ?_
     show S_ p e below T246 m 130 #[vi k_, vi i_, vi a_, vi b_, vi f_, .val (.int ((k_ &&& (2147483647 : Int32)) % (24 : Int32))), vr b146, vi mv156, vi mv164, vi mv172, .val mv188, vr b194, .val mv238, u_, u_, u_, u_] [(rr b246)] t
     refine XS.dup X246.here hx rfl (hb hby at_130) rfl rfl ?_
     exact k
    obtain ⟨_, T251, L251, X251, hQ251, c251⟩ := kspec X246 hx hZ hown (w48 hw) (w49 hw) (w47 hw) (w50 hw) (rm_al l Z a0 hw [] b246 sa154_ h246 n0 o247 A246 (show Fld Z h246 b246 nm26 "modCount" "I" (ii 0) from D246 (Or.inl (w65 hw)) (ty := .int) (by decide)) (show Fld Z h246 b246 nm12 "elementData" nm19 .null from D246 (Or.inl (w68 hw)) (ty := (.array (.object nm8))) (by decide)) g246 ZS53_) e246 c250 hml pd_prV b246 [] [(rr b246)] 1 (hb hby at_131) rfl rfl rfl rfl rfl rfl
    obtain ⟨rfl, N252q, K253, p254⟩ := hQ251
    have N252 := Fr.app N240 N252q
    have o255 := o247.keep K253 (allS g246 all0)
    have kp256 := kp248.trans K253 (allS (Or.inr z249) all0)
    have c257 : Kt p e below T251 st0 (mkF m 136 #[vi k_, vi i_, vi a_, vi b_, vi f_, .val (.int ((k_ &&& (2147483647 : Int32)) % (24 : Int32))), vr b146, vi mv156, vi mv164, vi mv172, .val mv188, vr b194, .val mv238, vr b246, u_, u_, u_] []) := fun t k => by
     refine c251 t ?_
     show S_ p e below T251 m 134 #[vi k_, vi i_, vi a_, vi b_, vi f_, .val (.int ((k_ &&& (2147483647 : Int32)) % (24 : Int32))), vr b146, vi mv156, vi mv164, vi mv172, .val mv188, vr b194, .val mv238, u_, u_, u_, u_] [(rr b246)] t
     refine XS.astore X251.here hx rfl (hb hby at_134) rfl rfl (l' := #[vi k_, vi i_, vi a_, vi b_, vi f_, .val (.int ((k_ &&& (2147483647 : Int32)) % (24 : Int32))), vr b146, vi mv156, vi mv164, vi mv172, .val mv188, vr b194, .val mv238, vr b246, u_, u_, u_]) rfl ?_
     exact k
    have K263 : Keep h240 T251.heap [] := (((Keep.refl _ _).ext E246).trans K253 (allS (Or.inr (Nat.le_trans (Nat.le_refl _) z246)) all0))
    exact ⟨(rr b246), T251, _, _, X251.mono (by decide) (by decide), rfl, o255, K263, kp256, N252, rfl, c257⟩
   ·have c258 : Kt p e below T240 st0 (mkF m 136 #[vi k_, vi i_, vi a_, vi b_, vi f_, .val (.int ((k_ &&& (2147483647 : Int32)) % (24 : Int32))), vr b146, vi mv156, vi mv164, vi mv172, .val mv188, vr b194, .val mv238, .val .null, u_, u_, u_] []) := fun t k => by
     refine c243 t ?_
     show S_ p e below T240 m 120 #[vi k_, vi i_, vi a_, vi b_, vi f_, .val (.int ((k_ &&& (2147483647 : Int32)) % (24 : Int32))), vr b146, vi mv156, vi mv164, vi mv172, .val mv188, vr b194, .val mv238, u_, u_, u_, u_] [(.int mv172)] t
     refine XS.ifNo X240.here hx rfl (hb hby at_120) rfl ((if0 _ _).trans (feq hc244).1) ?_
     show S_ p e below T240 m 123 #[vi k_, vi i_, vi a_, vi b_, vi f_, .val (.int ((k_ &&& (2147483647 : Int32)) % (24 : Int32))), vr b146, vi mv156, vi mv164, vi mv172, .val mv188, vr b194, .val mv238, u_, u_, u_, u_] [] t
     refine XS.aconstNull X240.here hx rfl (hb hby at_123) ?_
     show S_ p e below T240 m 124 #[vi k_, vi i_, vi a_, vi b_, vi f_, .val (.int ((k_ &&& (2147483647 : Int32)) % (24 : Int32))), vr b146, vi mv156, vi mv164, vi mv172, .val mv188, vr b194, .val mv238, u_, u_, u_, u_] [.null] t
     refine yG X240.here hx rfl 124 134 rfl (hb hby at_124) ?_
     show S_ p e below T240 m 134 #[vi k_, vi i_, vi a_, vi b_, vi f_, .val (.int ((k_ &&& (2147483647 : Int32)) % (24 : Int32))), vr b146, vi mv156, vi mv164, vi mv172, .val mv188, vr b194, .val mv238, u_, u_, u_, u_] [.null] t
     refine XS.astore X240.here hx rfl (hb hby at_134) rfl rfl (l' := #[vi k_, vi i_, vi a_, vi b_, vi f_, .val (.int ((k_ &&& (2147483647 : Int32)) % (24 : Int32))), vr b146, vi mv156, vi mv164, vi mv172, .val mv188, vr b194, .val mv238, .val .null, u_, u_, u_]) rfl ?_
     exact k
    have K262 : Keep h240 h240 [] := (Keep.refl _ _)
    exact ⟨.null, T240, _, _, X240.mono (by decide) (by decide), e240, o240, K262, kp240, N240, rfl, c258⟩
  obtain ⟨b264, T264, h264, z264, g264, X264, e264, E264, o265, A264, D264, U264, c264⟩ := knew X261 hx hZ hown (w69 hw) (w70 hw) (w71 hw) e261 c261 rfl (hb hby at_136) (by decide) (by decide) o261
  have kp266 := kp261.ext E264
  have z267 := Nat.le_trans kp261.1 z264
  have c268 : Kt p e below T264 st0 (mkF m 148 #[vi k_, vi i_, vi a_, vi b_, vi f_, .val (.int ((k_ &&& (2147483647 : Int32)) % (24 : Int32))), vr b146, vi mv156, vi mv164, vi mv172, .val mv188, vr b194, .val mv238, .val mv259, u_, u_, u_] [mv259, mv238, (rr b146), mv188, (rr b264), (rr b264)]) := fun t k => by
   refine c264 t ?_
   show S_ p e below T264 m 139 #[vi k_, vi i_, vi a_, vi b_, vi f_, .val (.int ((k_ &&& (2147483647 : Int32)) % (24 : Int32))), vr b146, vi mv156, vi mv164, vi mv172, .val mv188, vr b194, .val mv238, .val mv259, u_, u_, u_] [(rr b264)] t
   refine XS.dup X264.here hx rfl (hb hby at_139) rfl rfl ?_
   show S_ p e below T264 m 140 #[vi k_, vi i_, vi a_, vi b_, vi f_, .val (.int ((k_ &&& (2147483647 : Int32)) % (24 : Int32))), vr b146, vi mv156, vi mv164, vi mv172, .val mv188, vr b194, .val mv238, .val mv259, u_, u_, u_] [(rr b264), (rr b264)] t
   refine XS.aload X264.here hx rfl (hb hby at_140) rfl hr189 ?_
   show S_ p e below T264 m 142 #[vi k_, vi i_, vi a_, vi b_, vi f_, .val (.int ((k_ &&& (2147483647 : Int32)) % (24 : Int32))), vr b146, vi mv156, vi mv164, vi mv172, .val mv188, vr b194, .val mv238, .val mv259, u_, u_, u_] [mv188, (rr b264), (rr b264)] t
   refine XS.aload X264.here hx rfl (hb hby at_142) rfl rfl ?_
   show S_ p e below T264 m 144 #[vi k_, vi i_, vi a_, vi b_, vi f_, .val (.int ((k_ &&& (2147483647 : Int32)) % (24 : Int32))), vr b146, vi mv156, vi mv164, vi mv172, .val mv188, vr b194, .val mv238, .val mv259, u_, u_, u_] [(rr b146), mv188, (rr b264), (rr b264)] t
   refine XS.aload X264.here hx rfl (hb hby at_144) rfl hr239 ?_
   show S_ p e below T264 m 146 #[vi k_, vi i_, vi a_, vi b_, vi f_, .val (.int ((k_ &&& (2147483647 : Int32)) % (24 : Int32))), vr b146, vi mv156, vi mv164, vi mv172, .val mv188, vr b194, .val mv238, .val mv259, u_, u_, u_] [mv238, (rr b146), mv188, (rr b264), (rr b264)] t
   refine XS.aload X264.here hx rfl (hb hby at_146) rfl hr260 ?_
   exact k
  obtain ⟨_, T269, L269, X269, hQ269, c269⟩ := kspec X264 hx hZ hown (w72 hw) (w73 hw) (w71 hw) (w74 hw) (rm_oinit l Z a0 hw [] b264 mv188 (rr b146) mv238 mv259 h264 n0 o265 A264 (show Fld Z h264 b264 nm3 "item" "Ljava/lang/Object;" .null from D264 (Or.inr (w82 hw)) (ty := (.object nm8)) (by decide)) (show Fld Z h264 b264 nm3 "refusal" nm1 .null from D264 (Or.inr (w84 hw)) (ty := (.object nm0)) (by decide)) (show Fld Z h264 b264 nm3 "message" nm20 .null from D264 (Or.inr (w86 hw)) (ty := (.object nm6)) (by decide)) (show Fld Z h264 b264 nm3 "bindingTargets" nm10 .null from D264 (Or.inr (w88 hw)) (ty := (.object nm7)) (by decide)) g264 hr189 rfl hr239 hr260) e264 c268 hml pd_pLjava_lang_Object_Lcom_example_rosterd_rosterd_core_Refusal_Ljava_lang_String_Ljava_util_List_rV b264 [mv188, (rr b146), mv238, mv259] [(rr b264)] 1 (hb hby at_148) rfl rfl rfl rfl rfl rfl
  obtain ⟨rfl, N270q, K271, p272, p273⟩ := hQ269
  have N270 := Fr.app N261 N270q
  have o274 := o265.keep K271 (allS g264 all0)
  have kp275 := kp266.trans K271 (allS (Or.inr z267) all0)
  have c276 : Kt p e below T269 st0 (mkF m 155 #[vi k_, vi i_, vi a_, vi b_, vi f_, .val (.int ((k_ &&& (2147483647 : Int32)) % (24 : Int32))), vr b146, vi mv156, vi mv164, vi mv172, .val mv188, vr b194, .val mv238, .val mv259, vr b264, u_, u_] [(rr b264)]) := fun t k => by
   refine c269 t ?_
   show S_ p e below T269 m 151 #[vi k_, vi i_, vi a_, vi b_, vi f_, .val (.int ((k_ &&& (2147483647 : Int32)) % (24 : Int32))), vr b146, vi mv156, vi mv164, vi mv172, .val mv188, vr b194, .val mv238, .val mv259, u_, u_, u_] [(rr b264)] t
   refine XS.astore X269.here hx rfl (hb hby at_151) rfl rfl (l' := #[vi k_, vi i_, vi a_, vi b_, vi f_, .val (.int ((k_ &&& (2147483647 : Int32)) % (24 : Int32))), vr b146, vi mv156, vi mv164, vi mv172, .val mv188, vr b194, .val mv238, .val mv259, vr b264, u_, u_]) rfl ?_
   show S_ p e below T269 m 153 #[vi k_, vi i_, vi a_, vi b_, vi f_, .val (.int ((k_ &&& (2147483647 : Int32)) % (24 : Int32))), vr b146, vi mv156, vi mv164, vi mv172, .val mv188, vr b194, .val mv238, .val mv259, vr b264, u_, u_] [] t
   refine XS.aload X269.here hx rfl (hb hby at_153) rfl rfl ?_
   exact k
  obtain ⟨_, T277, L277, X277, hQ277, c277⟩ := kvirt X269 hx hZ hown (w89 hw) (w90 hw) (w92 hw) (w91 hw) (w93 hw) (w71 hw) (rm_sucR l Z a0 hw [] b264 b146 T269.heap n0 o274 p273) rfl p272 c276 hml pd_prZ [] [] 0 (hb hby at_155) rfl rfl rfl rfl rfl rfl
  obtain ⟨rfl, N278q, K279⟩ := hQ277
  have N278 := Fr.app N270 N278q
  have c280 : Kt p e below T277 st0 (mkF m 185 #[vi k_, vi i_, vi a_, vi b_, vi f_, .val (.int ((k_ &&& (2147483647 : Int32)) % (24 : Int32))), vr b146, vi mv156, vi mv164, vi mv172, .val mv188, vr b194, .val mv238, .val mv259, vr b264, vi 1, u_] [mv188]) := fun t k => by
   refine c277 t ?_
   show S_ p e below T277 m 158 #[vi k_, vi i_, vi a_, vi b_, vi f_, .val (.int ((k_ &&& (2147483647 : Int32)) % (24 : Int32))), vr b146, vi mv156, vi mv164, vi mv172, .val mv188, vr b194, .val mv238, .val mv259, vr b264, u_, u_] [(ii 0)] t
   refine XS.aload X277.here hx rfl (hb hby at_158) rfl rfl ?_
   show S_ p e below T277 m 160 #[vi k_, vi i_, vi a_, vi b_, vi f_, .val (.int ((k_ &&& (2147483647 : Int32)) % (24 : Int32))), vr b146, vi mv156, vi mv164, vi mv172, .val mv188, vr b194, .val mv238, .val mv259, vr b264, u_, u_] [(rr b146), (ii 0)] t
   refine XS.ifnonnullYes X277.here hx rfl (pc0 := 160) (pc' := 167) rfl (hb hby at_160) rfl (by decide) (by decide) ?_
   show S_ p e below T277 m 167 #[vi k_, vi i_, vi a_, vi b_, vi f_, .val (.int ((k_ &&& (2147483647 : Int32)) % (24 : Int32))), vr b146, vi mv156, vi mv164, vi mv172, .val mv188, vr b194, .val mv238, .val mv259, vr b264, u_, u_] [(ii 0)] t
   refine XS.iconst X277.here hx rfl (hb hby at_167) ?_
   show S_ p e below T277 m 168 #[vi k_, vi i_, vi a_, vi b_, vi f_, .val (.int ((k_ &&& (2147483647 : Int32)) % (24 : Int32))), vr b146, vi mv156, vi mv164, vi mv172, .val mv188, vr b194, .val mv238, .val mv259, vr b264, u_, u_] [(ii 0), (ii 0)] t
   refine XS.icmpNo X277.here hx rfl (hb hby at_168) rfl rfl ?_
   show S_ p e below T277 m 171 #[vi k_, vi i_, vi a_, vi b_, vi f_, .val (.int ((k_ &&& (2147483647 : Int32)) % (24 : Int32))), vr b146, vi mv156, vi mv164, vi mv172, .val mv188, vr b194, .val mv238, .val mv259, vr b264, u_, u_] [] t
   refine XS.iconst X277.here hx rfl (hb hby at_171) ?_
   show S_ p e below T277 m 172 #[vi k_, vi i_, vi a_, vi b_, vi f_, .val (.int ((k_ &&& (2147483647 : Int32)) % (24 : Int32))), vr b146, vi mv156, vi mv164, vi mv172, .val mv188, vr b194, .val mv238, .val mv259, vr b264, u_, u_] [(ii 1)] t
   refine yG X277.here hx rfl 172 176 rfl (hb hby at_172) ?_
   show S_ p e below T277 m 176 #[vi k_, vi i_, vi a_, vi b_, vi f_, .val (.int ((k_ &&& (2147483647 : Int32)) % (24 : Int32))), vr b146, vi mv156, vi mv164, vi mv172, .val mv188, vr b194, .val mv238, .val mv259, vr b264, u_, u_] [(ii 1)] t
   refine XS.istore X277.here hx rfl (hb hby at_176) rfl (l' := #[vi k_, vi i_, vi a_, vi b_, vi f_, .val (.int ((k_ &&& (2147483647 : Int32)) % (24 : Int32))), vr b146, vi mv156, vi mv164, vi mv172, .val mv188, vr b194, .val mv238, .val mv259, vr b264, vi 1, u_]) rfl ?_
   show S_ p e below T277 m 178 #[vi k_, vi i_, vi a_, vi b_, vi f_, .val (.int ((k_ &&& (2147483647 : Int32)) % (24 : Int32))), vr b146, vi mv156, vi mv164, vi mv172, .val mv188, vr b194, .val mv238, .val mv259, vr b264, vi 1, u_] [] t
   refine XS.iload X277.here hx rfl (hb hby at_178) rfl ?_
   show S_ p e below T277 m 180 #[vi k_, vi i_, vi a_, vi b_, vi f_, .val (.int ((k_ &&& (2147483647 : Int32)) % (24 : Int32))), vr b146, vi mv156, vi mv164, vi mv172, .val mv188, vr b194, .val mv238, .val mv259, vr b264, vi 1, u_] [(ii 1)] t
   refine XS.ifNo X277.here hx rfl (hb hby at_180) rfl rfl ?_
   show S_ p e below T277 m 183 #[vi k_, vi i_, vi a_, vi b_, vi f_, .val (.int ((k_ &&& (2147483647 : Int32)) % (24 : Int32))), vr b146, vi mv156, vi mv164, vi mv172, .val mv188, vr b194, .val mv238, .val mv259, vr b264, vi 1, u_] [] t
   refine XS.aload X277.here hx rfl (hb hby at_183) rfl hr189 ?_
   exact k
  obtain ⟨_, T281, L281, X281, hQ281, c281⟩ := kstat X277 hx hZ hown (w94 hw) (w95 hw) (w71 hw) (w96 hw) (rm_done l Z a0 hw [] mv188 sa159_ T269.heap n0 o274 ZS55_ hr189) K279 c280 hml pd_pLjava_lang_Object_rLcom_example_rosterd_rosterd_core_Outcome_ [mv188] [] 0 (hb hby at_185) rfl rfl rfl rfl rfl rfl
  obtain ⟨b282, rfl, N283q, K284, p285, p286⟩ := hQ281
  have N283 := Fr.app N278 N283q
  have o287 := o274.keep K284 all0
  have kp288 := kp275.trans K284 all0
  obtain ⟨_, T289, L289, X289, hQ289, c289⟩ := kvirt X281 hx hZ hown (w89 hw) (w90 hw) (w92 hw) (w91 hw) (w93 hw) (w71 hw) (rm_sucN l Z a0 hw [] b282 T281.heap n0 o287 p286) rfl p285 c281 hml pd_prZ [] [] 0 (hb hby at_188) rfl rfl rfl rfl rfl rfl
  obtain ⟨rfl, N290q, K291⟩ := hQ289
  have N290 := Fr.app N283 N290q
  have c292 : Kt p e below T289 st0 (mkF m 206 #[vi k_, vi i_, vi a_, vi b_, vi f_, .val (.int ((k_ &&& (2147483647 : Int32)) % (24 : Int32))), vr b146, vi mv156, vi mv164, vi mv172, .val mv188, vr b194, .val mv238, .val mv259, vr b264, vi 1, u_] []) := fun t k => by
   refine c289 t ?_
   show S_ p e below T289 m 191 #[vi k_, vi i_, vi a_, vi b_, vi f_, .val (.int ((k_ &&& (2147483647 : Int32)) % (24 : Int32))), vr b146, vi mv156, vi mv164, vi mv172, .val mv188, vr b194, .val mv238, .val mv259, vr b264, vi 1, u_] [(ii 1)] t
   refine XS.ifNo X289.here hx rfl (hb hby at_191) rfl rfl ?_
   show S_ p e below T289 m 194 #[vi k_, vi i_, vi a_, vi b_, vi f_, .val (.int ((k_ &&& (2147483647 : Int32)) % (24 : Int32))), vr b146, vi mv156, vi mv164, vi mv172, .val mv188, vr b194, .val mv238, .val mv259, vr b264, vi 1, u_] [] t
   refine XS.iconst X289.here hx rfl (hb hby at_194) ?_
   show S_ p e below T289 m 195 #[vi k_, vi i_, vi a_, vi b_, vi f_, .val (.int ((k_ &&& (2147483647 : Int32)) % (24 : Int32))), vr b146, vi mv156, vi mv164, vi mv172, .val mv188, vr b194, .val mv238, .val mv259, vr b264, vi 1, u_] [(ii 1)] t
   refine yG X289.here hx rfl 195 199 rfl (hb hby at_195) ?_
   show S_ p e below T289 m 199 #[vi k_, vi i_, vi a_, vi b_, vi f_, .val (.int ((k_ &&& (2147483647 : Int32)) % (24 : Int32))), vr b146, vi mv156, vi mv164, vi mv172, .val mv188, vr b194, .val mv238, .val mv259, vr b264, vi 1, u_] [(ii 1)] t
   refine XS.istore X289.here hx rfl (hb hby at_199) rfl (l' := #[vi k_, vi i_, vi a_, vi b_, vi f_, .val (.int ((k_ &&& (2147483647 : Int32)) % (24 : Int32))), vr b146, vi mv156, vi mv164, vi mv172, .val mv188, vr b194, .val mv238, .val mv259, vr b264, vi 1, u_]) rfl ?_
   show S_ p e below T289 m 201 #[vi k_, vi i_, vi a_, vi b_, vi f_, .val (.int ((k_ &&& (2147483647 : Int32)) % (24 : Int32))), vr b146, vi mv156, vi mv164, vi mv172, .val mv188, vr b194, .val mv238, .val mv259, vr b264, vi 1, u_] [] t
   refine XS.aload X289.here hx rfl (hb hby at_201) rfl rfl ?_
   show S_ p e below T289 m 203 #[vi k_, vi i_, vi a_, vi b_, vi f_, .val (.int ((k_ &&& (2147483647 : Int32)) % (24 : Int32))), vr b146, vi mv156, vi mv164, vi mv172, .val mv188, vr b194, .val mv238, .val mv259, vr b264, vi 1, u_] [(rr b146)] t
   refine XS.ifnullNo X289.here hx rfl (hb hby at_203) rfl ?_
   exact k
  obtain ⟨b293, T293, h293, z293, g293, X293, e293, E293, o294, A293, D293, U293, c293⟩ := knew X289 hx hZ hown (w105 hw) (w106 hw) (w107 hw) K291 c292 rfl (hb hby at_206) (by decide) (by decide) o287
  have kp295 := kp288.ext E293
  have z296 := Nat.le_trans kp288.1 z293
  have f297 := ((((((((((((f150.keep K157).keep K165).keep K173).keep K190).ext E194).wr W200).wr W207).keep K240).keep K261).ext E264).keep K271).keep K284).ext E293
  have c298 : Kt p e below T293 st0 (mkF m 214 #[vi k_, vi i_, vi a_, vi b_, vi f_, .val (.int ((k_ &&& (2147483647 : Int32)) % (24 : Int32))), vr b146, vi mv156, vi mv164, vi mv172, .val mv188, vr b194, .val mv238, .val mv259, vr b264, vi 1, u_] [mv238, (rr b146), (rr b293), (rr b293)]) := fun t k => by
   refine c293 t ?_
   show S_ p e below T293 m 209 #[vi k_, vi i_, vi a_, vi b_, vi f_, .val (.int ((k_ &&& (2147483647 : Int32)) % (24 : Int32))), vr b146, vi mv156, vi mv164, vi mv172, .val mv188, vr b194, .val mv238, .val mv259, vr b264, vi 1, u_] [(rr b293)] t
   refine XS.dup X293.here hx rfl (hb hby at_209) rfl rfl ?_
   show S_ p e below T293 m 210 #[vi k_, vi i_, vi a_, vi b_, vi f_, .val (.int ((k_ &&& (2147483647 : Int32)) % (24 : Int32))), vr b146, vi mv156, vi mv164, vi mv172, .val mv188, vr b194, .val mv238, .val mv259, vr b264, vi 1, u_] [(rr b293), (rr b293)] t
   refine XS.aload X293.here hx rfl (hb hby at_210) rfl rfl ?_
   show S_ p e below T293 m 212 #[vi k_, vi i_, vi a_, vi b_, vi f_, .val (.int ((k_ &&& (2147483647 : Int32)) % (24 : Int32))), vr b146, vi mv156, vi mv164, vi mv172, .val mv188, vr b194, .val mv238, .val mv259, vr b264, vi 1, u_] [(rr b146), (rr b293), (rr b293)] t
   refine XS.aload X293.here hx rfl (hb hby at_212) rfl hr239 ?_
   exact k
  obtain ⟨_, T299, L299, X299, hQ299, hS299, hZ299, hown299, c299⟩ := kspecB X293 hx hZ hown hS0 (Nat.le_trans (Nat.zero_le _) (Nat.le_trans (Nat.le_trans (Nat.le_trans (Nat.le_trans (Nat.le_trans (Nat.le_trans (Nat.le_trans (Nat.le_trans (Nat.le_trans (Nat.le_trans (Nat.le_trans (Nat.le_trans K157.1 K165.1) K173.1) K190.1) E194.1) (Keep.of_wr W200).1) (Keep.of_wr W207).1) K240.1) K261.1) E264.1) K271.1) K284.1) E293.1)) (w108 hw) (w109 hw) (w110 hw) (rm := ({ frames := 7, cells := 3, slots := 2784, locals := 96 } : Room)) (backOfSKL (W := 1) (rm_rex2 l Z a0 hw [] b293 b146 mv238 sa159_ sa172_ sa176_ h293 n0 o294 ZS55_ A293 U293 (show Fld Z h293 b293 nm5 "backtrace" "Ljava/lang/Object;" .null from D293 (Or.inl (w165 hw)) (ty := (.object nm8)) (by decide)) (show Fld Z h293 b293 nm5 "detailMessage" nm20 .null from D293 (Or.inl (w164 hw)) (ty := (.object nm6)) (by decide)) (show Fld Z h293 b293 nm5 "cause" "Ljava/lang/Throwable;" .null from D293 (Or.inl (w134 hw)) (ty := (.object nm5)) (by decide)) (show Fld Z h293 b293 nm5 "stackTrace" nm16 .null from D293 (Or.inl (w137 hw)) (ty := (.array (.object nm18))) (by decide)) (show Fld Z h293 b293 nm5 "suppressedExceptions" nm10 .null from D293 (Or.inl (w140 hw)) (ty := (.object nm7)) (by decide)) (show Fld Z h293 b293 nm2 "refusal" nm1 .null from D293 (Or.inr (w179 hw)) (ty := (.object nm0)) (by decide)) (show Fld Z h293 b293 nm2 "bindingTargets" nm10 .null from D293 (Or.inr (w199 hw)) (ty := (.object nm7)) (by decide)) g293 hr239 ZS61_ ZS62_ hst f297 ZE56_ ZF59_) hZ (w110 hw) (w107 hw) (by decide) (by decide) hTK hBelow) e293 c298 hml pd_pLcom_example_rosterd_rosterd_core_Refusal_Ljava_lang_String_rV b293 [(rr b146), mv238] [(rr b293)] (hb hby at_214) rfl rfl rfl rfl rfl rfl
  obtain ⟨rfl, N300q, K301, p302, p303, p304, p305⟩ := hQ299
  have N300 := Fr.app N290 N300q
  have o306 := o294.keep K301 (allS g293 all0)
  have kp307 := kp295.trans K301 (allS (Or.inr z296) all0)
  have c308 : Kt p e below T299 st0 (mkF m 228 #[vi k_, vi i_, vi a_, vi b_, vi f_, .val (.int ((k_ &&& (2147483647 : Int32)) % (24 : Int32))), vr b146, vi mv156, vi mv164, vi mv172, .val mv188, vr b194, .val mv238, .val mv259, vr b264, vi 1, vr b293] [(rr b293), mv188]) := fun t k => by
   refine c299 t ?_
   show S_ p e below T299 m 217 #[vi k_, vi i_, vi a_, vi b_, vi f_, .val (.int ((k_ &&& (2147483647 : Int32)) % (24 : Int32))), vr b146, vi mv156, vi mv164, vi mv172, .val mv188, vr b194, .val mv238, .val mv259, vr b264, vi 1, u_] [(rr b293)] t
   refine XS.astore X299.here hx rfl (hb hby at_217) rfl rfl (l' := #[vi k_, vi i_, vi a_, vi b_, vi f_, .val (.int ((k_ &&& (2147483647 : Int32)) % (24 : Int32))), vr b146, vi mv156, vi mv164, vi mv172, .val mv188, vr b194, .val mv238, .val mv259, vr b264, vi 1, vr b293]) rfl ?_
   show S_ p e below T299 m 219 #[vi k_, vi i_, vi a_, vi b_, vi f_, .val (.int ((k_ &&& (2147483647 : Int32)) % (24 : Int32))), vr b146, vi mv156, vi mv164, vi mv172, .val mv188, vr b194, .val mv238, .val mv259, vr b264, vi 1, vr b293] [] t
   refine XS.iload X299.here hx rfl (hb hby at_219) rfl ?_
   show S_ p e below T299 m 221 #[vi k_, vi i_, vi a_, vi b_, vi f_, .val (.int ((k_ &&& (2147483647 : Int32)) % (24 : Int32))), vr b146, vi mv156, vi mv164, vi mv172, .val mv188, vr b194, .val mv238, .val mv259, vr b264, vi 1, vr b293] [(ii 1)] t
   refine XS.ifNo X299.here hx rfl (hb hby at_221) rfl rfl ?_
   show S_ p e below T299 m 224 #[vi k_, vi i_, vi a_, vi b_, vi f_, .val (.int ((k_ &&& (2147483647 : Int32)) % (24 : Int32))), vr b146, vi mv156, vi mv164, vi mv172, .val mv188, vr b194, .val mv238, .val mv259, vr b264, vi 1, vr b293] [] t
   refine XS.aload X299.here hx rfl (hb hby at_224) rfl hr189 ?_
   show S_ p e below T299 m 226 #[vi k_, vi i_, vi a_, vi b_, vi f_, .val (.int ((k_ &&& (2147483647 : Int32)) % (24 : Int32))), vr b146, vi mv156, vi mv164, vi mv172, .val mv188, vr b194, .val mv238, .val mv259, vr b264, vi 1, vr b293] [mv188] t
   refine XS.aload X299.here hx rfl (hb hby at_226) rfl rfl ?_
   exact k
  obtain ⟨_, T309, L309, X309, hQ309, c309⟩ := kstat X299 hx hZ299 hown299 (w200 hw) (w201 hw) (w71 hw) (w202 hw) (rm_refused l Z a0 hw [] b293 mv188 b146 mv238 sa159_ T299.heap n0 o306 p302 p303 p304 p305 hr189 hr239) rfl c308 hml pd_pLjava_lang_Object_Lcom_example_rosterd_rosterd_core_RosterException_rLcom_example_rosterd_rosterd_core_Outcome_ [mv188, (rr b293)] [] 0 (hb hby at_228) rfl rfl rfl rfl rfl rfl
  obtain ⟨b310, rfl, N311q, K312, p313, p314⟩ := hQ309
  have N311 := Fr.app N300 N311q
  have o315 := o306.keep K312 all0
  have kp316 := kp307.trans K312 all0
  obtain ⟨_, T317, L317, X317, hQ317, c317⟩ := kvirt X309 hx hZ299 hown299 (w89 hw) (w90 hw) (w92 hw) (w91 hw) (w93 hw) (w71 hw) (rm_sucR l Z a0 hw [] b310 b146 T309.heap n0 o315 p314) rfl p313 c309 hml pd_prZ [] [] 0 (hb hby at_231) rfl rfl rfl rfl rfl rfl
  obtain ⟨rfl, N318q, K319⟩ := hQ317
  have N318 := Fr.app N311 N318q
  obtain ⟨fs, hr, hrun, hended, hRW⟩ := X317.leaveW hS299 (by first | exact (Nat.le_trans (Nat.le_refl _) K312.1) | (rw [K319]; exact (Nat.le_trans (Nat.le_refl _) K312.1))) (v := some (ii 1)) (fun h => by rw [Bd.returns] at h; cases h)
  refine ⟨_, _, c317 _ ?_, hrun, hended, _, _, rfl, ?_, hRW.1, hRW.2.1, hRW.2.2.1, hRW.2.2.2.mono (by decide) (by decide)⟩
  ·show S_ p e below T317 m 234 #[vi k_, vi i_, vi a_, vi b_, vi f_, .val (.int ((k_ &&& (2147483647 : Int32)) % (24 : Int32))), vr b146, vi mv156, vi mv164, vi mv172, .val mv188, vr b194, .val mv238, .val mv259, vr b264, vi 1, vr b293] [(ii 0)] _
   refine XS.ifNo X317.here hx rfl (hb hby at_234) rfl rfl ?_
   show S_ p e below T317 m 237 #[vi k_, vi i_, vi a_, vi b_, vi f_, .val (.int ((k_ &&& (2147483647 : Int32)) % (24 : Int32))), vr b146, vi mv156, vi mv164, vi mv172, .val mv188, vr b194, .val mv238, .val mv259, vr b264, vi 1, vr b293] [] _
   refine XS.iconst X317.here hx rfl (hb hby at_237) ?_
   show S_ p e below T317 m 238 #[vi k_, vi i_, vi a_, vi b_, vi f_, .val (.int ((k_ &&& (2147483647 : Int32)) % (24 : Int32))), vr b146, vi mv156, vi mv164, vi mv172, .val mv188, vr b194, .val mv238, .val mv259, vr b264, vi 1, vr b293] [(ii 1)] _
   refine yG X317.here hx rfl 238 242 rfl (hb hby at_238) ?_
   show S_ p e below T317 m 242 #[vi k_, vi i_, vi a_, vi b_, vi f_, .val (.int ((k_ &&& (2147483647 : Int32)) % (24 : Int32))), vr b146, vi mv156, vi mv164, vi mv172, .val mv188, vr b194, .val mv238, .val mv259, vr b264, vi 1, vr b293] [(ii 1)] _
   refine XS.istore X317.here hx rfl (hb hby at_242) rfl (l' := #[vi k_, vi i_, vi a_, vi b_, vi f_, .val (.int ((k_ &&& (2147483647 : Int32)) % (24 : Int32))), vr b146, vi mv156, vi mv164, vi mv172, .val mv188, vr b194, .val mv238, .val mv259, vr b264, vi 1, vr b293]) rfl ?_
   show S_ p e below T317 m 244 #[vi k_, vi i_, vi a_, vi b_, vi f_, .val (.int ((k_ &&& (2147483647 : Int32)) % (24 : Int32))), vr b146, vi mv156, vi mv164, vi mv172, .val mv188, vr b194, .val mv238, .val mv259, vr b264, vi 1, vr b293] [] _
   refine XS.iload X317.here hx rfl (hb hby at_244) rfl ?_
   show S_ p e below T317 m 246 #[vi k_, vi i_, vi a_, vi b_, vi f_, .val (.int ((k_ &&& (2147483647 : Int32)) % (24 : Int32))), vr b146, vi mv156, vi mv164, vi mv172, .val mv188, vr b194, .val mv238, .val mv259, vr b264, vi 1, vr b293] [(ii 1)] _
   exact retN X317 hx (t := .boolean) Bd.returns (by simp) (hb hby at_246) hr
  ·show Q_law Z k_ i_ a_ b_ f_ sa45_ sa49_ sa53_ sa57_ sa61_ sa65_ sa69_ sa73_ sa77_ sa81_ sa85_ sa89_ sa93_ sa97_ sa101_ sa105_ sa109_ sa113_ sa117_ sa121_ sa125_ sa129_ sa133_ sa139_ si144_ sa149_ sa154_ sa159_ sa163_ sa172_ sa176_ sa180_ sv184_ sk188_ sk191_ sk194_ sk197_ sk200_ sc142_ h0 n0 _ T317.heap _
   rw [K319]
   exact ⟨rfl, N318, kp316⟩
set_option maxRecDepth 65536 in
set_option maxHeartbeats 40000000 in
theorem comes_1 {Post : Tables → Env → Array Value → State → Outcome → State → Prop} (hpost : ∀ tb e args s v u, (limb_1_1.after args s (.returned v) u = true ∧ limb_1_2.after args s (.returned v) u = true ∧ True) → ReturnedEndW s (.returned v) u (Jvm.fieldLocs frame_1_writes args s ++ Jvm.arrayLocs frame_1_arrays args s ++ Jvm.staticLocs frame_1_statics s) 32 6720 → Post tb e args s (.returned v) u) :
  ArmFor flags0 classFile x code maxLocals ret World_1 tables_1 room_1 Calls_1 rest_1 Pre_1 Post := by
 intro l hfl _ _ p e ha hc hk s m args below hf hA hF happ hP
 obtain ⟨hcalls, hrest, hpre⟩ := hP
 obtain ⟨-, -, -, hnamed, -, -, -, hat⟩ := (Spec.applies_iff hf).mp happ
 obtain ⟨hg, hn⟩ := and_e (Jvm.Cond.before_iff.mp (show (Jvm.Cond.and given_1 narrow_1).before args s = true from hpre))
 obtain ⟨ga0, gb0⟩ := and_e hg
 obtain ⟨ga1, gb1⟩ := and_e gb0
 obtain ⟨ga2, gb2⟩ := and_e gb1
 obtain ⟨ga3, gb3⟩ := and_e gb2
 obtain ⟨ga4, gb4⟩ := and_e gb3
 obtain ⟨wv0, wv1, wv2, wv3, wv4, rfl⟩ : ∃ wv0 wv1 wv2 wv3 wv4 : Value, args = #[wv0, wv1, wv2, wv3, wv4] := by
  have hs : args.size = 5 := by simpa [Jvm.Cond.value, given_1] using ga0
  obtain ⟨L⟩ := args
  match L, hs with
  | [wv0, wv1, wv2, wv3, wv4], _ => exact ⟨wv0, wv1, wv2, wv3, wv4, rfl⟩
 have hw := fun d (hd : d ∈ tables_1) => atoms_spec (ws := Jvm.Cond.code x code maxLocals ret :: tables_1) hat d (List.mem_cons_of_mem _ hd)
 have hfit : Fit s := fun {y c} hc i hi => by
  obtain ⟨ha, rfl⟩ := Array.getElem?_eq_some_iff.mp hc
  have q := List.all_eq_true.mp ((Array.all_eq_true_iff_forall_mem.mp hF) _ (Array.getElem_mem ha)) i (List.mem_range.mpr hi)
  simpa [Array.getElem?_eq_getElem hi] using q
 obtain ⟨hsets, hown0⟩ := atoms_of _ (rest_1_c_eq ▸ (show rest_1_c.before _ s = true from hrest))
 obtain ⟨i0, ei0⟩ := is_v ga1
 obtain rfl : wv0 = (.int i0) := Option.some.inj ei0
 obtain ⟨i1, ei1⟩ := is_v ga2
 obtain rfl : wv1 = (.int i1) := Option.some.inj ei1
 obtain ⟨i2, ei2⟩ := is_v ga3
 obtain rfl : wv2 = (.int i2) := Option.some.inj ei2
 obtain ⟨i3, ei3⟩ := is_v ga4
 obtain rfl : wv3 = (.int i3) := Option.some.inj ei3
 obtain ⟨i4, ei4⟩ := is_v gb4
 obtain rfl : wv4 = (.int i4) := Option.some.inj ei4
 obtain ⟨nw1_, nw2_⟩ := and_e hn
 obtain ⟨nw3_, nw4_⟩ := and_e nw2_
 obtain ⟨nw5_, nw6_⟩ := and_e nw4_
 obtain ⟨nw7_, nw8_⟩ := and_e nw6_
 obtain ⟨nw9_, nw10_⟩ := and_e nw8_
 obtain ⟨nw11_, nw12_⟩ := and_e nw10_
 obtain ⟨nw13_, nw14_⟩ := and_e nw12_
 obtain ⟨nw15_, nw16_⟩ := and_e nw14_
 obtain ⟨nw17_, nw18_⟩ := and_e nw16_
 obtain ⟨nw19_, nw20_⟩ := and_e nw18_
 obtain ⟨nw21_, nw22_⟩ := and_e nw20_
 obtain ⟨nw23_, nw24_⟩ := and_e nw22_
 obtain ⟨nw25_, nw26_⟩ := and_e nw24_
 obtain ⟨nw27_, nw28_⟩ := and_e nw26_
 obtain ⟨nw29_, nw30_⟩ := and_e nw28_
 obtain ⟨nw31_, nw32_⟩ := and_e nw30_
 obtain ⟨nw33_, nw34_⟩ := and_e nw32_
 obtain ⟨nw35_, nw36_⟩ := and_e nw34_
 obtain ⟨nw37_, nw38_⟩ := and_e nw36_
 obtain ⟨nw39_, nw40_⟩ := and_e nw38_
 obtain ⟨nw41_, nw42_⟩ := and_e nw40_
 obtain ⟨nw43_, nw44_⟩ := and_e nw42_
 obtain ⟨sa45_, se46_⟩ := exa_v nw1_
 have sf47_ : Sta s s.heap nm0 "INVALID_ARGUMENT" nm1 (rr sa45_) := Sta.start se46_ (Or.inr ⟨(w6 hw), (w7 hw)⟩)
 have sf48_ : Exa s s.heap sa45_ nm0 := Exa.start se46_ nw1_
 obtain ⟨sa49_, se50_⟩ := exa_v nw3_
 have sf51_ : Sta s s.heap nm0 "NOT_FOUND" nm1 (rr sa49_) := Sta.start se50_ (Or.inr ⟨(w6 hw), (w220 hw)⟩)
 have sf52_ : Exa s s.heap sa49_ nm0 := Exa.start se50_ nw3_
 obtain ⟨sa53_, se54_⟩ := exa_v nw5_
 have sf55_ : Sta s s.heap nm0 "ALREADY_IN_ORGANIZATION" nm1 (rr sa53_) := Sta.start se54_ (Or.inr ⟨(w6 hw), (w222 hw)⟩)
 have sf56_ : Exa s s.heap sa53_ nm0 := Exa.start se54_ nw5_
 obtain ⟨sa57_, se58_⟩ := exa_v nw7_
 have sf59_ : Sta s s.heap nm0 "NOT_MEMBER" nm1 (rr sa57_) := Sta.start se58_ (Or.inr ⟨(w6 hw), (w224 hw)⟩)
 have sf60_ : Exa s s.heap sa57_ nm0 := Exa.start se58_ nw7_
 obtain ⟨sa61_, se62_⟩ := exa_v nw9_
 have sf63_ : Sta s s.heap nm0 "NOT_BOUND" nm1 (rr sa61_) := Sta.start se62_ (Or.inr ⟨(w6 hw), (w226 hw)⟩)
 have sf64_ : Exa s s.heap sa61_ nm0 := Exa.start se62_ nw9_
 obtain ⟨sa65_, se66_⟩ := exa_v nw11_
 have sf67_ : Sta s s.heap nm0 "LOGIN_ID_TAKEN" nm1 (rr sa65_) := Sta.start se66_ (Or.inr ⟨(w6 hw), (w228 hw)⟩)
 have sf68_ : Exa s s.heap sa65_ nm0 := Exa.start se66_ nw11_
 obtain ⟨sa69_, se70_⟩ := exa_v nw13_
 have sf71_ : Sta s s.heap nm0 "DEPTH_LIMIT_EXCEEDED" nm1 (rr sa69_) := Sta.start se70_ (Or.inr ⟨(w6 hw), (w230 hw)⟩)
 have sf72_ : Exa s s.heap sa69_ nm0 := Exa.start se70_ nw13_
 obtain ⟨sa73_, se74_⟩ := exa_v nw15_
 have sf75_ : Sta s s.heap nm0 "INVALID_POLICY_DOCUMENT" nm1 (rr sa73_) := Sta.start se74_ (Or.inr ⟨(w6 hw), (w247 hw)⟩)
 have sf76_ : Exa s s.heap sa73_ nm0 := Exa.start se74_ nw15_
 obtain ⟨sa77_, se78_⟩ := exa_v nw17_
 have sf79_ : Sta s s.heap nm0 "SYSTEM_POLICY_NOT_MODIFIABLE" nm1 (rr sa77_) := Sta.start se78_ (Or.inr ⟨(w6 hw), (w249 hw)⟩)
 have sf80_ : Exa s s.heap sa77_ nm0 := Exa.start se78_ nw17_
 obtain ⟨sa81_, se82_⟩ := exa_v nw19_
 have sf83_ : Sta s s.heap nm0 "NOT_IN_ORGANIZATION" nm1 (rr sa81_) := Sta.start se82_ (Or.inr ⟨(w6 hw), (w251 hw)⟩)
 have sf84_ : Exa s s.heap sa81_ nm0 := Exa.start se82_ nw19_
 obtain ⟨sa85_, se86_⟩ := exa_v nw21_
 have sf87_ : Sta s s.heap nm0 "DENIED_BY_GUARDRAIL" nm1 (rr sa85_) := Sta.start se86_ (Or.inr ⟨(w6 hw), (w253 hw)⟩)
 have sf88_ : Exa s s.heap sa85_ nm0 := Exa.start se86_ nw21_
 obtain ⟨sa89_, se90_⟩ := exa_v nw23_
 have sf91_ : Sta s s.heap nm0 "FORBIDDEN" nm1 (rr sa89_) := Sta.start se90_ (Or.inr ⟨(w6 hw), (w255 hw)⟩)
 have sf92_ : Exa s s.heap sa89_ nm0 := Exa.start se90_ nw23_
 obtain ⟨sa93_, se94_⟩ := exa_v nw25_
 have sf95_ : Sta s s.heap nm0 "POLICY_TOO_LARGE" nm1 (rr sa93_) := Sta.start se94_ (Or.inr ⟨(w6 hw), (w257 hw)⟩)
 have sf96_ : Exa s s.heap sa93_ nm0 := Exa.start se94_ nw25_
 obtain ⟨sa97_, se98_⟩ := exa_v nw27_
 have sf99_ : Sta s s.heap nm0 "POLICY_IN_USE" nm1 (rr sa97_) := Sta.start se98_ (Or.inr ⟨(w6 hw), (w259 hw)⟩)
 have sf100_ : Exa s s.heap sa97_ nm0 := Exa.start se98_ nw27_
 obtain ⟨sa101_, se102_⟩ := exa_v nw29_
 have sf103_ : Sta s s.heap nm0 "NAME_TAKEN" nm1 (rr sa101_) := Sta.start se102_ (Or.inr ⟨(w6 hw), (w261 hw)⟩)
 have sf104_ : Exa s s.heap sa101_ nm0 := Exa.start se102_ nw29_
 obtain ⟨sa105_, se106_⟩ := exa_v nw31_
 have sf107_ : Sta s s.heap nm0 "MALFORMED_POLICY_DOCUMENT" nm1 (rr sa105_) := Sta.start se106_ (Or.inr ⟨(w6 hw), (w263 hw)⟩)
 have sf108_ : Exa s s.heap sa105_ nm0 := Exa.start se106_ nw31_
 obtain ⟨sa109_, se110_⟩ := exa_v nw33_
 have sf111_ : Sta s s.heap nm0 "UNIT_NOT_EMPTY" nm1 (rr sa109_) := Sta.start se110_ (Or.inr ⟨(w6 hw), (w265 hw)⟩)
 have sf112_ : Exa s s.heap sa109_ nm0 := Exa.start se110_ nw33_
 obtain ⟨sa113_, se114_⟩ := exa_v nw35_
 have sf115_ : Sta s s.heap nm0 "ROOT_NOT_MODIFIABLE" nm1 (rr sa113_) := Sta.start se114_ (Or.inr ⟨(w6 hw), (w267 hw)⟩)
 have sf116_ : Exa s s.heap sa113_ nm0 := Exa.start se114_ nw35_
 obtain ⟨sa117_, se118_⟩ := exa_v nw37_
 have sf119_ : Sta s s.heap nm0 "ORGANIZATION_NOT_EMPTY" nm1 (rr sa117_) := Sta.start se118_ (Or.inr ⟨(w6 hw), (w269 hw)⟩)
 have sf120_ : Exa s s.heap sa117_ nm0 := Exa.start se118_ nw37_
 obtain ⟨sa121_, se122_⟩ := exa_v nw39_
 have sf123_ : Sta s s.heap nm0 "ACCOUNT_NOT_REMOVABLE" nm1 (rr sa121_) := Sta.start se122_ (Or.inr ⟨(w6 hw), (w271 hw)⟩)
 have sf124_ : Exa s s.heap sa121_ nm0 := Exa.start se122_ nw39_
 obtain ⟨sa125_, se126_⟩ := exa_v nw41_
 have sf127_ : Sta s s.heap nm0 "INVITATION_NOT_PENDING" nm1 (rr sa125_) := Sta.start se126_ (Or.inr ⟨(w6 hw), (w273 hw)⟩)
 have sf128_ : Exa s s.heap sa125_ nm0 := Exa.start se126_ nw41_
 obtain ⟨sa129_, se130_⟩ := exa_v nw43_
 have sf131_ : Sta s s.heap nm0 "INVITATION_ALREADY_SENT" nm1 (rr sa129_) := Sta.start se130_ (Or.inr ⟨(w6 hw), (w275 hw)⟩)
 have sf132_ : Exa s s.heap sa129_ nm0 := Exa.start se130_ nw43_
 obtain ⟨sa133_, se134_⟩ := exa_v nw44_
 have sf135_ : Sta s s.heap nm0 "DELEGATION_POLICY_EXISTS" nm1 (rr sa133_) := Sta.start se134_ (Or.inr ⟨(w6 hw), (w277 hw)⟩)
 have sf136_ : Exa s s.heap sa133_ nm0 := Exa.start se134_ nw44_
 have se137_ : (Jvm.Term.static "java/lang/Integer$IntegerCache" "high" "I").eval _ s none [] s = some (ii 127) := (Jvm.Cond.eq_int (beq_iff_eq.mpr (Jvm.Cond.before_iff.mp (hsets _ (List.mem_of_getElem? (i := 3) rfl)))) (Term.int_eval _))
 have sf138_ : Sta s s.heap "java/lang/Integer$IntegerCache" "high" "I" (ii 127) := Sta.start se137_ (Or.inl (hsets _ (List.mem_of_getElem? (i := 1) rfl)))
 obtain ⟨sa139_, se140_⟩ := arr_v (Jvm.Cond.before_iff.mp (hsets _ (List.mem_of_getElem? (i := 4) rfl)))
 have sf141_ : Sta s s.heap "java/lang/Integer$IntegerCache" "cache" "[Ljava/lang/Integer;" (rr sa139_) := Sta.start se140_ (Or.inr ⟨(w13 hw), (hsets _ (List.mem_of_getElem? (i := 2) rfl))⟩)
 obtain ⟨sc142_, sc142_r⟩ := Arr.start se140_ (Jvm.Cond.before_iff.mp (hsets _ (List.mem_of_getElem? (i := 4) rfl)))
 have sf143_ : Exa s s.heap sa139_ "[Ljava/lang/Integer;" := Exa.start se140_ (Jvm.Cond.before_iff.mp (hsets _ (List.mem_of_getElem? (i := 5) rfl)))
 obtain ⟨si144_, se145_⟩ := is_v (Jvm.Cond.before_iff.mp (hsets _ (List.mem_of_getElem? (i := 9) rfl)))
 have sf146_ : Sta s s.heap nm6 "COMPACT_STRINGS" "Z" (.int si144_) := Sta.start se145_ (Or.inl (hsets _ (List.mem_of_getElem? (i := 8) rfl)))
 have sr148_ : ¬ (si144_ = (0 : Int32)) := gotF (Jvm.Cond.eq_ints se145_ (Term.int_eval _)) (not_v (Jvm.Cond.before_iff.mp (hsets _ (List.mem_of_getElem? (i := 10) rfl))))
 obtain ⟨sa149_, se150_⟩ := arr_v (Jvm.Cond.before_iff.mp (hsets _ (List.mem_of_getElem? (i := 20) rfl)))
 have sf151_ : Sta s s.heap nm12 "EMPTY_ELEMENTDATA" nm19 (rr sa149_) := Sta.start se150_ (Or.inl (hsets _ (List.mem_of_getElem? (i := 18) rfl)))
 obtain ⟨sc152_, sc152_r⟩ := Arr.start se150_ (Jvm.Cond.before_iff.mp (hsets _ (List.mem_of_getElem? (i := 20) rfl)))
 have sf153_ : Exa s s.heap sa149_ nm19 := Exa.start se150_ (Jvm.Cond.before_iff.mp (hsets _ (List.mem_of_getElem? (i := 21) rfl)))
 obtain ⟨sa154_, se155_⟩ := arr_v (Jvm.Cond.before_iff.mp (hsets _ (List.mem_of_getElem? (i := 23) rfl)))
 have sf156_ : Sta s s.heap nm12 "DEFAULTCAPACITY_EMPTY_ELEMENTDATA" nm19 (rr sa154_) := Sta.start se155_ (Or.inr ⟨(w47 hw), (hsets _ (List.mem_of_getElem? (i := 19) rfl))⟩)
 obtain ⟨sc157_, sc157_r⟩ := Arr.start se155_ (Jvm.Cond.before_iff.mp (hsets _ (List.mem_of_getElem? (i := 23) rfl)))
 have sf158_ : Exa s s.heap sa154_ nm19 := Exa.start se155_ (Jvm.Cond.before_iff.mp (hsets _ (List.mem_of_getElem? (i := 24) rfl)))
 obtain ⟨sa159_, se160_⟩ := exa_v (Jvm.Cond.before_iff.mp (hsets _ (List.mem_of_getElem? (i := 28) rfl)))
 have sf161_ : Sta s s.heap nm14 "EMPTY_LIST" "Ljava/util/ImmutableCollections$ListN;" (rr sa159_) := Sta.start se160_ (Or.inl (hsets _ (List.mem_of_getElem? (i := 27) rfl)))
 have sf162_ : Exa s s.heap sa159_ nm9 := Exa.start se160_ (Jvm.Cond.before_iff.mp (hsets _ (List.mem_of_getElem? (i := 28) rfl)))
 obtain ⟨sa163_, se164_⟩ := arr_v (Jvm.Cond.before_iff.mp (hsets _ (List.mem_of_getElem? (i := 29) rfl)))
 have sf165_ : Fld s s.heap sa159_ nm9 "elements" nm19 (rr sa163_) := Fld.start ((fld_at se160_).symm.trans se164_)
 obtain ⟨sc166_, sc166_r⟩ := Arr.start se164_ (Jvm.Cond.before_iff.mp (hsets _ (List.mem_of_getElem? (i := 29) rfl)))
 have sf167_ : Exa s s.heap sa163_ nm19 := Exa.start se164_ (Jvm.Cond.before_iff.mp (hsets _ (List.mem_of_getElem? (i := 30) rfl)))
 have se168_ : (Jvm.Term.field (Jvm.Term.static nm14 "EMPTY_LIST" "Ljava/util/ImmutableCollections$ListN;") nm9 "allowNulls" "Z").eval _ s none [] s = some (ii 0) := (Jvm.Cond.eq_int (beq_iff_eq.mpr (Jvm.Cond.before_iff.mp (hsets _ (List.mem_of_getElem? (i := 32) rfl)))) (Term.int_eval _))
 have sf169_ : Fld s s.heap sa159_ nm9 "allowNulls" "Z" (ii 0) := Fld.start ((fld_at se160_).symm.trans se168_)
 have se170_ : (Jvm.Term.static nm5 "$assertionsDisabled" "Z").eval _ s none [] s = some (ii 1) := (Jvm.Cond.eq_int (beq_iff_eq.mpr (Jvm.Cond.before_iff.mp (hsets _ (List.mem_of_getElem? (i := 37) rfl)))) (Term.int_eval _))
 have sf171_ : Sta s s.heap nm5 "$assertionsDisabled" "Z" (ii 1) := Sta.start se170_ (Or.inl (hsets _ (List.mem_of_getElem? (i := 36) rfl)))
 obtain ⟨sa172_, se173_⟩ := arr_v (Jvm.Cond.before_iff.mp (hsets _ (List.mem_of_getElem? (i := 41) rfl)))
 have sf174_ : Sta s s.heap nm5 "UNASSIGNED_STACK" nm16 (rr sa172_) := Sta.start se173_ (Or.inl (hsets _ (List.mem_of_getElem? (i := 39) rfl)))
 obtain ⟨sc175_, sc175_r⟩ := Arr.start se173_ (Jvm.Cond.before_iff.mp (hsets _ (List.mem_of_getElem? (i := 41) rfl)))
 obtain ⟨sa176_, se177_⟩ := exa_v (Jvm.Cond.before_iff.mp (hsets _ (List.mem_of_getElem? (i := 46) rfl)))
 have sf178_ : Sta s s.heap nm5 "SUPPRESSED_SENTINEL" nm10 (rr sa176_) := Sta.start se177_ (Or.inl (hsets _ (List.mem_of_getElem? (i := 44) rfl)))
 have sf179_ : Exa s s.heap sa176_ "java/util/Collections$EmptyList" := Exa.start se177_ (Jvm.Cond.before_iff.mp (hsets _ (List.mem_of_getElem? (i := 46) rfl)))
 obtain ⟨sa180_, se181_⟩ := arr_v (Jvm.Cond.before_iff.mp (hsets _ (List.mem_of_getElem? (i := 51) rfl)))
 have sf182_ : Sta s s.heap nm5 "EMPTY_THROWABLE_ARRAY" "[Ljava/lang/Throwable;" (rr sa180_) := Sta.start se181_ (Or.inl (hsets _ (List.mem_of_getElem? (i := 49) rfl)))
 obtain ⟨sc183_, sc183_r⟩ := Arr.start se181_ (Jvm.Cond.before_iff.mp (hsets _ (List.mem_of_getElem? (i := 51) rfl)))
 obtain ⟨sv184_, se185_, sv184_r⟩ := isR_v (Jvm.Cond.before_iff.mp (hsets _ (List.mem_of_getElem? (i := 16) rfl)))
 have sf186_ : Sta s s.heap "jdk/internal/util/Preconditions" "SIOOBE_FORMATTER" "Ljava/util/function/BiFunction;" sv184_ := Sta.start se185_ (Or.inl (hsets _ (List.mem_of_getElem? (i := 15) rfl)))
 obtain ⟨sl187_a, sl187_b⟩ := own_len se150_ sc152_r (Jvm.Cond.eq_int (beq_iff_eq.mpr (Jvm.Cond.before_iff.mp (hsets _ (List.mem_of_getElem? (i := 22) rfl)))) (Term.int_eval _))
 obtain ⟨sk188_, sk188_q⟩ : ∃ z, z = sc152_.cls := ⟨_, rfl⟩
 have sf189_ : Arv s s.heap sa149_ sk188_ (.object nm8) (0 : Int32) [] .null := by rw [sk188_q]; exact Arv.start hfit sc152_r sl187_a sl187_b (by decide) rfl trivial
 obtain ⟨sl190_a, sl190_b⟩ := own_len se155_ sc157_r (Jvm.Cond.eq_int (beq_iff_eq.mpr (Jvm.Cond.before_iff.mp (hsets _ (List.mem_of_getElem? (i := 25) rfl)))) (Term.int_eval _))
 obtain ⟨sk191_, sk191_q⟩ : ∃ z, z = sc157_.cls := ⟨_, rfl⟩
 have sf192_ : Arv s s.heap sa154_ sk191_ (.object nm8) (0 : Int32) [] .null := by rw [sk191_q]; exact Arv.start hfit sc157_r sl190_a sl190_b (by decide) rfl trivial
 obtain ⟨sl193_a, sl193_b⟩ := own_len se164_ sc166_r (Jvm.Cond.eq_int (beq_iff_eq.mpr (Jvm.Cond.before_iff.mp (hsets _ (List.mem_of_getElem? (i := 31) rfl)))) (Term.int_eval _))
 obtain ⟨sk194_, sk194_q⟩ : ∃ z, z = sc166_.cls := ⟨_, rfl⟩
 have sf195_ : Arv s s.heap sa163_ sk194_ (.object nm8) (0 : Int32) [] .null := by rw [sk194_q]; exact Arv.start hfit sc166_r sl193_a sl193_b (by decide) rfl trivial
 obtain ⟨sl196_a, sl196_b⟩ := own_len se173_ sc175_r (Jvm.Cond.eq_int (beq_iff_eq.mpr (Jvm.Cond.before_iff.mp (hsets _ (List.mem_of_getElem? (i := 42) rfl)))) (Term.int_eval _))
 obtain ⟨sk197_, sk197_q⟩ : ∃ z, z = sc175_.cls := ⟨_, rfl⟩
 have sf198_ : Arv s s.heap sa172_ sk197_ (.object nm18) (0 : Int32) [] .null := by rw [sk197_q]; exact Arv.start hfit sc175_r sl196_a sl196_b (by decide) rfl trivial
 obtain ⟨sl199_a, sl199_b⟩ := own_len se181_ sc183_r (Jvm.Cond.eq_int (beq_iff_eq.mpr (Jvm.Cond.before_iff.mp (hsets _ (List.mem_of_getElem? (i := 52) rfl)))) (Term.int_eval _))
 obtain ⟨sk200_, sk200_q⟩ : ∃ z, z = sc183_.cls := ⟨_, rfl⟩
 have sf201_ : Arv s s.heap sa180_ sk200_ (.object nm5) (0 : Int32) [] .null := by rw [sk200_q]; exact Arv.start hfit sc183_r sl199_a sl199_b (by decide) rfl trivial
 obtain ⟨sl202_a, sl202_b⟩ := own_len se140_ sc142_r (Jvm.Cond.eq_int (beq_iff_eq.mpr (Jvm.Cond.before_iff.mp (hsets _ (List.mem_of_getElem? (i := 6) rfl)))) (Term.int_eval _))
 have sb203_ : Bxs s sa139_ sc142_ nm11 "I" (256 : Int32) (fun j => .int (j - (128 : Int32))) := Bxs.start (own_stx se140_) sc142_r sl202_a sl202_b (by decide) (Jvm.Cond.before_iff.mp (hsets _ (List.mem_of_getElem? (i := 7) rfl))) (fun X j nn hq => eqv_i (Term.sub_int (idx_at nn) (Term.int_eval _)) hq)
 have hst : l.stackTraces = true := by unfold Launch.stackTraces; rw [hfl]; decide
 obtain ⟨n, o, h1, h2, h3, _, L, rfl, ⟨rfl, N, -⟩, hq⟩ := rm_law l s _ hw tables_1 i0 i1 i2 i3 i4 sa45_ sa49_ sa53_ sa57_ sa61_ sa65_ sa69_ sa73_ sa77_ sa81_ sa85_ sa89_ sa93_ sa97_ sa101_ sa105_ sa109_ sa113_ sa117_ sa121_ sa125_ sa129_ sa133_ sa139_ si144_ sa149_ sa154_ sa159_ sa163_ sa172_ sa176_ sa180_ sv184_ sk188_ sk191_ sk194_ sk197_ sk200_ sc142_ s.heap s.heap.size (Old.start s) sf47_ sf48_ sf51_ sf52_ sf55_ sf56_ sf59_ sf60_ sf63_ sf64_ sf67_ sf68_ sf71_ sf72_ sf75_ sf76_ sf79_ sf80_ sf83_ sf84_ sf87_ sf88_ sf91_ sf92_ sf95_ sf96_ sf99_ sf100_ sf103_ sf104_ sf107_ sf108_ sf111_ sf112_ sf115_ sf116_ sf119_ sf120_ sf123_ sf124_ sf127_ sf128_ sf131_ sf132_ sf135_ sf136_ sf138_ sf141_ sf143_ sf146_ sr148_ sf151_ sf153_ sf156_ sf158_ sf161_ sf162_ sf165_ sf167_ sf169_ sf171_ sf174_ sf178_ sf179_ sf182_ sv184_r sf186_ sf189_ sf192_ sf195_ sf198_ sf201_ sb203_ hst p e ha hc hk s m _ below hf ((Spec.applies_iff_loose hf).mp happ).1 ⟨rfl, State.Warmed39.refl s, rfl⟩ ⟨hcalls.1, hcalls.2.1⟩
 refine ⟨n, _, h1, h2, h3, hpost _ _ _ _ _ _ ⟨Jvm.Cond.after_iff.mpr rfl, Jvm.Cond.after_iff.mpr (eq_i res_at (Term.int_eval (1)) rfl), trivial⟩ ⟨hq.1, hq.2.1, hq.2.2.1, (hq.2.2.2.sift fun y hy => Or.inr (N y hy)).mono (by decide) (by decide)⟩⟩
theorem main_1_1 : Claimed_1_1 := comes_1 fun _ _ _ _ _ _ h hF => ⟨h.1, hF⟩
theorem main_1_2 : Claimed_1_2 := comes_1 fun _ _ _ _ _ _ h hF => ⟨h.2.1, hF⟩
end Jvm.Pilot.@@N@@
namespace Jvm.Pilot.@@N@@
open Jvm Jvm.ClassFile Sem Op Lib Jvm.Free Jvm.Stand Jvm.Pilot.@@N@@.Jvm.D
/-! MADE BY PROGRAM (witnessworld.py) out of the Statement's table words and the real class files: 51 classes; the members and pool entries that the words name. The judged class is class 1, her method 2. -/
namespace start1
open Jvm.ClassFile
def u (s : String) : CpInfo := .utf8 (stringToUtf16 s)
/-- a pool by its gaps: so many unusable entries, then the entry; so many at the end -/
def gap : Nat → List CpInfo → List CpInfo
  | 0, r => r
  | n + 1, r => .unusable :: gap n r
def poolList (es : List (Nat × CpInfo)) (last : Nat) : List CpInfo := es.foldr (fun e r => gap e.1 (e.2 :: r)) (gap last [])
def pool (es : List (Nat × CpInfo)) (last : Nat) : Array CpInfo := ⟨poolList es last⟩
def fileOf (pool : Array CpInfo) (this : Nat) (attrs : Array Attribute := #[]) (ms : Array MethodInfo := #[]) (fl : Nat := 33) (sup : Nat := 0) (ifs : Array Nat := #[]) (fds : Array FieldInfo := #[]) : ClassFile where
  minorVersion := 0
  majorVersion := 65
  constantPool := pool
  accessFlags := fl
  thisClass := this
  superClass := sup
  interfaces := ifs
  fields := fds
  methods := ms
  attributes := attrs
def plain (name : String) (sup : Option ClassId) : Class where
  name := name
  kind := .ordinary
  loader := none
  accessFlags := 33
  super := sup
  interfaces := #[]
  cf := none
  fields := #[]
  methods := #[]
  instanceTypes := #[]
  staticTypes := #[]
  resolved := #[]
  callSites := []
  init := .initialized
  statics := none
  mirror := none

def pool0 : Array CpInfo := pool [(5, u "<init>"), (0, u "()V"), (1, .class_ 10), (1, u "java/lang/Object")] 113

def k0c0 : Code := { maxStack := 0, maxLocals := 1, code := object_method_1_code, exceptionTable := #[], attributes := #[] }
def k0m0 : Method := { name := "<init>", desc := "()V", sig := { parameters := [], returnType := none }, accessFlags := 1, code := some k0c0 }
/-- java/lang/Object -/
def k0 : Class := { plain "java/lang/Object" none with
  accessFlags := 33
  interfaces := #[]
  cf := some (fileOf pool0 8 #[] #[{ accessFlags := 1, nameIndex := 5, descriptorIndex := 6, attributes := #[] }] 33 0 #[] #[])
  fields := #[]
  methods := #[k0m0]
  instanceTypes := #[]
  staticTypes := #[]
  resolved := Array.replicate 124 none
  statics := none }

def pool1 : Array CpInfo := pool [(2, .class_ 4), (0, .nameAndType 5 6), (0, u "java/lang/Object"), (0, u "<init>"), (0, u "()V"), (0, .fieldref 8 9), (0, .class_ 10), (0, .nameAndType 11 12), (0, u "com/example/rosterd/rosterd/core/Refusal"), (0, u "INVALID_ARGUMENT"), (0, u "Lcom/example/rosterd/rosterd/core/Refusal;"), (0, .fieldref 8 14), (0, .nameAndType 15 12), (0, u "FORBIDDEN"), (0, .fieldref 8 17), (0, .nameAndType 18 12), (0, u "DENIED_BY_GUARDRAIL"), (0, .fieldref 8 20), (0, .nameAndType 21 12), (0, u "NOT_FOUND"), (0, .fieldref 8 23), (0, .nameAndType 24 12), (0, u "POLICY_TOO_LARGE"), (0, .fieldref 8 26), (0, .nameAndType 27 12), (0, u "MALFORMED_POLICY_DOCUMENT"), (0, .fieldref 8 29), (0, .nameAndType 30 12), (0, u "INVALID_POLICY_DOCUMENT"), (0, .fieldref 8 32), (0, .nameAndType 33 12), (0, u "LOGIN_ID_TAKEN"), (0, .fieldref 8 35), (0, .nameAndType 36 12), (0, u "ALREADY_IN_ORGANIZATION"), (0, .fieldref 8 38), (0, .nameAndType 39 12), (0, u "NAME_TAKEN"), (0, .fieldref 8 41), (0, .nameAndType 42 12), (0, u "DEPTH_LIMIT_EXCEEDED"), (0, .fieldref 8 44), (0, .nameAndType 45 12), (0, u "ROOT_NOT_MODIFIABLE"), (0, .fieldref 8 47), (0, .nameAndType 48 12), (0, u "UNIT_NOT_EMPTY"), (0, .fieldref 8 50), (0, .nameAndType 51 12), (0, u "SYSTEM_POLICY_NOT_MODIFIABLE"), (0, .fieldref 8 53), (0, .nameAndType 54 12), (0, u "POLICY_IN_USE"), (0, .fieldref 8 56), (0, .nameAndType 57 12), (0, u "NOT_BOUND"), (0, .fieldref 8 59), (0, .nameAndType 60 12), (0, u "NOT_MEMBER"), (0, .fieldref 8 62), (0, .nameAndType 63 12), (0, u "DELEGATION_POLICY_EXISTS"), (0, .fieldref 8 65), (0, .nameAndType 66 12), (0, u "ACCOUNT_NOT_REMOVABLE"), (0, .fieldref 8 68), (0, .nameAndType 69 12), (0, u "ORGANIZATION_NOT_EMPTY"), (0, .fieldref 8 71), (0, .nameAndType 72 12), (0, u "NOT_IN_ORGANIZATION"), (0, .fieldref 8 74), (0, .nameAndType 75 12), (0, u "INVITATION_ALREADY_SENT"), (0, .fieldref 8 77), (0, .nameAndType 78 12), (0, u "INVITATION_NOT_PENDING"), (0, .integer 2147483647), (0, .methodref 81 82), (0, .class_ 83), (0, .nameAndType 84 85), (0, u "com/example/rosterd/rosterd/core/OutcomeSucceededPinLaw"), (0, u "pick"), (0, u "(I)Lcom/example/rosterd/rosterd/core/Refusal;"), (0, .methodref 87 88), (0, .class_ 89), (0, .nameAndType 90 91), (0, u "java/lang/Integer"), (0, u "valueOf"), (0, u "(I)Ljava/lang/Integer;"), (0, .class_ 93), (0, u "java/lang/String"), (0, .methodref 92 95), (0, .nameAndType 5 96), (0, u "([C)V"), (0, .class_ 98), (0, u "java/util/ArrayList"), (0, .methodref 97 3), (0, .class_ 101), (0, u "com/example/rosterd/rosterd/core/Outcome"), (0, .methodref 100 103), (0, .nameAndType 5 104), (0, u "(Ljava/lang/Object;Lcom/example/rosterd/rosterd/core/Refusal;Ljava/lang/String;Ljava/util/List;)V"), (0, .methodref 100 106), (0, .nameAndType 107 108), (0, u "succeeded"), (0, u "()Z"), (0, .methodref 100 110), (0, .nameAndType 111 112), (0, u "done"), (0, u "(Ljava/lang/Object;)Lcom/example/rosterd/rosterd/core/Outcome;"), (0, .class_ 114), (0, u "com/example/rosterd/rosterd/core/RosterException"), (0, .methodref 113 116), (0, .nameAndType 5 117), (0, u "(Lcom/example/rosterd/rosterd/core/Refusal;Ljava/lang/String;)V"), (0, .methodref 100 119), (0, .nameAndType 120 121), (0, u "refused"), (0, u "(Ljava/lang/Object;Lcom/example/rosterd/rosterd/core/RosterException;)Lcom/example/rosterd/rosterd/core/Outcome;"), (3, u "law"), (0, u "(IIIII)Z")] 6

def k1m0 : Method := { name := "<init>", desc := "()V", sig := { parameters := [], returnType := none }, accessFlags := 2, code := none }
def k1c1 : Code := { maxStack := 2, maxLocals := 1, code := method_2_code, exceptionTable := #[], attributes := #[] }
def k1m1 : Method := { name := "pick", desc := "(I)Lcom/example/rosterd/rosterd/core/Refusal;", sig := { parameters := [.int], returnType := some (.object "com/example/rosterd/rosterd/core/Refusal") }, accessFlags := 10, code := some k1c1 }
def k1c2 : Code := { maxStack := 6, maxLocals := 17, code := code, exceptionTable := #[], attributes := #[] }
def k1m2 : Method := { name := "law", desc := "(IIIII)Z", sig := { parameters := [.int, .int, .int, .int, .int], returnType := some .boolean }, accessFlags := 9, code := some k1c2 }
/-- com/example/rosterd/rosterd/core/OutcomeSucceededPinLaw -/
def k1 : Class := { plain "com/example/rosterd/rosterd/core/OutcomeSucceededPinLaw" (some 0) with
  accessFlags := 49
  interfaces := #[]
  cf := some (fileOf pool1 81 #[] #[{ accessFlags := 2, nameIndex := 5, descriptorIndex := 6, attributes := #[] }, { accessFlags := 10, nameIndex := 84, descriptorIndex := 85, attributes := #[] }, { accessFlags := 9, nameIndex := 125, descriptorIndex := 126, attributes := #[] }] 49 2 #[] #[])
  fields := #[]
  methods := #[k1m0, k1m1, k1m2]
  instanceTypes := #[]
  staticTypes := #[]
  resolved := Array.replicate 133 none
  statics := none }

def pool2 : Array CpInfo := pool [(1, .class_ 2), (0, u "java/lang/constant/Constable"), (0, .class_ 4), (0, u "java/lang/Object")] 6

/-- java/lang/constant/Constable -/
def k2 : Class := { plain "java/lang/constant/Constable" (some 0) with
  accessFlags := 1537
  interfaces := #[]
  cf := some (fileOf pool2 1 #[] #[] 1537 3 #[] #[])
  fields := #[]
  methods := #[]
  instanceTypes := #[]
  staticTypes := #[]
  resolved := Array.replicate 11 none
  statics := none }

def pool3 : Array CpInfo := pool [(1, .class_ 2), (0, u "java/lang/Comparable"), (0, .class_ 4), (0, u "java/lang/Object")] 7

/-- java/lang/Comparable -/
def k3 : Class := { plain "java/lang/Comparable" (some 0) with
  accessFlags := 1537
  interfaces := #[]
  cf := some (fileOf pool3 1 #[] #[] 1537 3 #[] #[])
  fields := #[]
  methods := #[]
  instanceTypes := #[]
  staticTypes := #[]
  resolved := Array.replicate 12 none
  statics := none }

def pool4 : Array CpInfo := pool [(1, .class_ 2), (0, u "java/io/Serializable"), (0, .class_ 4), (0, u "java/lang/Object")] 2

/-- java/io/Serializable -/
def k4 : Class := { plain "java/io/Serializable" (some 0) with
  accessFlags := 1537
  interfaces := #[]
  cf := some (fileOf pool4 1 #[] #[] 1537 3 #[] #[])
  fields := #[]
  methods := #[]
  instanceTypes := #[]
  staticTypes := #[]
  resolved := Array.replicate 7 none
  statics := none }

def pool5 : Array CpInfo := pool [(2, .class_ 4), (1, u "java/lang/Enum"), (0, u "name"), (0, u "Ljava/lang/String;"), (2, u "ordinal"), (0, u "I"), (1, .class_ 14), (1, u "java/lang/Object"), (4, u "hash"), (86, .class_ 108), (1, u "java/lang/Enum$EnumDesc"), (2, .class_ 112), (0, u "java/lang/constant/Constable"), (0, .class_ 114), (0, u "java/lang/Comparable"), (0, .class_ 116), (0, u "java/io/Serializable")] 87

/-- java/lang/Enum -/
def k5 : Class := { plain "java/lang/Enum" (some 0) with
  accessFlags := 1057
  interfaces := #[2, 3, 4]
  cf := some (fileOf pool5 2 #[.nestMembers #[106]] #[] 1057 12 #[111, 113, 115] #[{ accessFlags := 18, nameIndex := 5, descriptorIndex := 6, attributes := #[] }, { accessFlags := 18, nameIndex := 9, descriptorIndex := 10, attributes := #[] }, { accessFlags := 2, nameIndex := 19, descriptorIndex := 10, attributes := #[] }])
  fields := #[{ name := "name", type := (.object "java/lang/String"), accessFlags := 18, slot := 0, constantValue := 0 }, { name := "ordinal", type := .int, accessFlags := 18, slot := 1, constantValue := 0 }, { name := "hash", type := .int, accessFlags := 2, slot := 2, constantValue := 0 }]
  methods := #[]
  instanceTypes := #[(.object "java/lang/String"), .int, .int]
  staticTypes := #[]
  resolved := Array.replicate 204 none
  statics := none }

def pool6 : Array CpInfo := pool [(1, .class_ 2), (0, u "com/example/rosterd/rosterd/core/Refusal"), (2, u "INVALID_ARGUMENT"), (0, u "Lcom/example/rosterd/rosterd/core/Refusal;"), (2, u "FORBIDDEN"), (2, u "DENIED_BY_GUARDRAIL"), (2, u "NOT_FOUND"), (2, u "POLICY_TOO_LARGE"), (2, u "MALFORMED_POLICY_DOCUMENT"), (2, u "INVALID_POLICY_DOCUMENT"), (2, u "LOGIN_ID_TAKEN"), (2, u "ALREADY_IN_ORGANIZATION"), (2, u "NAME_TAKEN"), (2, u "DEPTH_LIMIT_EXCEEDED"), (2, u "ROOT_NOT_MODIFIABLE"), (2, u "UNIT_NOT_EMPTY"), (2, u "SYSTEM_POLICY_NOT_MODIFIABLE"), (2, u "POLICY_IN_USE"), (2, u "NOT_BOUND"), (2, u "NOT_MEMBER"), (2, u "DELEGATION_POLICY_EXISTS"), (2, u "ACCOUNT_NOT_REMOVABLE"), (2, u "ORGANIZATION_NOT_EMPTY"), (2, u "NOT_IN_ORGANIZATION"), (2, u "INVITATION_ALREADY_SENT"), (2, u "INVITATION_NOT_PENDING"), (2, u "$VALUES"), (0, u "[Lcom/example/rosterd/rosterd/core/Refusal;"), (6, .class_ 85), (1, u "java/lang/Enum"), (8, u "code"), (0, u "Ljava/lang/String;"), (2, u "kind"), (0, u "Lcom/example/rosterd/rosterd/core/Refusal$Kind;"), (4, .class_ 106), (1, u "com/example/rosterd/rosterd/core/Refusal$Kind")] 98

/-- com/example/rosterd/rosterd/core/Refusal -/
def k6 : Class := { plain "com/example/rosterd/rosterd/core/Refusal" (some 5) with
  accessFlags := 16433
  interfaces := #[]
  cf := some (fileOf pool6 1 #[.nestMembers #[104]] #[] 16433 83 #[] #[{ accessFlags := 16409, nameIndex := 5, descriptorIndex := 6, attributes := #[] }, { accessFlags := 16409, nameIndex := 9, descriptorIndex := 6, attributes := #[] }, { accessFlags := 16409, nameIndex := 12, descriptorIndex := 6, attributes := #[] }, { accessFlags := 16409, nameIndex := 15, descriptorIndex := 6, attributes := #[] }, { accessFlags := 16409, nameIndex := 18, descriptorIndex := 6, attributes := #[] }, { accessFlags := 16409, nameIndex := 21, descriptorIndex := 6, attributes := #[] }, { accessFlags := 16409, nameIndex := 24, descriptorIndex := 6, attributes := #[] }, { accessFlags := 16409, nameIndex := 27, descriptorIndex := 6, attributes := #[] }, { accessFlags := 16409, nameIndex := 30, descriptorIndex := 6, attributes := #[] }, { accessFlags := 16409, nameIndex := 33, descriptorIndex := 6, attributes := #[] }, { accessFlags := 16409, nameIndex := 36, descriptorIndex := 6, attributes := #[] }, { accessFlags := 16409, nameIndex := 39, descriptorIndex := 6, attributes := #[] }, { accessFlags := 16409, nameIndex := 42, descriptorIndex := 6, attributes := #[] }, { accessFlags := 16409, nameIndex := 45, descriptorIndex := 6, attributes := #[] }, { accessFlags := 16409, nameIndex := 48, descriptorIndex := 6, attributes := #[] }, { accessFlags := 16409, nameIndex := 51, descriptorIndex := 6, attributes := #[] }, { accessFlags := 16409, nameIndex := 54, descriptorIndex := 6, attributes := #[] }, { accessFlags := 16409, nameIndex := 57, descriptorIndex := 6, attributes := #[] }, { accessFlags := 16409, nameIndex := 60, descriptorIndex := 6, attributes := #[] }, { accessFlags := 16409, nameIndex := 63, descriptorIndex := 6, attributes := #[] }, { accessFlags := 16409, nameIndex := 66, descriptorIndex := 6, attributes := #[] }, { accessFlags := 16409, nameIndex := 69, descriptorIndex := 6, attributes := #[] }, { accessFlags := 16409, nameIndex := 72, descriptorIndex := 6, attributes := #[] }, { accessFlags := 18, nameIndex := 94, descriptorIndex := 95, attributes := #[] }, { accessFlags := 18, nameIndex := 98, descriptorIndex := 99, attributes := #[] }, { accessFlags := 4122, nameIndex := 75, descriptorIndex := 76, attributes := #[] }])
  fields := #[{ name := "INVALID_ARGUMENT", type := (.object "com/example/rosterd/rosterd/core/Refusal"), accessFlags := 16409, slot := 0, constantValue := 0 }, { name := "FORBIDDEN", type := (.object "com/example/rosterd/rosterd/core/Refusal"), accessFlags := 16409, slot := 1, constantValue := 0 }, { name := "DENIED_BY_GUARDRAIL", type := (.object "com/example/rosterd/rosterd/core/Refusal"), accessFlags := 16409, slot := 2, constantValue := 0 }, { name := "NOT_FOUND", type := (.object "com/example/rosterd/rosterd/core/Refusal"), accessFlags := 16409, slot := 3, constantValue := 0 }, { name := "POLICY_TOO_LARGE", type := (.object "com/example/rosterd/rosterd/core/Refusal"), accessFlags := 16409, slot := 4, constantValue := 0 }, { name := "MALFORMED_POLICY_DOCUMENT", type := (.object "com/example/rosterd/rosterd/core/Refusal"), accessFlags := 16409, slot := 5, constantValue := 0 }, { name := "INVALID_POLICY_DOCUMENT", type := (.object "com/example/rosterd/rosterd/core/Refusal"), accessFlags := 16409, slot := 6, constantValue := 0 }, { name := "LOGIN_ID_TAKEN", type := (.object "com/example/rosterd/rosterd/core/Refusal"), accessFlags := 16409, slot := 7, constantValue := 0 }, { name := "ALREADY_IN_ORGANIZATION", type := (.object "com/example/rosterd/rosterd/core/Refusal"), accessFlags := 16409, slot := 8, constantValue := 0 }, { name := "NAME_TAKEN", type := (.object "com/example/rosterd/rosterd/core/Refusal"), accessFlags := 16409, slot := 9, constantValue := 0 }, { name := "DEPTH_LIMIT_EXCEEDED", type := (.object "com/example/rosterd/rosterd/core/Refusal"), accessFlags := 16409, slot := 10, constantValue := 0 }, { name := "ROOT_NOT_MODIFIABLE", type := (.object "com/example/rosterd/rosterd/core/Refusal"), accessFlags := 16409, slot := 11, constantValue := 0 }, { name := "UNIT_NOT_EMPTY", type := (.object "com/example/rosterd/rosterd/core/Refusal"), accessFlags := 16409, slot := 12, constantValue := 0 }, { name := "SYSTEM_POLICY_NOT_MODIFIABLE", type := (.object "com/example/rosterd/rosterd/core/Refusal"), accessFlags := 16409, slot := 13, constantValue := 0 }, { name := "POLICY_IN_USE", type := (.object "com/example/rosterd/rosterd/core/Refusal"), accessFlags := 16409, slot := 14, constantValue := 0 }, { name := "NOT_BOUND", type := (.object "com/example/rosterd/rosterd/core/Refusal"), accessFlags := 16409, slot := 15, constantValue := 0 }, { name := "NOT_MEMBER", type := (.object "com/example/rosterd/rosterd/core/Refusal"), accessFlags := 16409, slot := 16, constantValue := 0 }, { name := "DELEGATION_POLICY_EXISTS", type := (.object "com/example/rosterd/rosterd/core/Refusal"), accessFlags := 16409, slot := 17, constantValue := 0 }, { name := "ACCOUNT_NOT_REMOVABLE", type := (.object "com/example/rosterd/rosterd/core/Refusal"), accessFlags := 16409, slot := 18, constantValue := 0 }, { name := "ORGANIZATION_NOT_EMPTY", type := (.object "com/example/rosterd/rosterd/core/Refusal"), accessFlags := 16409, slot := 19, constantValue := 0 }, { name := "NOT_IN_ORGANIZATION", type := (.object "com/example/rosterd/rosterd/core/Refusal"), accessFlags := 16409, slot := 20, constantValue := 0 }, { name := "INVITATION_ALREADY_SENT", type := (.object "com/example/rosterd/rosterd/core/Refusal"), accessFlags := 16409, slot := 21, constantValue := 0 }, { name := "INVITATION_NOT_PENDING", type := (.object "com/example/rosterd/rosterd/core/Refusal"), accessFlags := 16409, slot := 22, constantValue := 0 }, { name := "code", type := (.object "java/lang/String"), accessFlags := 18, slot := 3, constantValue := 0 }, { name := "kind", type := (.object "com/example/rosterd/rosterd/core/Refusal$Kind"), accessFlags := 18, slot := 4, constantValue := 0 }, { name := "$VALUES", type := (.array (.object "com/example/rosterd/rosterd/core/Refusal")), accessFlags := 4122, slot := 23, constantValue := 0 }]
  methods := #[]
  instanceTypes := #[(.object "java/lang/String"), .int, .int, (.object "java/lang/String"), (.object "com/example/rosterd/rosterd/core/Refusal$Kind")]
  staticTypes := #[(.object "com/example/rosterd/rosterd/core/Refusal"), (.object "com/example/rosterd/rosterd/core/Refusal"), (.object "com/example/rosterd/rosterd/core/Refusal"), (.object "com/example/rosterd/rosterd/core/Refusal"), (.object "com/example/rosterd/rosterd/core/Refusal"), (.object "com/example/rosterd/rosterd/core/Refusal"), (.object "com/example/rosterd/rosterd/core/Refusal"), (.object "com/example/rosterd/rosterd/core/Refusal"), (.object "com/example/rosterd/rosterd/core/Refusal"), (.object "com/example/rosterd/rosterd/core/Refusal"), (.object "com/example/rosterd/rosterd/core/Refusal"), (.object "com/example/rosterd/rosterd/core/Refusal"), (.object "com/example/rosterd/rosterd/core/Refusal"), (.object "com/example/rosterd/rosterd/core/Refusal"), (.object "com/example/rosterd/rosterd/core/Refusal"), (.object "com/example/rosterd/rosterd/core/Refusal"), (.object "com/example/rosterd/rosterd/core/Refusal"), (.object "com/example/rosterd/rosterd/core/Refusal"), (.object "com/example/rosterd/rosterd/core/Refusal"), (.object "com/example/rosterd/rosterd/core/Refusal"), (.object "com/example/rosterd/rosterd/core/Refusal"), (.object "com/example/rosterd/rosterd/core/Refusal"), (.object "com/example/rosterd/rosterd/core/Refusal"), (.array (.object "com/example/rosterd/rosterd/core/Refusal"))]
  resolved := Array.replicate 205 none
  statics := some 0 }

def pool7 : Array CpInfo := pool [(1, .methodref 2 3), (0, .class_ 4), (0, .nameAndType 5 6), (0, u "java/lang/Object"), (0, u "<init>"), (0, u "()V"), (1, .class_ 10), (1, u "java/lang/Number"), (2, .class_ 14), (0, u "java/io/Serializable"), (0, u "serialVersionUID"), (0, u "J")] 20

def k7c0 : Code := { maxStack := 1, maxLocals := 1, code := jdk_18_method_1_code, exceptionTable := #[], attributes := #[] }
def k7m0 : Method := { name := "<init>", desc := "()V", sig := { parameters := [], returnType := none }, accessFlags := 1, code := some k7c0 }
/-- java/lang/Number -/
def k7 : Class := { plain "java/lang/Number" (some 0) with
  accessFlags := 1057
  interfaces := #[4]
  cf := some (fileOf pool7 8 #[] #[{ accessFlags := 1, nameIndex := 5, descriptorIndex := 6, attributes := #[] }] 1057 2 #[13] #[{ accessFlags := 26, nameIndex := 15, descriptorIndex := 16, attributes := #[] }])
  fields := #[{ name := "serialVersionUID", type := .long, accessFlags := 26, slot := 0, constantValue := 0 }]
  methods := #[k7m0]
  instanceTypes := #[]
  staticTypes := #[.long]
  resolved := Array.replicate 37 none
  statics := none }

def pool8 : Array CpInfo := pool [(1, .class_ 2), (0, u "java/lang/constant/ConstantDesc"), (0, .class_ 4), (0, u "java/lang/Object")] 32

/-- java/lang/constant/ConstantDesc -/
def k8 : Class := { plain "java/lang/constant/ConstantDesc" (some 0) with
  accessFlags := 1537
  interfaces := #[]
  cf := some (fileOf pool8 1 #[] #[] 1537 3 #[] #[])
  fields := #[]
  methods := #[]
  instanceTypes := #[]
  staticTypes := #[]
  resolved := Array.replicate 37 none
  statics := none }

def pool9 : Array CpInfo := pool [(1, .class_ 2), (0, u "java/lang/Integer"), (16, u "digits"), (0, u "[C"), (46, u "<init>"), (17, u "DigitOnes"), (0, u "[B"), (2, u "DigitTens"), (10, .nameAndType 67 101), (0, u "()V"), (85, u "valueOf"), (0, u "(I)Ljava/lang/Integer;"), (0, .class_ 190), (0, u "java/lang/Integer$IntegerCache"), (0, .fieldref 189 192), (0, .nameAndType 193 194), (0, u "high"), (0, u "I"), (0, .fieldref 189 196), (0, .nameAndType 197 198), (0, u "cache"), (0, u "[Ljava/lang/Integer;"), (0, .methodref 1 200), (0, .nameAndType 67 201), (0, u "(I)V"), (0, .methodref 203 100), (0, .class_ 204), (0, u "java/lang/Number"), (0, .fieldref 1 206), (0, .nameAndType 207 194), (0, u "value"), (94, u "TYPE"), (0, u "Ljava/lang/Class;"), (0, .class_ 305), (0, u "java/lang/Comparable"), (0, .class_ 307), (0, u "java/lang/constant/Constable"), (0, .class_ 309), (0, u "java/lang/constant/ConstantDesc"), (0, u "MIN_VALUE"), (1, u "MAX_VALUE"), (3, u "SIZE"), (1, u "BYTES"), (1, u "serialVersionUID"), (0, u "J")] 131

def k9c0 : Code := { maxStack := 3, maxLocals := 1, code := jdk_33_method_22_code, exceptionTable := #[], attributes := #[] }
def k9m0 : Method := { name := "valueOf", desc := "(I)Ljava/lang/Integer;", sig := { parameters := [.int], returnType := some (.object "java/lang/Integer") }, accessFlags := 9, code := some k9c0 }
def k9c1 : Code := { maxStack := 2, maxLocals := 2, code := jdk_33_method_23_code, exceptionTable := #[], attributes := #[] }
def k9m1 : Method := { name := "<init>", desc := "(I)V", sig := { parameters := [.int], returnType := none }, accessFlags := 1, code := some k9c1 }
/-- java/lang/Integer -/
def k9 : Class := { plain "java/lang/Integer" (some 7) with
  accessFlags := 49
  interfaces := #[3, 2, 8]
  cf := some (fileOf pool9 1 #[.nestMembers #[189]] #[{ accessFlags := 9, nameIndex := 187, descriptorIndex := 188, attributes := #[] }, { accessFlags := 1, nameIndex := 67, descriptorIndex := 201, attributes := #[] }] 49 203 #[304, 306, 308] #[{ accessFlags := 25, nameIndex := 310, descriptorIndex := 194, attributes := #[] }, { accessFlags := 25, nameIndex := 312, descriptorIndex := 194, attributes := #[] }, { accessFlags := 25, nameIndex := 302, descriptorIndex := 303, attributes := #[] }, { accessFlags := 24, nameIndex := 19, descriptorIndex := 20, attributes := #[] }, { accessFlags := 24, nameIndex := 89, descriptorIndex := 86, attributes := #[] }, { accessFlags := 24, nameIndex := 85, descriptorIndex := 86, attributes := #[] }, { accessFlags := 18, nameIndex := 207, descriptorIndex := 194, attributes := #[] }, { accessFlags := 25, nameIndex := 316, descriptorIndex := 194, attributes := #[] }, { accessFlags := 25, nameIndex := 318, descriptorIndex := 194, attributes := #[] }, { accessFlags := 26, nameIndex := 320, descriptorIndex := 321, attributes := #[] }])
  fields := #[{ name := "MIN_VALUE", type := .int, accessFlags := 25, slot := 0, constantValue := 0 }, { name := "MAX_VALUE", type := .int, accessFlags := 25, slot := 1, constantValue := 0 }, { name := "TYPE", type := (.object "java/lang/Class"), accessFlags := 25, slot := 2, constantValue := 0 }, { name := "digits", type := (.array .char), accessFlags := 24, slot := 3, constantValue := 0 }, { name := "DigitTens", type := (.array .byte), accessFlags := 24, slot := 4, constantValue := 0 }, { name := "DigitOnes", type := (.array .byte), accessFlags := 24, slot := 5, constantValue := 0 }, { name := "value", type := .int, accessFlags := 18, slot := 0, constantValue := 0 }, { name := "SIZE", type := .int, accessFlags := 25, slot := 6, constantValue := 0 }, { name := "BYTES", type := .int, accessFlags := 25, slot := 7, constantValue := 0 }, { name := "serialVersionUID", type := .long, accessFlags := 26, slot := 8, constantValue := 0 }]
  methods := #[k9m0, k9m1]
  instanceTypes := #[.int]
  staticTypes := #[.int, .int, (.object "java/lang/Class"), (.array .char), (.array .byte), (.array .byte), .int, .int, .long]
  resolved := Array.replicate 453 none
  statics := none }

def pool10 : Array CpInfo := pool [(2, .class_ 4), (1, u "java/lang/Object"), (0, u "<init>"), (0, u "()V"), (0, .class_ 8), (0, u "java/lang/Integer"), (7, .class_ 18), (1, u "java/lang/Integer$IntegerCache"), (0, u "$assertionsDisabled"), (0, u "Z"), (26, u "high"), (0, u "I"), (8, u "archivedCache"), (0, u "[Ljava/lang/Integer;"), (12, u "cache"), (0, u "low")] 27

def k10m0 : Method := { name := "<init>", desc := "()V", sig := { parameters := [], returnType := none }, accessFlags := 2, code := none }
/-- java/lang/Integer$IntegerCache -/
def k10 : Class := { plain "java/lang/Integer$IntegerCache" (some 0) with
  accessFlags := 48
  interfaces := #[]
  cf := some (fileOf pool10 16 #[.nestHost 7] #[{ accessFlags := 2, nameIndex := 5, descriptorIndex := 6, attributes := #[] }] 48 2 #[] #[{ accessFlags := 24, nameIndex := 72, descriptorIndex := 48, attributes := #[] }, { accessFlags := 24, nameIndex := 47, descriptorIndex := 48, attributes := #[] }, { accessFlags := 24, nameIndex := 71, descriptorIndex := 58, attributes := #[] }, { accessFlags := 8, nameIndex := 57, descriptorIndex := 58, attributes := #[] }, { accessFlags := 4120, nameIndex := 19, descriptorIndex := 20, attributes := #[] }])
  fields := #[{ name := "low", type := .int, accessFlags := 24, slot := 0, constantValue := 0 }, { name := "high", type := .int, accessFlags := 24, slot := 1, constantValue := 0 }, { name := "cache", type := (.array (.object "java/lang/Integer")), accessFlags := 24, slot := 2, constantValue := 0 }, { name := "archivedCache", type := (.array (.object "java/lang/Integer")), accessFlags := 8, slot := 3, constantValue := 0 }, { name := "$assertionsDisabled", type := .boolean, accessFlags := 4120, slot := 4, constantValue := 0 }]
  methods := #[k10m0]
  instanceTypes := #[]
  staticTypes := #[.int, .int, (.array (.object "java/lang/Integer")), (.array (.object "java/lang/Integer")), .boolean]
  resolved := Array.replicate 100 none
  statics := some 1 }

def pool11 : Array CpInfo := pool [(2, .class_ 4), (1, u "java/lang/CharSequence"), (42, .class_ 48), (0, u "java/lang/CharSequence$1CodePointIterator"), (10, .class_ 60), (0, u "java/lang/CharSequence$1CharIterator"), (5, .class_ 67), (0, u "java/lang/Object")] 63

/-- java/lang/CharSequence -/
def k11 : Class := { plain "java/lang/CharSequence" (some 0) with
  accessFlags := 1537
  interfaces := #[]
  cf := some (fileOf pool11 2 #[.nestMembers #[47, 59]] #[] 1537 66 #[] #[])
  fields := #[]
  methods := #[]
  instanceTypes := #[]
  staticTypes := #[]
  resolved := Array.replicate 131 none
  statics := none }

def pool12 : Array CpInfo := pool [(1, .methodref 2 3), (0, .class_ 4), (0, .nameAndType 5 6), (0, u "java/lang/Object"), (0, u "<init>"), (0, u "()V"), (2, .fieldref 10 11), (0, .class_ 12), (0, .nameAndType 13 14), (0, u "java/lang/String"), (0, u "value"), (0, u "[B"), (0, .fieldref 10 16), (0, .nameAndType 17 18), (0, u "coder"), (0, u "B"), (2, u "hash"), (0, u "I"), (2, u "hashIsZero"), (0, u "Z"), (0, .methodref 10 28), (0, .nameAndType 5 29), (0, u "([CIILjava/lang/Void;)V"), (8, .fieldref 10 39), (0, .nameAndType 40 26), (0, u "COMPACT_STRINGS"), (1, .class_ 44), (1, u "java/lang/StringUTF16"), (0, u "compress"), (1, .methodref 42 48), (0, .nameAndType 49 50), (0, u "coderFromArrayLen"), (0, u "([BI)B"), (126, .methodref 42 178), (0, .nameAndType 45 179), (0, u "([CII)[B"), (395, .class_ 576), (0, u "java/lang/CharSequence"), (22, u "CASE_INSENSITIVE_ORDER"), (0, u "Ljava/util/Comparator;"), (409, u "([C)V"), (90, u "serialPersistentFields"), (0, u "[Ljava/io/ObjectStreamField;"), (0, .class_ 1104), (0, u "java/lang/String$CaseInsensitiveComparator"), (1, .class_ 1107), (0, u "java/io/Serializable"), (0, .class_ 1109), (0, u "java/lang/Comparable"), (0, .class_ 1111), (0, u "java/lang/constant/Constable"), (0, .class_ 1113), (0, u "java/lang/constant/ConstantDesc"), (2, u "serialVersionUID"), (0, u "J"), (3, u "REPL"), (0, u "C"), (2, u "LATIN1"), (1, u "UTF16")] 323

def k12m0 : Method := { name := "<init>", desc := "()V", sig := { parameters := [], returnType := none }, accessFlags := 1, code := none }
def k12c1 : Code := { maxStack := 5, maxLocals := 2, code := jdk_42_method_3_code, exceptionTable := #[], attributes := #[] }
def k12m1 : Method := { name := "<init>", desc := "([C)V", sig := { parameters := [(.array .char)], returnType := none }, accessFlags := 1, code := some k12c1 }
def k12c2 : Code := { maxStack := 4, maxLocals := 6, code := jdk_42_method_149_code, exceptionTable := #[], attributes := #[] }
def k12m2 : Method := { name := "<init>", desc := "([CIILjava/lang/Void;)V", sig := { parameters := [(.array .char), .int, .int, (.object "java/lang/Void")], returnType := none }, accessFlags := 2, code := some k12c2 }
/-- java/lang/String -/
def k12 : Class := { plain "java/lang/String" (some 0) with
  accessFlags := 49
  interfaces := #[4, 3, 11, 2, 8]
  cf := some (fileOf pool12 10 #[.nestMembers #[1103]] #[{ accessFlags := 1, nameIndex := 5, descriptorIndex := 6, attributes := #[] }, { accessFlags := 1, nameIndex := 5, descriptorIndex := 1010, attributes := #[] }, { accessFlags := 2, nameIndex := 5, descriptorIndex := 29, attributes := #[] }] 49 2 #[1106, 1108, 575, 1110, 1112] #[{ accessFlags := 18, nameIndex := 13, descriptorIndex := 14, attributes := #[] }, { accessFlags := 18, nameIndex := 17, descriptorIndex := 18, attributes := #[] }, { accessFlags := 2, nameIndex := 21, descriptorIndex := 22, attributes := #[] }, { accessFlags := 2, nameIndex := 25, descriptorIndex := 26, attributes := #[] }, { accessFlags := 26, nameIndex := 1116, descriptorIndex := 1117, attributes := #[] }, { accessFlags := 24, nameIndex := 40, descriptorIndex := 26, attributes := #[] }, { accessFlags := 26, nameIndex := 1101, descriptorIndex := 1102, attributes := #[] }, { accessFlags := 26, nameIndex := 1121, descriptorIndex := 1122, attributes := #[] }, { accessFlags := 25, nameIndex := 599, descriptorIndex := 600, attributes := #[] }, { accessFlags := 24, nameIndex := 1125, descriptorIndex := 18, attributes := #[] }, { accessFlags := 24, nameIndex := 1127, descriptorIndex := 18, attributes := #[] }])
  fields := #[{ name := "value", type := (.array .byte), accessFlags := 18, slot := 0, constantValue := 0 }, { name := "coder", type := .byte, accessFlags := 18, slot := 1, constantValue := 0 }, { name := "hash", type := .int, accessFlags := 2, slot := 2, constantValue := 0 }, { name := "hashIsZero", type := .boolean, accessFlags := 2, slot := 3, constantValue := 0 }, { name := "serialVersionUID", type := .long, accessFlags := 26, slot := 0, constantValue := 0 }, { name := "COMPACT_STRINGS", type := .boolean, accessFlags := 24, slot := 1, constantValue := 0 }, { name := "serialPersistentFields", type := (.array (.object "java/io/ObjectStreamField")), accessFlags := 26, slot := 2, constantValue := 0 }, { name := "REPL", type := .char, accessFlags := 26, slot := 3, constantValue := 0 }, { name := "CASE_INSENSITIVE_ORDER", type := (.object "java/util/Comparator"), accessFlags := 25, slot := 4, constantValue := 0 }, { name := "LATIN1", type := .byte, accessFlags := 24, slot := 5, constantValue := 0 }, { name := "UTF16", type := .byte, accessFlags := 24, slot := 6, constantValue := 0 }]
  methods := #[k12m0, k12m1, k12m2]
  instanceTypes := #[(.array .byte), .byte, .int, .boolean]
  staticTypes := #[.long, .boolean, (.array (.object "java/io/ObjectStreamField")), .char, (.object "java/util/Comparator"), .byte, .byte]
  resolved := Array.replicate 1451 none
  statics := some 2 }

def pool13 : Array CpInfo := pool [(6, .class_ 8), (1, u "java/lang/Object"), (0, u "<init>"), (0, u "()V"), (1, .class_ 14), (1, u "java/lang/StringUTF16"), (31, u "$assertionsDisabled"), (0, u "Z"), (13, u "HI_BYTE_SHIFT"), (0, u "I"), (2, u "LO_BYTE_SHIFT"), (49, .methodref 12 116), (0, .nameAndType 117 118), (0, u "compress"), (0, u "([CI[BII)I"), (3, u "([CII)[B"), (138, u "coderFromArrayLen"), (0, u "([BI)B"), (106, .class_ 371), (1, u "java/lang/StringUTF16$LinesSpliterator"), (58, u "MAX_LENGTH"), (196, .class_ 628), (0, u "java/lang/StringUTF16$CodePointsSpliterator"), (0, .class_ 630), (0, u "java/lang/StringUTF16$CharsSpliterator")] 4

def k13m0 : Method := { name := "<init>", desc := "()V", sig := { parameters := [], returnType := none }, accessFlags := 0, code := none }
def k13c1 : Code := { maxStack := 2, maxLocals := 2, code := jdk_52_method_15_code, exceptionTable := #[], attributes := #[] }
def k13m1 : Method := { name := "coderFromArrayLen", desc := "([BI)B", sig := { parameters := [(.array .byte), .int], returnType := some .byte }, accessFlags := 8, code := some k13c1 }
def k13c2 : Code := { maxStack := 5, maxLocals := 6, code := jdk_52_method_16_code, exceptionTable := #[], attributes := #[] }
def k13m2 : Method := { name := "compress", desc := "([CII)[B", sig := { parameters := [(.array .char), .int, .int], returnType := some (.array .byte) }, accessFlags := 9, code := some k13c2 }
def k13c3 : Code := { maxStack := 3, maxLocals := 7, code := jdk_52_method_21_code, exceptionTable := #[], attributes := #[] }
def k13m3 : Method := { name := "compress", desc := "([CI[BII)I", sig := { parameters := [(.array .char), .int, (.array .byte), .int, .int], returnType := some .int }, accessFlags := 9, code := some k13c3 }
/-- java/lang/StringUTF16 -/
def k13 : Class := { plain "java/lang/StringUTF16" (some 0) with
  accessFlags := 48
  interfaces := #[]
  cf := some (fileOf pool13 12 #[.nestMembers #[627, 629, 369]] #[{ accessFlags := 0, nameIndex := 9, descriptorIndex := 10, attributes := #[] }, { accessFlags := 8, nameIndex := 261, descriptorIndex := 262, attributes := #[] }, { accessFlags := 9, nameIndex := 117, descriptorIndex := 122, attributes := #[] }, { accessFlags := 9, nameIndex := 117, descriptorIndex := 118, attributes := #[] }] 48 6 #[] #[{ accessFlags := 26, nameIndex := 61, descriptorIndex := 62, attributes := #[] }, { accessFlags := 26, nameIndex := 65, descriptorIndex := 62, attributes := #[] }, { accessFlags := 24, nameIndex := 430, descriptorIndex := 62, attributes := #[] }, { accessFlags := 4120, nameIndex := 46, descriptorIndex := 47, attributes := #[] }])
  fields := #[{ name := "HI_BYTE_SHIFT", type := .int, accessFlags := 26, slot := 0, constantValue := 0 }, { name := "LO_BYTE_SHIFT", type := .int, accessFlags := 26, slot := 1, constantValue := 0 }, { name := "MAX_LENGTH", type := .int, accessFlags := 24, slot := 2, constantValue := 0 }, { name := "$assertionsDisabled", type := .boolean, accessFlags := 4120, slot := 3, constantValue := 0 }]
  methods := #[k13m0, k13m1, k13m2, k13m3]
  instanceTypes := #[]
  staticTypes := #[.int, .int, .int, .boolean]
  resolved := Array.replicate 635 none
  statics := none }

def pool14 : Array CpInfo := pool [(8, .class_ 10), (1, u "java/lang/Iterable"), (24, .class_ 36), (0, u "java/lang/Object")] 25

/-- java/lang/Iterable -/
def k14 : Class := { plain "java/lang/Iterable" (some 0) with
  accessFlags := 1537
  interfaces := #[]
  cf := some (fileOf pool14 8 #[] #[] 1537 35 #[] #[])
  fields := #[]
  methods := #[]
  instanceTypes := #[]
  staticTypes := #[]
  resolved := Array.replicate 62 none
  statics := none }

def pool15 : Array CpInfo := pool [(10, .class_ 12), (1, u "java/util/Collection"), (47, .class_ 61), (0, u "java/lang/Object"), (0, .class_ 63), (0, u "java/lang/Iterable")] 51

/-- java/util/Collection -/
def k15 : Class := { plain "java/util/Collection" (some 0) with
  accessFlags := 1537
  interfaces := #[14]
  cf := some (fileOf pool15 10 #[] #[] 1537 60 #[62] #[])
  fields := #[]
  methods := #[]
  instanceTypes := #[]
  staticTypes := #[]
  resolved := Array.replicate 115 none
  statics := none }

def pool16 : Array CpInfo := pool [(1, .methodref 2 3), (0, .class_ 4), (0, .nameAndType 5 6), (0, u "java/lang/Object"), (0, u "<init>"), (0, u "()V"), (1, .class_ 10), (1, u "java/util/AbstractCollection"), (66, .class_ 78), (0, u "java/util/Collection")] 81

def k16c0 : Code := { maxStack := 1, maxLocals := 1, code := jdk_22_method_1_code, exceptionTable := #[], attributes := #[] }
def k16m0 : Method := { name := "<init>", desc := "()V", sig := { parameters := [], returnType := none }, accessFlags := 4, code := some k16c0 }
/-- java/util/AbstractCollection -/
def k16 : Class := { plain "java/util/AbstractCollection" (some 0) with
  accessFlags := 1057
  interfaces := #[15]
  cf := some (fileOf pool16 8 #[] #[{ accessFlags := 4, nameIndex := 5, descriptorIndex := 6, attributes := #[] }] 1057 2 #[77] #[])
  fields := #[]
  methods := #[k16m0]
  instanceTypes := #[]
  staticTypes := #[]
  resolved := Array.replicate 160 none
  statics := none }

def pool17 : Array CpInfo := pool [(8, .class_ 10), (1, u "java/util/SequencedCollection"), (15, .class_ 27), (0, u "java/lang/Object"), (0, .class_ 29), (0, u "java/util/Collection")] 27

/-- java/util/SequencedCollection -/
def k17 : Class := { plain "java/util/SequencedCollection" (some 0) with
  accessFlags := 1537
  interfaces := #[15]
  cf := some (fileOf pool17 8 #[] #[] 1537 26 #[28] #[])
  fields := #[]
  methods := #[]
  instanceTypes := #[]
  staticTypes := #[]
  resolved := Array.replicate 57 none
  statics := none }

def pool18 : Array CpInfo := pool [(8, .class_ 10), (1, u "java/util/List"), (77, u "of"), (1, .fieldref 91 92), (0, .class_ 93), (0, .nameAndType 94 95), (0, u "java/util/ImmutableCollections"), (0, u "EMPTY_LIST"), (0, u "Ljava/util/ImmutableCollections$ListN;"), (7, .class_ 104), (0, u "java/lang/Object"), (7, .methodref 91 113), (0, .nameAndType 114 115), (0, u "listCopy"), (0, u "(Ljava/util/Collection;)Ljava/util/List;"), (3, u "()Ljava/util/List;"), (0, .class_ 121), (0, u "java/util/SequencedCollection"), (112, u "copyOf")] 16

def k18c0 : Code := { maxStack := 1, maxLocals := 0, code := jdk_40_method_36_code, exceptionTable := #[], attributes := #[] }
def k18m0 : Method := { name := "of", desc := "()Ljava/util/List;", sig := { parameters := [], returnType := some (.object "java/util/List") }, accessFlags := 9, code := some k18c0 }
def k18c1 : Code := { maxStack := 1, maxLocals := 1, code := jdk_40_method_48_code, exceptionTable := #[], attributes := #[] }
def k18m1 : Method := { name := "copyOf", desc := "(Ljava/util/Collection;)Ljava/util/List;", sig := { parameters := [(.object "java/util/Collection")], returnType := some (.object "java/util/List") }, accessFlags := 9, code := some k18c1 }
/-- java/util/List -/
def k18 : Class := { plain "java/util/List" (some 0) with
  accessFlags := 1537
  interfaces := #[17]
  cf := some (fileOf pool18 8 #[] #[{ accessFlags := 9, nameIndex := 88, descriptorIndex := 119, attributes := #[] }, { accessFlags := 9, nameIndex := 234, descriptorIndex := 115, attributes := #[] }] 1537 103 #[120] #[])
  fields := #[]
  methods := #[k18m0, k18m1]
  instanceTypes := #[]
  staticTypes := #[]
  resolved := Array.replicate 251 none
  statics := none }

def pool19 : Array CpInfo := pool [(1, .methodref 2 3), (0, .class_ 4), (0, .nameAndType 5 6), (0, u "java/util/AbstractCollection"), (0, u "<init>"), (0, u "()V"), (0, .fieldref 8 9), (0, .class_ 10), (0, .nameAndType 11 12), (0, u "java/util/AbstractList"), (0, u "modCount"), (0, u "I"), (64, .class_ 78), (0, u "java/util/AbstractList$Itr"), (3, .class_ 83), (0, u "java/util/AbstractList$ListItr"), (9, .class_ 94), (0, u "java/util/AbstractList$RandomAccessSubList"), (3, .class_ 99), (0, u "java/util/AbstractList$SubList"), (33, .class_ 134), (0, u "java/util/List"), (73, .class_ 209), (0, u "java/util/AbstractList$SubList$1"), (0, .class_ 211), (0, u "java/util/AbstractList$RandomAccessSpliterator")] 6

def k19c0 : Code := { maxStack := 2, maxLocals := 1, code := jdk_39_method_1_code, exceptionTable := #[], attributes := #[] }
def k19m0 : Method := { name := "<init>", desc := "()V", sig := { parameters := [], returnType := none }, accessFlags := 4, code := some k19c0 }
/-- java/util/AbstractList -/
def k19 : Class := { plain "java/util/AbstractList" (some 16) with
  accessFlags := 1057
  interfaces := #[18]
  cf := some (fileOf pool19 8 #[.nestMembers #[93, 98, 208, 210, 82, 77]] #[{ accessFlags := 4, nameIndex := 5, descriptorIndex := 6, attributes := #[] }] 1057 2 #[133] #[{ accessFlags := 132, nameIndex := 11, descriptorIndex := 12, attributes := #[] }])
  fields := #[{ name := "modCount", type := .int, accessFlags := 132, slot := 0, constantValue := 0 }]
  methods := #[k19m0]
  instanceTypes := #[.int]
  staticTypes := #[]
  resolved := Array.replicate 218 none
  statics := none }

def pool20 : Array CpInfo := pool [(1, .class_ 2), (0, u "java/util/RandomAccess"), (0, .class_ 4), (0, u "java/lang/Object")] 2

/-- java/util/RandomAccess -/
def k20 : Class := { plain "java/util/RandomAccess" (some 0) with
  accessFlags := 1537
  interfaces := #[]
  cf := some (fileOf pool20 1 #[] #[] 1537 3 #[] #[])
  fields := #[]
  methods := #[]
  instanceTypes := #[]
  staticTypes := #[]
  resolved := Array.replicate 7 none
  statics := none }

def pool21 : Array CpInfo := pool [(1, .class_ 2), (0, u "java/lang/Cloneable"), (0, .class_ 4), (0, u "java/lang/Object")] 2

/-- java/lang/Cloneable -/
def k21 : Class := { plain "java/lang/Cloneable" (some 0) with
  accessFlags := 1537
  interfaces := #[]
  cf := some (fileOf pool21 1 #[] #[] 1537 3 #[] #[])
  fields := #[]
  methods := #[]
  instanceTypes := #[]
  staticTypes := #[]
  resolved := Array.replicate 7 none
  statics := none }

def pool22 : Array CpInfo := pool [(1, .methodref 2 3), (0, .class_ 4), (0, .nameAndType 5 6), (0, u "java/util/AbstractList"), (0, u "<init>"), (0, u "()V"), (2, .fieldref 10 11), (0, .class_ 12), (0, .nameAndType 13 14), (0, u "java/util/ArrayList"), (0, u "elementData"), (0, u "[Ljava/lang/Object;"), (2, u "EMPTY_ELEMENTDATA"), (21, .fieldref 10 40), (0, .nameAndType 41 14), (0, u "DEFAULTCAPACITY_EMPTY_ELEMENTDATA"), (8, u "size"), (0, u "I"), (96, .class_ 149), (0, u "java/util/List"), (112, .class_ 263), (0, u "java/util/ArrayList$ListItr"), (3, .class_ 268), (0, u "java/util/ArrayList$Itr"), (7, .class_ 277), (0, u "java/util/ArrayList$SubList"), (12, .class_ 291), (0, u "java/util/ArrayList$ArrayListSpliterator"), (37, .class_ 330), (0, u "java/util/RandomAccess"), (0, .class_ 332), (0, u "java/lang/Cloneable"), (0, .class_ 334), (0, u "java/io/Serializable"), (0, u "serialVersionUID"), (0, u "J"), (3, u "DEFAULT_CAPACITY"), (159, .class_ 501), (0, u "java/util/ArrayList$SubList$2"), (0, .class_ 503), (0, u "java/util/ArrayList$SubList$1")] 5

def k22c0 : Code := { maxStack := 2, maxLocals := 1, code := jdk_38_method_2_code, exceptionTable := #[], attributes := #[] }
def k22m0 : Method := { name := "<init>", desc := "()V", sig := { parameters := [], returnType := none }, accessFlags := 1, code := some k22c0 }
/-- java/util/ArrayList -/
def k22 : Class := { plain "java/util/ArrayList" (some 19) with
  accessFlags := 33
  interfaces := #[18, 20, 21, 4]
  cf := some (fileOf pool22 10 #[.nestMembers #[290, 276, 500, 502, 262, 267]] #[{ accessFlags := 1, nameIndex := 5, descriptorIndex := 6, attributes := #[] }] 33 2 #[148, 329, 331, 333] #[{ accessFlags := 26, nameIndex := 335, descriptorIndex := 336, attributes := #[] }, { accessFlags := 26, nameIndex := 340, descriptorIndex := 51, attributes := #[] }, { accessFlags := 26, nameIndex := 17, descriptorIndex := 14, attributes := #[] }, { accessFlags := 26, nameIndex := 41, descriptorIndex := 14, attributes := #[] }, { accessFlags := 128, nameIndex := 13, descriptorIndex := 14, attributes := #[] }, { accessFlags := 2, nameIndex := 50, descriptorIndex := 51, attributes := #[] }])
  fields := #[{ name := "serialVersionUID", type := .long, accessFlags := 26, slot := 0, constantValue := 0 }, { name := "DEFAULT_CAPACITY", type := .int, accessFlags := 26, slot := 1, constantValue := 0 }, { name := "EMPTY_ELEMENTDATA", type := (.array (.object "java/lang/Object")), accessFlags := 26, slot := 2, constantValue := 0 }, { name := "DEFAULTCAPACITY_EMPTY_ELEMENTDATA", type := (.array (.object "java/lang/Object")), accessFlags := 26, slot := 3, constantValue := 0 }, { name := "elementData", type := (.array (.object "java/lang/Object")), accessFlags := 128, slot := 1, constantValue := 0 }, { name := "size", type := .int, accessFlags := 2, slot := 2, constantValue := 0 }]
  methods := #[k22m0]
  instanceTypes := #[.int, (.array (.object "java/lang/Object")), .int]
  staticTypes := #[.long, .int, (.array (.object "java/lang/Object")), (.array (.object "java/lang/Object"))]
  resolved := Array.replicate 509 none
  statics := some 3 }

def pool23 : Array CpInfo := pool [(1, .methodref 2 3), (0, .class_ 4), (0, .nameAndType 5 6), (0, u "java/lang/Object"), (0, u "<init>"), (0, u "()V"), (0, .class_ 8), (0, u "java/lang/Record")] 13

def k23c0 : Code := { maxStack := 1, maxLocals := 1, code := jdk_30_method_1_code, exceptionTable := #[], attributes := #[] }
def k23m0 : Method := { name := "<init>", desc := "()V", sig := { parameters := [], returnType := none }, accessFlags := 4, code := some k23c0 }
/-- java/lang/Record -/
def k23 : Class := { plain "java/lang/Record" (some 0) with
  accessFlags := 1057
  interfaces := #[]
  cf := some (fileOf pool23 7 #[] #[{ accessFlags := 4, nameIndex := 5, descriptorIndex := 6, attributes := #[] }] 1057 2 #[] #[])
  fields := #[]
  methods := #[k23m0]
  instanceTypes := #[]
  staticTypes := #[]
  resolved := Array.replicate 22 none
  statics := none }

def pool24 : Array CpInfo := pool [(1, .methodref 2 3), (0, .class_ 4), (0, .nameAndType 5 6), (0, u "java/lang/Record"), (0, u "<init>"), (0, u "()V"), (0, .fieldref 8 9), (0, .class_ 10), (0, .nameAndType 11 12), (0, u "com/example/rosterd/rosterd/core/Outcome"), (0, u "item"), (0, u "Ljava/lang/Object;"), (0, .fieldref 8 14), (0, .nameAndType 15 16), (0, u "refusal"), (0, u "Lcom/example/rosterd/rosterd/core/Refusal;"), (0, .fieldref 8 18), (0, .nameAndType 19 20), (0, u "message"), (0, u "Ljava/lang/String;"), (0, .fieldref 8 22), (0, .nameAndType 23 24), (0, u "bindingTargets"), (0, u "Ljava/util/List;"), (0, .interfaceMethodref 26 27), (0, .class_ 28), (0, .nameAndType 29 30), (0, u "java/util/List"), (0, u "of"), (0, u "()Ljava/util/List;"), (0, .methodref 8 32), (0, .nameAndType 5 33), (0, u "(Ljava/lang/Object;Lcom/example/rosterd/rosterd/core/Refusal;Ljava/lang/String;Ljava/util/List;)V"), (0, .methodref 35 36), (0, .class_ 37), (0, .nameAndType 15 38), (0, u "com/example/rosterd/rosterd/core/RosterException"), (0, u "()Lcom/example/rosterd/rosterd/core/Refusal;"), (0, .methodref 35 40), (0, .nameAndType 41 42), (0, u "getMessage"), (0, u "()Ljava/lang/String;"), (0, .methodref 35 44), (0, .nameAndType 23 30), (19, u "done"), (0, u "(Ljava/lang/Object;)Lcom/example/rosterd/rosterd/core/Outcome;"), (1, u "refused"), (0, u "(Ljava/lang/Object;Lcom/example/rosterd/rosterd/core/RosterException;)Lcom/example/rosterd/rosterd/core/Outcome;"), (1, u "succeeded"), (0, u "()Z")] 30

def k24c0 : Code := { maxStack := 2, maxLocals := 5, code := prog_29_method_1_code, exceptionTable := #[], attributes := #[] }
def k24m0 : Method := { name := "<init>", desc := "(Ljava/lang/Object;Lcom/example/rosterd/rosterd/core/Refusal;Ljava/lang/String;Ljava/util/List;)V", sig := { parameters := [(.object "java/lang/Object"), (.object "com/example/rosterd/rosterd/core/Refusal"), (.object "java/lang/String"), (.object "java/util/List")], returnType := none }, accessFlags := 1, code := some k24c0 }
def k24c1 : Code := { maxStack := 6, maxLocals := 1, code := prog_29_method_2_code, exceptionTable := #[], attributes := #[] }
def k24m1 : Method := { name := "done", desc := "(Ljava/lang/Object;)Lcom/example/rosterd/rosterd/core/Outcome;", sig := { parameters := [(.object "java/lang/Object")], returnType := some (.object "com/example/rosterd/rosterd/core/Outcome") }, accessFlags := 8, code := some k24c1 }
def k24c2 : Code := { maxStack := 6, maxLocals := 2, code := prog_29_method_3_code, exceptionTable := #[], attributes := #[] }
def k24m2 : Method := { name := "refused", desc := "(Ljava/lang/Object;Lcom/example/rosterd/rosterd/core/RosterException;)Lcom/example/rosterd/rosterd/core/Outcome;", sig := { parameters := [(.object "java/lang/Object"), (.object "com/example/rosterd/rosterd/core/RosterException")], returnType := some (.object "com/example/rosterd/rosterd/core/Outcome") }, accessFlags := 8, code := some k24c2 }
def k24c3 : Code := { maxStack := 1, maxLocals := 1, code := prog_29_method_4_code, exceptionTable := #[], attributes := #[] }
def k24m3 : Method := { name := "succeeded", desc := "()Z", sig := { parameters := [], returnType := some .boolean }, accessFlags := 1, code := some k24c3 }
/-- com/example/rosterd/rosterd/core/Outcome -/
def k24 : Class := { plain "com/example/rosterd/rosterd/core/Outcome" (some 23) with
  accessFlags := 49
  interfaces := #[]
  cf := some (fileOf pool24 8 #[] #[{ accessFlags := 1, nameIndex := 5, descriptorIndex := 33, attributes := #[] }, { accessFlags := 8, nameIndex := 64, descriptorIndex := 65, attributes := #[] }, { accessFlags := 8, nameIndex := 67, descriptorIndex := 68, attributes := #[] }, { accessFlags := 1, nameIndex := 70, descriptorIndex := 71, attributes := #[] }] 49 2 #[] #[{ accessFlags := 18, nameIndex := 11, descriptorIndex := 12, attributes := #[] }, { accessFlags := 18, nameIndex := 15, descriptorIndex := 16, attributes := #[] }, { accessFlags := 18, nameIndex := 19, descriptorIndex := 20, attributes := #[] }, { accessFlags := 18, nameIndex := 23, descriptorIndex := 24, attributes := #[] }])
  fields := #[{ name := "item", type := (.object "java/lang/Object"), accessFlags := 18, slot := 0, constantValue := 0 }, { name := "refusal", type := (.object "com/example/rosterd/rosterd/core/Refusal"), accessFlags := 18, slot := 1, constantValue := 0 }, { name := "message", type := (.object "java/lang/String"), accessFlags := 18, slot := 2, constantValue := 0 }, { name := "bindingTargets", type := (.object "java/util/List"), accessFlags := 18, slot := 3, constantValue := 0 }]
  methods := #[k24m0, k24m1, k24m2, k24m3]
  instanceTypes := #[(.object "java/lang/Object"), (.object "com/example/rosterd/rosterd/core/Refusal"), (.object "java/lang/String"), (.object "java/util/List")]
  staticTypes := #[]
  resolved := Array.replicate 102 none
  statics := none }

def pool25 : Array CpInfo := pool [(2, .class_ 4), (1, u "java/lang/Object"), (0, u "<init>"), (0, u "()V"), (3, .class_ 11), (0, u "java/util/ImmutableCollections$List12"), (0, .class_ 13), (0, u "java/util/ImmutableCollections$ListN"), (0, .fieldref 12 15), (0, .nameAndType 16 17), (0, u "allowNulls"), (0, u "Z"), (0, .class_ 19), (0, u "java/util/List"), (27, .class_ 49), (1, u "java/util/ImmutableCollections"), (0, u "$assertionsDisabled"), (5, u "[Ljava/lang/Object;"), (5, u "EMPTY_LIST"), (0, u "Ljava/util/ImmutableCollections$ListN;"), (8, u "EMPTY_LIST_NULLS"), (22, u "SALT32L"), (0, u "J"), (2, u "REVERSE"), (6, u "archivedObjects"), (2, u "EMPTY"), (0, u "Ljava/lang/Object;"), (0, .class_ 112), (0, u "java/util/ImmutableCollections$SetN"), (5, u "EMPTY_SET"), (0, u "Ljava/util/ImmutableCollections$SetN;"), (0, .class_ 121), (0, u "java/util/ImmutableCollections$MapN"), (3, u "EMPTY_MAP"), (0, u "Ljava/util/ImmutableCollections$MapN;"), (4, u "EXPAND_FACTOR"), (0, u "I"), (9, u "listCopy"), (0, u "(Ljava/util/Collection;)Ljava/util/List;"), (25, .class_ 170), (0, u "java/util/ImmutableCollections$MapN$MapNIterator"), (0, .class_ 172), (0, u "java/util/ImmutableCollections$MapN$1"), (0, .class_ 174), (0, u "java/util/ImmutableCollections$Map1"), (0, .class_ 176), (0, u "java/util/ImmutableCollections$AbstractImmutableMap"), (0, .class_ 178), (0, u "java/util/ImmutableCollections$SetN$SetNIterator"), (0, .class_ 180), (0, u "java/util/ImmutableCollections$Set12"), (0, .class_ 182), (0, u "java/util/ImmutableCollections$Set12$1"), (0, .class_ 184), (0, u "java/util/ImmutableCollections$AbstractImmutableSet"), (0, .class_ 186), (0, u "java/util/ImmutableCollections$SubList"), (0, .class_ 188), (0, u "java/util/ImmutableCollections$ListItr"), (0, .class_ 190), (0, u "java/util/ImmutableCollections$AbstractImmutableList"), (0, .class_ 192), (0, u "java/util/ImmutableCollections$AbstractImmutableCollection"), (0, .class_ 194), (0, u "java/util/ImmutableCollections$Access"), (0, .class_ 196), (0, u "java/util/ImmutableCollections$Access$1")] 16

def k25m0 : Method := { name := "<init>", desc := "()V", sig := { parameters := [], returnType := none }, accessFlags := 2, code := none }
def k25c1 : Code := { maxStack := 1, maxLocals := 2, code := jdk_56_method_3_code, exceptionTable := #[], attributes := #[] }
def k25m1 : Method := { name := "listCopy", desc := "(Ljava/util/Collection;)Ljava/util/List;", sig := { parameters := [(.object "java/util/Collection")], returnType := some (.object "java/util/List") }, accessFlags := 8, code := some k25c1 }
/-- java/util/ImmutableCollections -/
def k25 : Class := { plain "java/util/ImmutableCollections" (some 0) with
  accessFlags := 32
  interfaces := #[]
  cf := some (fileOf pool25 47 #[.nestMembers #[120, 169, 171, 173, 175, 111, 177, 179, 181, 183, 12, 10, 185, 187, 189, 191, 193, 195]] #[{ accessFlags := 2, nameIndex := 5, descriptorIndex := 6, attributes := #[] }, { accessFlags := 8, nameIndex := 142, descriptorIndex := 143, attributes := #[] }] 32 2 #[] #[{ accessFlags := 26, nameIndex := 95, descriptorIndex := 96, attributes := #[] }, { accessFlags := 26, nameIndex := 99, descriptorIndex := 17, attributes := #[] }, { accessFlags := 10, nameIndex := 106, descriptorIndex := 56, attributes := #[] }, { accessFlags := 26, nameIndex := 109, descriptorIndex := 110, attributes := #[] }, { accessFlags := 24, nameIndex := 62, descriptorIndex := 63, attributes := #[] }, { accessFlags := 24, nameIndex := 72, descriptorIndex := 63, attributes := #[] }, { accessFlags := 24, nameIndex := 118, descriptorIndex := 119, attributes := #[] }, { accessFlags := 24, nameIndex := 125, descriptorIndex := 126, attributes := #[] }, { accessFlags := 24, nameIndex := 131, descriptorIndex := 132, attributes := #[] }, { accessFlags := 4120, nameIndex := 50, descriptorIndex := 17, attributes := #[] }])
  fields := #[{ name := "SALT32L", type := .long, accessFlags := 26, slot := 0, constantValue := 0 }, { name := "REVERSE", type := .boolean, accessFlags := 26, slot := 1, constantValue := 0 }, { name := "archivedObjects", type := (.array (.object "java/lang/Object")), accessFlags := 10, slot := 2, constantValue := 0 }, { name := "EMPTY", type := (.object "java/lang/Object"), accessFlags := 26, slot := 3, constantValue := 0 }, { name := "EMPTY_LIST", type := (.object "java/util/ImmutableCollections$ListN"), accessFlags := 24, slot := 4, constantValue := 0 }, { name := "EMPTY_LIST_NULLS", type := (.object "java/util/ImmutableCollections$ListN"), accessFlags := 24, slot := 5, constantValue := 0 }, { name := "EMPTY_SET", type := (.object "java/util/ImmutableCollections$SetN"), accessFlags := 24, slot := 6, constantValue := 0 }, { name := "EMPTY_MAP", type := (.object "java/util/ImmutableCollections$MapN"), accessFlags := 24, slot := 7, constantValue := 0 }, { name := "EXPAND_FACTOR", type := .int, accessFlags := 24, slot := 8, constantValue := 0 }, { name := "$assertionsDisabled", type := .boolean, accessFlags := 4120, slot := 9, constantValue := 0 }]
  methods := #[k25m0, k25m1]
  instanceTypes := #[]
  staticTypes := #[.long, .boolean, (.array (.object "java/lang/Object")), (.object "java/lang/Object"), (.object "java/util/ImmutableCollections$ListN"), (.object "java/util/ImmutableCollections$ListN"), (.object "java/util/ImmutableCollections$SetN"), (.object "java/util/ImmutableCollections$MapN"), .int, .boolean]
  resolved := Array.replicate 213 none
  statics := some 4 }

def pool26 : Array CpInfo := pool [(1, .methodref 2 3), (0, .class_ 4), (0, .nameAndType 5 6), (0, u "java/lang/Object"), (0, u "<init>"), (0, u "()V"), (0, .fieldref 8 9), (0, .class_ 10), (0, .nameAndType 11 12), (0, u "java/lang/Throwable"), (0, u "cause"), (0, u "Ljava/lang/Throwable;"), (0, .fieldref 8 14), (0, .nameAndType 15 16), (0, u "UNASSIGNED_STACK"), (0, u "[Ljava/lang/StackTraceElement;"), (0, .fieldref 8 18), (0, .nameAndType 19 16), (0, u "stackTrace"), (0, .fieldref 8 21), (0, .nameAndType 22 23), (0, u "SUPPRESSED_SENTINEL"), (0, u "Ljava/util/List;"), (0, .fieldref 8 25), (0, .nameAndType 26 23), (0, u "suppressedExceptions"), (0, .methodref 8 28), (0, .nameAndType 29 30), (0, u "fillInStackTrace"), (0, u "()Ljava/lang/Throwable;"), (0, .fieldref 8 32), (0, .nameAndType 33 34), (0, u "detailMessage"), (0, u "Ljava/lang/String;"), (3, u "()Ljava/lang/String;"), (2, u "getMessage"), (51, .class_ 94), (0, u "java/lang/Throwable$WrappedPrintStream"), (6, .class_ 103), (1, u "java/lang/Throwable$PrintStreamOrWriter"), (61, u "$assertionsDisabled"), (0, u "Z"), (26, .class_ 194), (0, u "java/lang/Throwable$WrappedPrintWriter"), (3, .fieldref 8 199), (0, .nameAndType 200 201), (0, u "backtrace"), (0, u "Ljava/lang/Object;"), (0, .methodref 8 203), (0, .nameAndType 29 204), (0, u "(I)Ljava/lang/Throwable;"), (6, u "depth"), (0, u "I"), (10, u "(Ljava/lang/String;)V"), (45, .class_ 271), (1, u "java/lang/Throwable$SentinelHolder"), (32, u "EMPTY_THROWABLE_ARRAY"), (0, u "[Ljava/lang/Throwable;"), (12, .class_ 319), (0, u "java/io/Serializable"), (0, u "serialVersionUID"), (0, u "J"), (5, u "NULL_CAUSE_MESSAGE"), (0, u "SELF_SUPPRESSION_MESSAGE"), (0, u "CAUSE_CAPTION"), (0, u "SUPPRESSED_CAPTION")] 73

def k26c0 : Code := { maxStack := 2, maxLocals := 1, code := jdk_78_method_1_code, exceptionTable := #[], attributes := #[] }
def k26m0 : Method := { name := "<init>", desc := "()V", sig := { parameters := [], returnType := none }, accessFlags := 1, code := some k26c0 }
def k26c1 : Code := { maxStack := 2, maxLocals := 2, code := jdk_78_method_2_code, exceptionTable := #[], attributes := #[] }
def k26m1 : Method := { name := "<init>", desc := "(Ljava/lang/String;)V", sig := { parameters := [(.object "java/lang/String")], returnType := none }, accessFlags := 1, code := some k26c1 }
def k26c2 : Code := { maxStack := 1, maxLocals := 1, code := jdk_78_method_6_code, exceptionTable := #[], attributes := #[] }
def k26m2 : Method := { name := "getMessage", desc := "()Ljava/lang/String;", sig := { parameters := [], returnType := some (.object "java/lang/String") }, accessFlags := 1, code := some k26c2 }
def k26c3 : Code := { maxStack := 2, maxLocals := 1, code := ⟨#[0x2a, 0xb4, 0x00, 0x11, 0xc7, 0x00, 0x0a, 0x2a, 0xb4, 0x00, 0xc6, 0xc6, 0x00, 0x10, 0x2a, 0x03, 0xb6, 0x00, 0xca, 0x57, 0x2a, 0xb2, 0x00, 0x0d, 0xb5, 0x00, 0x11, 0x2a, 0xb0]⟩, exceptionTable := #[], attributes := #[] }
def k26m3 : Method := { name := "fillInStackTrace", desc := "()Ljava/lang/Throwable;", sig := { parameters := [], returnType := some (.object "java/lang/Throwable") }, accessFlags := 33, code := some k26c3 }
def k26m4 : Method := { name := "fillInStackTrace", desc := "(I)Ljava/lang/Throwable;", sig := { parameters := [.int], returnType := some (.object "java/lang/Throwable") }, accessFlags := 258, code := none }
/-- java/lang/Throwable -/
def k26 : Class := { plain "java/lang/Throwable" (some 0) with
  accessFlags := 33
  interfaces := #[4]
  cf := some (fileOf pool26 8 #[.nestMembers #[193, 93, 101, 269]] #[{ accessFlags := 1, nameIndex := 5, descriptorIndex := 6, attributes := #[] }, { accessFlags := 1, nameIndex := 5, descriptorIndex := 223, attributes := #[] }, { accessFlags := 1, nameIndex := 41, descriptorIndex := 38, attributes := #[] }, { accessFlags := 33, nameIndex := 29, descriptorIndex := 30, attributes := #[] }, { accessFlags := 258, nameIndex := 29, descriptorIndex := 204, attributes := #[] }] 33 2 #[318] #[{ accessFlags := 26, nameIndex := 320, descriptorIndex := 321, attributes := #[] }, { accessFlags := 130, nameIndex := 200, descriptorIndex := 201, attributes := #[] }, { accessFlags := 2, nameIndex := 33, descriptorIndex := 34, attributes := #[] }, { accessFlags := 26, nameIndex := 15, descriptorIndex := 16, attributes := #[] }, { accessFlags := 2, nameIndex := 11, descriptorIndex := 12, attributes := #[] }, { accessFlags := 2, nameIndex := 19, descriptorIndex := 16, attributes := #[] }, { accessFlags := 130, nameIndex := 211, descriptorIndex := 212, attributes := #[] }, { accessFlags := 26, nameIndex := 22, descriptorIndex := 23, attributes := #[] }, { accessFlags := 2, nameIndex := 26, descriptorIndex := 23, attributes := #[] }, { accessFlags := 26, nameIndex := 327, descriptorIndex := 34, attributes := #[] }, { accessFlags := 26, nameIndex := 328, descriptorIndex := 34, attributes := #[] }, { accessFlags := 26, nameIndex := 329, descriptorIndex := 34, attributes := #[] }, { accessFlags := 26, nameIndex := 330, descriptorIndex := 34, attributes := #[] }, { accessFlags := 26, nameIndex := 304, descriptorIndex := 305, attributes := #[] }, { accessFlags := 4120, nameIndex := 165, descriptorIndex := 166, attributes := #[] }])
  fields := #[{ name := "serialVersionUID", type := .long, accessFlags := 26, slot := 0, constantValue := 0 }, { name := "backtrace", type := (.object "java/lang/Object"), accessFlags := 130, slot := 0, constantValue := 0 }, { name := "detailMessage", type := (.object "java/lang/String"), accessFlags := 2, slot := 1, constantValue := 0 }, { name := "UNASSIGNED_STACK", type := (.array (.object "java/lang/StackTraceElement")), accessFlags := 26, slot := 1, constantValue := 0 }, { name := "cause", type := (.object "java/lang/Throwable"), accessFlags := 2, slot := 2, constantValue := 0 }, { name := "stackTrace", type := (.array (.object "java/lang/StackTraceElement")), accessFlags := 2, slot := 3, constantValue := 0 }, { name := "depth", type := .int, accessFlags := 130, slot := 4, constantValue := 0 }, { name := "SUPPRESSED_SENTINEL", type := (.object "java/util/List"), accessFlags := 26, slot := 2, constantValue := 0 }, { name := "suppressedExceptions", type := (.object "java/util/List"), accessFlags := 2, slot := 5, constantValue := 0 }, { name := "NULL_CAUSE_MESSAGE", type := (.object "java/lang/String"), accessFlags := 26, slot := 3, constantValue := 0 }, { name := "SELF_SUPPRESSION_MESSAGE", type := (.object "java/lang/String"), accessFlags := 26, slot := 4, constantValue := 0 }, { name := "CAUSE_CAPTION", type := (.object "java/lang/String"), accessFlags := 26, slot := 5, constantValue := 0 }, { name := "SUPPRESSED_CAPTION", type := (.object "java/lang/String"), accessFlags := 26, slot := 6, constantValue := 0 }, { name := "EMPTY_THROWABLE_ARRAY", type := (.array (.object "java/lang/Throwable")), accessFlags := 26, slot := 7, constantValue := 0 }, { name := "$assertionsDisabled", type := .boolean, accessFlags := 4120, slot := 8, constantValue := 0 }]
  methods := #[k26m0, k26m1, k26m2, k26m3, k26m4]
  instanceTypes := #[(.object "java/lang/Object"), (.object "java/lang/String"), (.object "java/lang/Throwable"), (.array (.object "java/lang/StackTraceElement")), .int, (.object "java/util/List")]
  staticTypes := #[.long, (.array (.object "java/lang/StackTraceElement")), (.object "java/util/List"), (.object "java/lang/String"), (.object "java/lang/String"), (.object "java/lang/String"), (.object "java/lang/String"), (.array (.object "java/lang/Throwable")), .boolean]
  resolved := Array.replicate 404 none
  statics := some 5 }

def pool27 : Array CpInfo := pool [(2, .class_ 4), (1, u "java/lang/Throwable"), (0, u "<init>"), (0, u "()V"), (0, .methodref 2 8), (0, .nameAndType 5 9), (0, u "(Ljava/lang/String;)V"), (9, .class_ 20), (0, u "java/lang/Exception"), (0, u "serialVersionUID"), (0, u "J")] 17

def k27m0 : Method := { name := "<init>", desc := "()V", sig := { parameters := [], returnType := none }, accessFlags := 1, code := none }
def k27c1 : Code := { maxStack := 2, maxLocals := 2, code := jdk_59_method_2_code, exceptionTable := #[], attributes := #[] }
def k27m1 : Method := { name := "<init>", desc := "(Ljava/lang/String;)V", sig := { parameters := [(.object "java/lang/String")], returnType := none }, accessFlags := 1, code := some k27c1 }
/-- java/lang/Exception -/
def k27 : Class := { plain "java/lang/Exception" (some 26) with
  accessFlags := 33
  interfaces := #[]
  cf := some (fileOf pool27 19 #[] #[{ accessFlags := 1, nameIndex := 5, descriptorIndex := 6, attributes := #[] }, { accessFlags := 1, nameIndex := 5, descriptorIndex := 9, attributes := #[] }] 33 2 #[] #[{ accessFlags := 24, nameIndex := 21, descriptorIndex := 22, attributes := #[] }])
  fields := #[{ name := "serialVersionUID", type := .long, accessFlags := 24, slot := 0, constantValue := 0 }]
  methods := #[k27m0, k27m1]
  instanceTypes := #[(.object "java/lang/Object"), (.object "java/lang/String"), (.object "java/lang/Throwable"), (.array (.object "java/lang/StackTraceElement")), .int, (.object "java/util/List")]
  staticTypes := #[.long]
  resolved := Array.replicate 40 none
  statics := none }

def pool28 : Array CpInfo := pool [(2, .class_ 4), (1, u "java/lang/Exception"), (0, u "<init>"), (0, u "()V"), (0, .methodref 2 8), (0, .nameAndType 5 9), (0, u "(Ljava/lang/String;)V"), (9, .class_ 20), (0, u "java/lang/RuntimeException"), (0, u "serialVersionUID"), (0, u "J")] 17

def k28m0 : Method := { name := "<init>", desc := "()V", sig := { parameters := [], returnType := none }, accessFlags := 1, code := none }
def k28c1 : Code := { maxStack := 2, maxLocals := 2, code := jdk_58_method_2_code, exceptionTable := #[], attributes := #[] }
def k28m1 : Method := { name := "<init>", desc := "(Ljava/lang/String;)V", sig := { parameters := [(.object "java/lang/String")], returnType := none }, accessFlags := 1, code := some k28c1 }
/-- java/lang/RuntimeException -/
def k28 : Class := { plain "java/lang/RuntimeException" (some 27) with
  accessFlags := 33
  interfaces := #[]
  cf := some (fileOf pool28 19 #[] #[{ accessFlags := 1, nameIndex := 5, descriptorIndex := 6, attributes := #[] }, { accessFlags := 1, nameIndex := 5, descriptorIndex := 9, attributes := #[] }] 33 2 #[] #[{ accessFlags := 24, nameIndex := 21, descriptorIndex := 22, attributes := #[] }])
  fields := #[{ name := "serialVersionUID", type := .long, accessFlags := 24, slot := 0, constantValue := 0 }]
  methods := #[k28m0, k28m1]
  instanceTypes := #[(.object "java/lang/Object"), (.object "java/lang/String"), (.object "java/lang/Throwable"), (.array (.object "java/lang/StackTraceElement")), .int, (.object "java/util/List")]
  staticTypes := #[.long]
  resolved := Array.replicate 40 none
  statics := none }

def pool29 : Array CpInfo := pool [(1, .interfaceMethodref 2 3), (0, .class_ 4), (0, .nameAndType 5 6), (0, u "java/util/List"), (0, u "of"), (0, u "()Ljava/util/List;"), (0, .methodref 8 9), (0, .class_ 10), (0, .nameAndType 11 12), (0, u "com/example/rosterd/rosterd/core/RosterException"), (0, u "<init>"), (0, u "(Lcom/example/rosterd/rosterd/core/Refusal;Ljava/lang/String;Ljava/util/List;)V"), (0, .methodref 14 15), (0, .class_ 16), (0, .nameAndType 11 17), (0, u "java/lang/RuntimeException"), (0, u "(Ljava/lang/String;)V"), (0, .string 19), (0, u "refusal"), (0, .methodref 21 22), (0, .class_ 23), (0, .nameAndType 24 25), (0, u "java/util/Objects"), (0, u "requireNonNull"), (0, u "(Ljava/lang/Object;Ljava/lang/String;)Ljava/lang/Object;"), (0, .class_ 27), (0, u "com/example/rosterd/rosterd/core/Refusal"), (0, .fieldref 8 29), (0, .nameAndType 19 30), (0, u "Lcom/example/rosterd/rosterd/core/Refusal;"), (0, .interfaceMethodref 2 32), (0, .nameAndType 33 34), (0, u "copyOf"), (0, u "(Ljava/util/Collection;)Ljava/util/List;"), (0, .fieldref 8 36), (0, .nameAndType 37 38), (0, u "bindingTargets"), (0, u "Ljava/util/List;"), (9, u "(Lcom/example/rosterd/rosterd/core/Refusal;Ljava/lang/String;)V"), (0, u "serialVersionUID"), (0, u "J"), (10, u "()Lcom/example/rosterd/rosterd/core/Refusal;")] 18

def k29c0 : Code := { maxStack := 4, maxLocals := 3, code := prog_37_method_1_code, exceptionTable := #[], attributes := #[] }
def k29m0 : Method := { name := "<init>", desc := "(Lcom/example/rosterd/rosterd/core/Refusal;Ljava/lang/String;)V", sig := { parameters := [(.object "com/example/rosterd/rosterd/core/Refusal"), (.object "java/lang/String")], returnType := none }, accessFlags := 1, code := some k29c0 }
def k29c1 : Code := { maxStack := 3, maxLocals := 4, code := prog_37_method_2_code, exceptionTable := #[], attributes := #[] }
def k29m1 : Method := { name := "<init>", desc := "(Lcom/example/rosterd/rosterd/core/Refusal;Ljava/lang/String;Ljava/util/List;)V", sig := { parameters := [(.object "com/example/rosterd/rosterd/core/Refusal"), (.object "java/lang/String"), (.object "java/util/List")], returnType := none }, accessFlags := 1, code := some k29c1 }
def k29c2 : Code := { maxStack := 1, maxLocals := 1, code := prog_37_method_4_code, exceptionTable := #[], attributes := #[] }
def k29m2 : Method := { name := "refusal", desc := "()Lcom/example/rosterd/rosterd/core/Refusal;", sig := { parameters := [], returnType := some (.object "com/example/rosterd/rosterd/core/Refusal") }, accessFlags := 1, code := some k29c2 }
def k29c3 : Code := { maxStack := 1, maxLocals := 1, code := prog_37_method_5_code, exceptionTable := #[], attributes := #[] }
def k29m3 : Method := { name := "bindingTargets", desc := "()Ljava/util/List;", sig := { parameters := [], returnType := some (.object "java/util/List") }, accessFlags := 1, code := some k29c3 }
/-- com/example/rosterd/rosterd/core/RosterException -/
def k29 : Class := { plain "com/example/rosterd/rosterd/core/RosterException" (some 28) with
  accessFlags := 49
  interfaces := #[]
  cf := some (fileOf pool29 8 #[] #[{ accessFlags := 1, nameIndex := 11, descriptorIndex := 48, attributes := #[] }, { accessFlags := 1, nameIndex := 11, descriptorIndex := 12, attributes := #[] }, { accessFlags := 1, nameIndex := 19, descriptorIndex := 61, attributes := #[] }, { accessFlags := 1, nameIndex := 37, descriptorIndex := 6, attributes := #[] }] 49 14 #[] #[{ accessFlags := 26, nameIndex := 49, descriptorIndex := 50, attributes := #[] }, { accessFlags := 18, nameIndex := 19, descriptorIndex := 30, attributes := #[] }, { accessFlags := 146, nameIndex := 37, descriptorIndex := 38, attributes := #[] }])
  fields := #[{ name := "serialVersionUID", type := .long, accessFlags := 26, slot := 0, constantValue := 0 }, { name := "refusal", type := (.object "com/example/rosterd/rosterd/core/Refusal"), accessFlags := 18, slot := 6, constantValue := 0 }, { name := "bindingTargets", type := (.object "java/util/List"), accessFlags := 146, slot := 7, constantValue := 0 }]
  methods := #[k29m0, k29m1, k29m2, k29m3]
  instanceTypes := #[(.object "java/lang/Object"), (.object "java/lang/String"), (.object "java/lang/Throwable"), (.array (.object "java/lang/StackTraceElement")), .int, (.object "java/util/List"), (.object "com/example/rosterd/rosterd/core/Refusal"), (.object "java/util/List")]
  staticTypes := #[.long]
  resolved := Array.replicate 80 none
  statics := none }

def pool30 : Array CpInfo := pool [(2, .class_ 4), (1, u "java/lang/Object"), (0, u "<init>"), (0, u "()V"), (35, .class_ 44), (1, u "java/util/Objects"), (0, u "requireNonNull"), (48, u "(Ljava/lang/Object;Ljava/lang/String;)Ljava/lang/Object;")] 89

def k30m0 : Method := { name := "<init>", desc := "()V", sig := { parameters := [], returnType := none }, accessFlags := 2, code := none }
def k30c1 : Code := { maxStack := 3, maxLocals := 2, code := jdk_31_method_11_code, exceptionTable := #[], attributes := #[] }
def k30m1 : Method := { name := "requireNonNull", desc := "(Ljava/lang/Object;Ljava/lang/String;)Ljava/lang/Object;", sig := { parameters := [(.object "java/lang/Object"), (.object "java/lang/String")], returnType := some (.object "java/lang/Object") }, accessFlags := 9, code := some k30c1 }
/-- java/util/Objects -/
def k30 : Class := { plain "java/util/Objects" (some 0) with
  accessFlags := 49
  interfaces := #[]
  cf := some (fileOf pool30 42 #[] #[{ accessFlags := 2, nameIndex := 5, descriptorIndex := 6, attributes := #[] }, { accessFlags := 9, nameIndex := 45, descriptorIndex := 94, attributes := #[] }] 49 2 #[] #[])
  fields := #[]
  methods := #[k30m0, k30m1]
  instanceTypes := #[]
  staticTypes := #[]
  resolved := Array.replicate 184 none
  statics := none }

def pool31 : Array CpInfo := pool [(2, .class_ 4), (1, u "java/util/AbstractCollection"), (0, u "<init>"), (0, u "()V"), (1, .class_ 10), (1, u "java/util/ImmutableCollections"), (2, .class_ 14), (0, u "java/util/ImmutableCollections$AbstractImmutableCollection")] 41

def k31m0 : Method := { name := "<init>", desc := "()V", sig := { parameters := [], returnType := none }, accessFlags := 0, code := none }
/-- java/util/ImmutableCollections$AbstractImmutableCollection -/
def k31 : Class := { plain "java/util/ImmutableCollections$AbstractImmutableCollection" (some 16) with
  accessFlags := 1056
  interfaces := #[]
  cf := some (fileOf pool31 13 #[.nestHost 8] #[{ accessFlags := 0, nameIndex := 5, descriptorIndex := 6, attributes := #[] }] 1056 2 #[] #[])
  fields := #[]
  methods := #[k31m0]
  instanceTypes := #[]
  staticTypes := #[]
  resolved := Array.replicate 56 none
  statics := none }

def pool32 : Array CpInfo := pool [(2, .class_ 4), (1, u "java/util/ImmutableCollections$AbstractImmutableCollection"), (0, u "<init>"), (0, u "()V"), (1, .class_ 10), (1, u "java/util/ImmutableCollections"), (3, .class_ 16), (1, u "java/util/ImmutableCollections$AbstractImmutableList"), (60, .class_ 78), (0, u "java/util/List"), (45, .class_ 125), (0, u "java/util/RandomAccess")] 70

def k32m0 : Method := { name := "<init>", desc := "()V", sig := { parameters := [], returnType := none }, accessFlags := 0, code := none }
/-- java/util/ImmutableCollections$AbstractImmutableList -/
def k32 : Class := { plain "java/util/ImmutableCollections$AbstractImmutableList" (some 31) with
  accessFlags := 1056
  interfaces := #[18, 20]
  cf := some (fileOf pool32 14 #[.nestHost 8] #[{ accessFlags := 0, nameIndex := 5, descriptorIndex := 6, attributes := #[] }] 1056 2 #[77, 124] #[])
  fields := #[]
  methods := #[k32m0]
  instanceTypes := #[]
  staticTypes := #[]
  resolved := Array.replicate 196 none
  statics := none }

def pool33 : Array CpInfo := pool [(2, .class_ 4), (1, u "java/util/ImmutableCollections$AbstractImmutableList"), (9, .class_ 16), (1, u "java/util/ImmutableCollections$List12"), (0, u "e0"), (0, u "Ljava/lang/Object;"), (1, .class_ 22), (1, u "java/util/ImmutableCollections"), (3, u "e1"), (43, .class_ 71), (0, u "java/io/Serializable")] 53

/-- java/util/ImmutableCollections$List12 -/
def k33 : Class := { plain "java/util/ImmutableCollections$List12" (some 32) with
  accessFlags := 48
  interfaces := #[4]
  cf := some (fileOf pool33 14 #[.nestHost 20] #[] 48 2 #[70] #[{ accessFlags := 18, nameIndex := 17, descriptorIndex := 18, attributes := #[] }, { accessFlags := 18, nameIndex := 26, descriptorIndex := 18, attributes := #[] }])
  fields := #[{ name := "e0", type := (.object "java/lang/Object"), accessFlags := 18, slot := 0, constantValue := 0 }, { name := "e1", type := (.object "java/lang/Object"), accessFlags := 18, slot := 1, constantValue := 0 }]
  methods := #[]
  instanceTypes := #[(.object "java/lang/Object"), (.object "java/lang/Object")]
  staticTypes := #[]
  resolved := Array.replicate 125 none
  statics := none }

def pool34 : Array CpInfo := pool [(2, .class_ 4), (1, u "java/util/ImmutableCollections$AbstractImmutableList"), (3, .class_ 10), (1, u "java/util/ImmutableCollections$ListN"), (0, u "elements"), (0, u "[Ljava/lang/Object;"), (2, u "allowNulls"), (0, u "Z"), (42, .class_ 60), (0, u "java/io/Serializable"), (53, .class_ 115), (0, u "java/util/ImmutableCollections")] 3

/-- java/util/ImmutableCollections$ListN -/
def k34 : Class := { plain "java/util/ImmutableCollections$ListN" (some 32) with
  accessFlags := 48
  interfaces := #[4]
  cf := some (fileOf pool34 8 #[.nestHost 114] #[] 48 2 #[59] #[{ accessFlags := 18, nameIndex := 11, descriptorIndex := 12, attributes := #[] }, { accessFlags := 18, nameIndex := 15, descriptorIndex := 16, attributes := #[] }])
  fields := #[{ name := "elements", type := (.array (.object "java/lang/Object")), accessFlags := 18, slot := 0, constantValue := 0 }, { name := "allowNulls", type := .boolean, accessFlags := 18, slot := 1, constantValue := 0 }]
  methods := #[]
  instanceTypes := #[(.array (.object "java/lang/Object")), .boolean]
  staticTypes := #[]
  resolved := Array.replicate 119 none
  statics := none }

def pool35 : Array CpInfo := pool [(4, .class_ 6), (1, u "java/lang/Object"), (0, u "<init>"), (0, u "()V"), (5, .class_ 16), (1, u "java/lang/StringLatin1"), (104, u "$assertionsDisabled"), (0, u "Z"), (98, .class_ 223), (1, u "java/lang/StringLatin1$LinesSpliterator"), (166, .class_ 391), (0, u "java/lang/StringLatin1$CharsSpliterator")] 3

def k35m0 : Method := { name := "<init>", desc := "()V", sig := { parameters := [], returnType := none }, accessFlags := 0, code := none }
/-- java/lang/StringLatin1 -/
def k35 : Class := { plain "java/lang/StringLatin1" (some 0) with
  accessFlags := 48
  interfaces := #[]
  cf := some (fileOf pool35 14 #[.nestMembers #[390, 221]] #[{ accessFlags := 0, nameIndex := 7, descriptorIndex := 8, attributes := #[] }] 48 4 #[] #[{ accessFlags := 4120, nameIndex := 121, descriptorIndex := 122, attributes := #[] }])
  fields := #[{ name := "$assertionsDisabled", type := .boolean, accessFlags := 4120, slot := 0, constantValue := 0 }]
  methods := #[k35m0]
  instanceTypes := #[]
  staticTypes := #[.boolean]
  resolved := Array.replicate 395 none
  statics := none }

def pool36 : Array CpInfo := pool [(2, .class_ 4), (1, u "java/lang/Object"), (0, u "<init>"), (0, u "()V"), (17, .class_ 26), (1, u "jdk/internal/util/Preconditions"), (28, .class_ 56), (0, u "jdk/internal/util/Preconditions$4"), (57, .class_ 115), (0, u "jdk/internal/util/Preconditions$1"), (7, u "SIOOBE_FORMATTER"), (0, u "Ljava/util/function/BiFunction;"), (0, .class_ 126), (0, u "jdk/internal/util/Preconditions$2"), (3, u "AIOOBE_FORMATTER"), (0, .class_ 132), (0, u "jdk/internal/util/Preconditions$3"), (3, u "IOOBE_FORMATTER")] 57

def k36m0 : Method := { name := "<init>", desc := "()V", sig := { parameters := [], returnType := none }, accessFlags := 1, code := none }
/-- jdk/internal/util/Preconditions -/
def k36 : Class := { plain "jdk/internal/util/Preconditions" (some 0) with
  accessFlags := 33
  interfaces := #[]
  cf := some (fileOf pool36 24 #[.nestMembers #[55, 131, 125, 114]] #[{ accessFlags := 1, nameIndex := 5, descriptorIndex := 6, attributes := #[] }] 33 2 #[] #[{ accessFlags := 25, nameIndex := 123, descriptorIndex := 124, attributes := #[] }, { accessFlags := 25, nameIndex := 130, descriptorIndex := 124, attributes := #[] }, { accessFlags := 25, nameIndex := 136, descriptorIndex := 124, attributes := #[] }])
  fields := #[{ name := "SIOOBE_FORMATTER", type := (.object "java/util/function/BiFunction"), accessFlags := 25, slot := 0, constantValue := 0 }, { name := "AIOOBE_FORMATTER", type := (.object "java/util/function/BiFunction"), accessFlags := 25, slot := 1, constantValue := 0 }, { name := "IOOBE_FORMATTER", type := (.object "java/util/function/BiFunction"), accessFlags := 25, slot := 2, constantValue := 0 }]
  methods := #[k36m0]
  instanceTypes := #[]
  staticTypes := #[(.object "java/util/function/BiFunction"), (.object "java/util/function/BiFunction"), (.object "java/util/function/BiFunction")]
  resolved := Array.replicate 194 none
  statics := some 6 }

def pool37 : Array CpInfo := pool [(9, u "<init>"), (6, .class_ 18), (1, u "java/lang/Object"), (0, u "()V"), (1, .class_ 23), (1, u "jdk/internal/util/ArraysSupport"), (0, u "LOG2_ARRAY_LONG_INDEX_SCALE"), (0, u "I"), (2, u "U"), (0, u "Ljdk/internal/misc/Unsafe;"), (8, u "BIG_ENDIAN"), (0, u "Z"), (8, u "LOG2_BYTE_BIT_SIZE"), (4, u "LOG2_ARRAY_INT_INDEX_SCALE"), (54, u "JLA"), (0, u "Ljdk/internal/access/JavaLangAccess;"), (11, u "LOG2_ARRAY_BOOLEAN_INDEX_SCALE"), (9, u "LOG2_ARRAY_BYTE_INDEX_SCALE"), (5, u "LOG2_ARRAY_CHAR_INDEX_SCALE"), (5, u "LOG2_ARRAY_SHORT_INDEX_SCALE"), (18, u "LOG2_ARRAY_FLOAT_INDEX_SCALE"), (24, u "LOG2_ARRAY_DOUBLE_INDEX_SCALE"), (89, u "T_BOOLEAN"), (2, u "T_CHAR"), (1, u "T_FLOAT"), (1, u "T_DOUBLE"), (1, u "T_BYTE"), (1, u "T_SHORT"), (1, u "T_INT"), (1, u "T_LONG"), (1, u "SOFT_MAX_ARRAY_LENGTH")] 83

def k37m0 : Method := { name := "<init>", desc := "()V", sig := { parameters := [], returnType := none }, accessFlags := 2, code := none }
/-- jdk/internal/util/ArraysSupport -/
def k37 : Class := { plain "jdk/internal/util/ArraysSupport" (some 0) with
  accessFlags := 33
  interfaces := #[]
  cf := some (fileOf pool37 21 #[] #[{ accessFlags := 2, nameIndex := 9, descriptorIndex := 19, attributes := #[] }] 33 16 #[] #[{ accessFlags := 24, nameIndex := 28, descriptorIndex := 29, attributes := #[] }, { accessFlags := 26, nameIndex := 38, descriptorIndex := 39, attributes := #[] }, { accessFlags := 25, nameIndex := 121, descriptorIndex := 25, attributes := #[] }, { accessFlags := 25, nameIndex := 131, descriptorIndex := 25, attributes := #[] }, { accessFlags := 25, nameIndex := 137, descriptorIndex := 25, attributes := #[] }, { accessFlags := 25, nameIndex := 143, descriptorIndex := 25, attributes := #[] }, { accessFlags := 25, nameIndex := 53, descriptorIndex := 25, attributes := #[] }, { accessFlags := 25, nameIndex := 24, descriptorIndex := 25, attributes := #[] }, { accessFlags := 25, nameIndex := 162, descriptorIndex := 25, attributes := #[] }, { accessFlags := 25, nameIndex := 187, descriptorIndex := 25, attributes := #[] }, { accessFlags := 26, nameIndex := 48, descriptorIndex := 25, attributes := #[] }, { accessFlags := 25, nameIndex := 277, descriptorIndex := 25, attributes := #[] }, { accessFlags := 25, nameIndex := 280, descriptorIndex := 25, attributes := #[] }, { accessFlags := 25, nameIndex := 282, descriptorIndex := 25, attributes := #[] }, { accessFlags := 25, nameIndex := 284, descriptorIndex := 25, attributes := #[] }, { accessFlags := 25, nameIndex := 286, descriptorIndex := 25, attributes := #[] }, { accessFlags := 25, nameIndex := 288, descriptorIndex := 25, attributes := #[] }, { accessFlags := 25, nameIndex := 290, descriptorIndex := 25, attributes := #[] }, { accessFlags := 25, nameIndex := 292, descriptorIndex := 25, attributes := #[] }, { accessFlags := 26, nameIndex := 108, descriptorIndex := 109, attributes := #[] }, { accessFlags := 25, nameIndex := 294, descriptorIndex := 25, attributes := #[] }])
  fields := #[{ name := "U", type := (.object "jdk/internal/misc/Unsafe"), accessFlags := 24, slot := 0, constantValue := 0 }, { name := "BIG_ENDIAN", type := .boolean, accessFlags := 26, slot := 1, constantValue := 0 }, { name := "LOG2_ARRAY_BOOLEAN_INDEX_SCALE", type := .int, accessFlags := 25, slot := 2, constantValue := 0 }, { name := "LOG2_ARRAY_BYTE_INDEX_SCALE", type := .int, accessFlags := 25, slot := 3, constantValue := 0 }, { name := "LOG2_ARRAY_CHAR_INDEX_SCALE", type := .int, accessFlags := 25, slot := 4, constantValue := 0 }, { name := "LOG2_ARRAY_SHORT_INDEX_SCALE", type := .int, accessFlags := 25, slot := 5, constantValue := 0 }, { name := "LOG2_ARRAY_INT_INDEX_SCALE", type := .int, accessFlags := 25, slot := 6, constantValue := 0 }, { name := "LOG2_ARRAY_LONG_INDEX_SCALE", type := .int, accessFlags := 25, slot := 7, constantValue := 0 }, { name := "LOG2_ARRAY_FLOAT_INDEX_SCALE", type := .int, accessFlags := 25, slot := 8, constantValue := 0 }, { name := "LOG2_ARRAY_DOUBLE_INDEX_SCALE", type := .int, accessFlags := 25, slot := 9, constantValue := 0 }, { name := "LOG2_BYTE_BIT_SIZE", type := .int, accessFlags := 26, slot := 10, constantValue := 0 }, { name := "T_BOOLEAN", type := .int, accessFlags := 25, slot := 11, constantValue := 0 }, { name := "T_CHAR", type := .int, accessFlags := 25, slot := 12, constantValue := 0 }, { name := "T_FLOAT", type := .int, accessFlags := 25, slot := 13, constantValue := 0 }, { name := "T_DOUBLE", type := .int, accessFlags := 25, slot := 14, constantValue := 0 }, { name := "T_BYTE", type := .int, accessFlags := 25, slot := 15, constantValue := 0 }, { name := "T_SHORT", type := .int, accessFlags := 25, slot := 16, constantValue := 0 }, { name := "T_INT", type := .int, accessFlags := 25, slot := 17, constantValue := 0 }, { name := "T_LONG", type := .int, accessFlags := 25, slot := 18, constantValue := 0 }, { name := "JLA", type := (.object "jdk/internal/access/JavaLangAccess"), accessFlags := 26, slot := 19, constantValue := 0 }, { name := "SOFT_MAX_ARRAY_LENGTH", type := .int, accessFlags := 25, slot := 20, constantValue := 0 }]
  methods := #[k37m0]
  instanceTypes := #[]
  staticTypes := #[(.object "jdk/internal/misc/Unsafe"), .boolean, .int, .int, .int, .int, .int, .int, .int, .int, .int, .int, .int, .int, .int, .int, .int, .int, .int, (.object "jdk/internal/access/JavaLangAccess"), .int]
  resolved := Array.replicate 378 none
  statics := none }

def pool38 : Array CpInfo := pool [(2, .class_ 4), (1, u "java/lang/Object"), (0, u "<init>"), (0, u "()V"), (12, .class_ 20), (0, u "java/util/Collections"), (63, u "r"), (0, u "Ljava/util/Random;"), (80, .class_ 167), (0, u "java/util/Collections$UnmodifiableCollection"), (6, .class_ 175), (0, u "java/util/Collections$UnmodifiableSequencedCollection"), (6, .class_ 183), (0, u "java/util/Collections$UnmodifiableSet"), (6, .class_ 191), (0, u "java/util/Collections$UnmodifiableSequencedSet"), (6, .class_ 199), (0, u "java/util/Collections$UnmodifiableSortedSet"), (6, .class_ 207), (0, u "java/util/Collections$UnmodifiableNavigableSet"), (4, .class_ 213), (0, u "java/util/Collections$UnmodifiableList"), (1, .class_ 216), (0, u "java/util/Collections$UnmodifiableRandomAccessList"), (6, .class_ 224), (0, u "java/util/Collections$UnmodifiableMap"), (6, .class_ 232), (0, u "java/util/Collections$UnmodifiableSequencedMap"), (4, .class_ 238), (0, u "java/util/Collections$UnmodifiableSortedMap"), (6, .class_ 246), (0, u "java/util/Collections$UnmodifiableNavigableMap"), (3, .class_ 251), (0, u "java/util/Collections$SynchronizedCollection"), (4, .class_ 257), (0, u "java/util/Collections$SynchronizedSet"), (4, .class_ 263), (0, u "java/util/Collections$SynchronizedSortedSet"), (1, .class_ 266), (0, u "java/util/Collections$SynchronizedNavigableSet"), (1, .class_ 269), (0, u "java/util/Collections$SynchronizedRandomAccessList"), (1, .class_ 272), (0, u "java/util/Collections$SynchronizedList"), (5, .class_ 279), (0, u "java/util/Collections$SynchronizedMap"), (1, .class_ 282), (0, u "java/util/Collections$SynchronizedSortedMap"), (1, .class_ 285), (0, u "java/util/Collections$SynchronizedNavigableMap"), (1, .class_ 288), (0, u "java/util/Collections$CheckedCollection"), (11, .class_ 301), (0, u "java/util/Collections$CheckedQueue"), (3, .class_ 306), (0, u "java/util/Collections$CheckedSet"), (3, .class_ 311), (0, u "java/util/Collections$CheckedSortedSet"), (3, .class_ 316), (0, u "java/util/Collections$CheckedNavigableSet"), (3, .class_ 321), (0, u "java/util/Collections$CheckedRandomAccessList"), (3, .class_ 326), (0, u "java/util/Collections$CheckedList"), (1, .class_ 329), (0, u "java/util/Collections$CheckedMap"), (3, .class_ 334), (0, u "java/util/Collections$CheckedSortedMap"), (3, .class_ 339), (0, u "java/util/Collections$CheckedNavigableMap"), (4, .class_ 346), (1, u "java/util/Collections$EmptyIterator"), (3, .class_ 352), (1, u "java/util/Collections$EmptyListIterator"), (2, .class_ 357), (1, u "java/util/Collections$EmptyEnumeration"), (4, u "EMPTY_SET"), (0, u "Ljava/util/Set;"), (6, u "EMPTY_LIST"), (0, u "Ljava/util/List;"), (2, u "EMPTY_MAP"), (0, u "Ljava/util/Map;"), (4, .class_ 381), (0, u "java/util/Collections$SingletonSet"), (2, .class_ 385), (0, u "java/util/Collections$1"), (1, .class_ 388), (0, u "java/util/Collections$2"), (1, .class_ 391), (0, u "java/util/Collections$SingletonList"), (1, .class_ 394), (0, u "java/util/Collections$SingletonMap"), (22, .class_ 418), (0, u "java/util/Collections$CopiesList"), (4, .class_ 425), (1, u "java/util/Collections$ReverseComparator"), (8, .class_ 435), (0, u "java/util/Collections$ReverseComparator2"), (6, .class_ 443), (0, u "java/util/Collections$3"), (25, .class_ 470), (0, u "java/util/Collections$SetFromMap"), (2, .class_ 474), (0, u "java/util/Collections$SequencedSetFromMap"), (3, .class_ 479), (0, u "java/util/Collections$AsLIFOQueue"), (11, .class_ 492), (0, u "java/util/Collections$EmptySet"), (1, .class_ 495), (0, u "java/util/Collections$EmptyList"), (1, .class_ 498), (0, u "java/util/Collections$EmptyMap"), (1, u "BINARYSEARCH_THRESHOLD"), (0, u "I"), (2, u "REVERSE_THRESHOLD"), (1, u "SHUFFLE_THRESHOLD"), (1, u "FILL_THRESHOLD"), (1, u "ROTATE_THRESHOLD"), (1, u "COPY_THRESHOLD"), (1, u "REPLACEALL_THRESHOLD"), (1, u "INDEXOFSUBLIST_THRESHOLD"), (333, .class_ 851), (0, u "java/util/Collections$CheckedMap$CheckedEntrySet"), (0, .class_ 853), (0, u "java/util/Collections$CheckedMap$CheckedEntrySet$CheckedEntry"), (0, .class_ 855), (0, u "java/util/Collections$CheckedMap$CheckedEntrySet$1"), (0, .class_ 857), (0, u "java/util/Collections$CheckedList$1"), (0, .class_ 859), (0, u "java/util/Collections$CheckedCollection$1"), (0, .class_ 861), (0, u "java/util/Collections$UnmodifiableNavigableMap$EmptyNavigableMap"), (0, .class_ 863), (0, u "java/util/Collections$UnmodifiableMap$UnmodifiableEntrySet"), (0, .class_ 865), (0, u "java/util/Collections$UnmodifiableMap$UnmodifiableEntrySet$UnmodifiableEntry"), (0, .class_ 867), (0, u "java/util/Collections$UnmodifiableMap$UnmodifiableEntrySet$UnmodifiableEntrySetSpliterator"), (0, .class_ 869), (0, u "java/util/Collections$UnmodifiableMap$UnmodifiableEntrySet$1"), (0, .class_ 871), (0, u "java/util/Collections$UnmodifiableList$1"), (0, .class_ 873), (0, u "java/util/Collections$UnmodifiableNavigableSet$EmptyNavigableSet"), (0, .class_ 875), (0, u "java/util/Collections$UnmodifiableCollection$1")] 57

def k38m0 : Method := { name := "<init>", desc := "()V", sig := { parameters := [], returnType := none }, accessFlags := 2, code := none }
/-- java/util/Collections -/
def k38 : Class := { plain "java/util/Collections" (some 0) with
  accessFlags := 33
  interfaces := #[]
  cf := some (fileOf pool38 19 #[.nestMembers #[478, 473, 469, 434, 423, 417, 393, 390, 380, 497, 494, 491, 355, 350, 344, 338, 333, 328, 850, 852, 854, 320, 325, 856, 315, 310, 305, 300, 287, 858, 284, 281, 278, 268, 271, 265, 262, 256, 250, 245, 860, 237, 231, 223, 862, 864, 866, 868, 215, 212, 870, 206, 872, 198, 190, 182, 174, 166, 874, 442, 387, 384]] #[{ accessFlags := 2, nameIndex := 5, descriptorIndex := 6, attributes := #[] }] 33 2 #[] #[{ accessFlags := 26, nameIndex := 500, descriptorIndex := 501, attributes := #[] }, { accessFlags := 26, nameIndex := 504, descriptorIndex := 501, attributes := #[] }, { accessFlags := 26, nameIndex := 506, descriptorIndex := 501, attributes := #[] }, { accessFlags := 26, nameIndex := 508, descriptorIndex := 501, attributes := #[] }, { accessFlags := 26, nameIndex := 510, descriptorIndex := 501, attributes := #[] }, { accessFlags := 26, nameIndex := 512, descriptorIndex := 501, attributes := #[] }, { accessFlags := 26, nameIndex := 514, descriptorIndex := 501, attributes := #[] }, { accessFlags := 26, nameIndex := 516, descriptorIndex := 501, attributes := #[] }, { accessFlags := 10, nameIndex := 84, descriptorIndex := 85, attributes := #[] }, { accessFlags := 25, nameIndex := 362, descriptorIndex := 363, attributes := #[] }, { accessFlags := 25, nameIndex := 370, descriptorIndex := 371, attributes := #[] }, { accessFlags := 25, nameIndex := 374, descriptorIndex := 375, attributes := #[] }])
  fields := #[{ name := "BINARYSEARCH_THRESHOLD", type := .int, accessFlags := 26, slot := 0, constantValue := 0 }, { name := "REVERSE_THRESHOLD", type := .int, accessFlags := 26, slot := 1, constantValue := 0 }, { name := "SHUFFLE_THRESHOLD", type := .int, accessFlags := 26, slot := 2, constantValue := 0 }, { name := "FILL_THRESHOLD", type := .int, accessFlags := 26, slot := 3, constantValue := 0 }, { name := "ROTATE_THRESHOLD", type := .int, accessFlags := 26, slot := 4, constantValue := 0 }, { name := "COPY_THRESHOLD", type := .int, accessFlags := 26, slot := 5, constantValue := 0 }, { name := "REPLACEALL_THRESHOLD", type := .int, accessFlags := 26, slot := 6, constantValue := 0 }, { name := "INDEXOFSUBLIST_THRESHOLD", type := .int, accessFlags := 26, slot := 7, constantValue := 0 }, { name := "r", type := (.object "java/util/Random"), accessFlags := 10, slot := 8, constantValue := 0 }, { name := "EMPTY_SET", type := (.object "java/util/Set"), accessFlags := 25, slot := 9, constantValue := 0 }, { name := "EMPTY_LIST", type := (.object "java/util/List"), accessFlags := 25, slot := 10, constantValue := 0 }, { name := "EMPTY_MAP", type := (.object "java/util/Map"), accessFlags := 25, slot := 11, constantValue := 0 }]
  methods := #[k38m0]
  instanceTypes := #[]
  staticTypes := #[.int, .int, .int, .int, .int, .int, .int, .int, (.object "java/util/Random"), (.object "java/util/Set"), (.object "java/util/List"), (.object "java/util/Map")]
  resolved := Array.replicate 933 none
  statics := some 7 }

def pool39 : Array CpInfo := pool [(2, .class_ 4), (1, u "java/util/AbstractList"), (0, u "<init>"), (0, u "()V"), (1, .class_ 10), (1, u "java/util/Collections"), (54, .class_ 66), (0, u "java/util/Collections$EmptyList"), (0, .class_ 68), (0, u "java/util/RandomAccess"), (0, .class_ 70), (0, u "java/io/Serializable"), (0, u "serialVersionUID"), (0, u "J")] 77

def k39m0 : Method := { name := "<init>", desc := "()V", sig := { parameters := [], returnType := none }, accessFlags := 2, code := none }
/-- java/util/Collections$EmptyList -/
def k39 : Class := { plain "java/util/Collections$EmptyList" (some 19) with
  accessFlags := 32
  interfaces := #[20, 4]
  cf := some (fileOf pool39 65 #[.nestHost 8] #[{ accessFlags := 2, nameIndex := 5, descriptorIndex := 6, attributes := #[] }] 32 2 #[67, 69] #[{ accessFlags := 26, nameIndex := 71, descriptorIndex := 72, attributes := #[] }])
  fields := #[{ name := "serialVersionUID", type := .long, accessFlags := 26, slot := 0, constantValue := 0 }]
  methods := #[k39m0]
  instanceTypes := #[.int]
  staticTypes := #[.long]
  resolved := Array.replicate 150 none
  statics := none }

def pool40 : Array CpInfo := pool [(2, .class_ 4), (1, u "java/lang/StackTraceElement"), (0, u "<init>"), (2, .class_ 10), (1, u "java/lang/Object"), (0, u "()V"), (2, u "format"), (0, u "B"), (2, u "classLoaderName"), (0, u "Ljava/lang/String;"), (2, u "moduleName"), (2, u "moduleVersion"), (12, u "declaringClass"), (4, u "methodName"), (2, u "fileName"), (2, u "lineNumber"), (0, u "I"), (65, u "declaringClassObject"), (0, u "Ljava/lang/Class;"), (33, .class_ 153), (1, u "java/lang/StackTraceElement$HashedModules"), (17, .class_ 172), (0, u "java/io/Serializable"), (0, u "NATIVE_METHOD"), (1, u "UNKNOWN_SOURCE"), (2, u "BUILTIN_CLASS_LOADER"), (1, u "JDK_NON_UPGRADEABLE_MODULE"), (1, u "serialVersionUID"), (0, u "J")] 51

def k40m0 : Method := { name := "<init>", desc := "()V", sig := { parameters := [], returnType := none }, accessFlags := 2, code := none }
/-- java/lang/StackTraceElement -/
def k40 : Class := { plain "java/lang/StackTraceElement" (some 0) with
  accessFlags := 49
  interfaces := #[4]
  cf := some (fileOf pool40 2 #[.nestMembers #[151]] #[{ accessFlags := 2, nameIndex := 5, descriptorIndex := 11, attributes := #[] }] 49 8 #[171] #[{ accessFlags := 26, nameIndex := 173, descriptorIndex := 19, attributes := #[] }, { accessFlags := 26, nameIndex := 175, descriptorIndex := 19, attributes := #[] }, { accessFlags := 130, nameIndex := 116, descriptorIndex := 117, attributes := #[] }, { accessFlags := 2, nameIndex := 18, descriptorIndex := 19, attributes := #[] }, { accessFlags := 2, nameIndex := 22, descriptorIndex := 19, attributes := #[] }, { accessFlags := 2, nameIndex := 25, descriptorIndex := 19, attributes := #[] }, { accessFlags := 2, nameIndex := 38, descriptorIndex := 19, attributes := #[] }, { accessFlags := 2, nameIndex := 43, descriptorIndex := 19, attributes := #[] }, { accessFlags := 2, nameIndex := 46, descriptorIndex := 19, attributes := #[] }, { accessFlags := 2, nameIndex := 49, descriptorIndex := 50, attributes := #[] }, { accessFlags := 2, nameIndex := 14, descriptorIndex := 15, attributes := #[] }, { accessFlags := 26, nameIndex := 178, descriptorIndex := 15, attributes := #[] }, { accessFlags := 26, nameIndex := 180, descriptorIndex := 15, attributes := #[] }, { accessFlags := 26, nameIndex := 182, descriptorIndex := 183, attributes := #[] }])
  fields := #[{ name := "NATIVE_METHOD", type := (.object "java/lang/String"), accessFlags := 26, slot := 0, constantValue := 0 }, { name := "UNKNOWN_SOURCE", type := (.object "java/lang/String"), accessFlags := 26, slot := 1, constantValue := 0 }, { name := "declaringClassObject", type := (.object "java/lang/Class"), accessFlags := 130, slot := 0, constantValue := 0 }, { name := "classLoaderName", type := (.object "java/lang/String"), accessFlags := 2, slot := 1, constantValue := 0 }, { name := "moduleName", type := (.object "java/lang/String"), accessFlags := 2, slot := 2, constantValue := 0 }, { name := "moduleVersion", type := (.object "java/lang/String"), accessFlags := 2, slot := 3, constantValue := 0 }, { name := "declaringClass", type := (.object "java/lang/String"), accessFlags := 2, slot := 4, constantValue := 0 }, { name := "methodName", type := (.object "java/lang/String"), accessFlags := 2, slot := 5, constantValue := 0 }, { name := "fileName", type := (.object "java/lang/String"), accessFlags := 2, slot := 6, constantValue := 0 }, { name := "lineNumber", type := .int, accessFlags := 2, slot := 7, constantValue := 0 }, { name := "format", type := .byte, accessFlags := 2, slot := 8, constantValue := 0 }, { name := "BUILTIN_CLASS_LOADER", type := .byte, accessFlags := 26, slot := 2, constantValue := 0 }, { name := "JDK_NON_UPGRADEABLE_MODULE", type := .byte, accessFlags := 26, slot := 3, constantValue := 0 }, { name := "serialVersionUID", type := .long, accessFlags := 26, slot := 4, constantValue := 0 }]
  methods := #[k40m0]
  instanceTypes := #[(.object "java/lang/Class"), (.object "java/lang/String"), (.object "java/lang/String"), (.object "java/lang/String"), (.object "java/lang/String"), (.object "java/lang/String"), (.object "java/lang/String"), .int, .byte]
  staticTypes := #[(.object "java/lang/String"), (.object "java/lang/String"), .byte, .byte, .long]
  resolved := Array.replicate 235 none
  statics := none }

/-- the primitive byte -/
def k41 : Class := { plain "byte" none with kind := .primitive 'B', accessFlags := 0x411 }
/-- [B -/
def k42 : Class := { plain "[B" (some 0) with kind := .array 41 .byte, interfaces := #[21, 4], accessFlags := 1041 }

/-- the primitive char -/
def k43 : Class := { plain "char" none with kind := .primitive 'C', accessFlags := 0x411 }
/-- [C -/
def k44 : Class := { plain "[C" (some 0) with kind := .array 43 .char, interfaces := #[21, 4], accessFlags := 1041 }

/-- the primitive int -/
def k45 : Class := { plain "int" none with kind := .primitive 'I', accessFlags := 0x411 }
/-- [I -/
def k46 : Class := { plain "[I" (some 0) with kind := .array 45 .int, interfaces := #[21, 4], accessFlags := 1041 }

/-- [Ljava/lang/Integer; -/
def k47 : Class := { plain "[Ljava/lang/Integer;" (some 0) with kind := .array 9 (.object "java/lang/Integer"), interfaces := #[21, 4], accessFlags := 1041 }

/-- [Ljava/lang/Object; -/
def k48 : Class := { plain "[Ljava/lang/Object;" (some 0) with kind := .array 0 (.object "java/lang/Object"), interfaces := #[21, 4], accessFlags := 1041 }

/-- [Ljava/lang/StackTraceElement; -/
def k49 : Class := { plain "[Ljava/lang/StackTraceElement;" (some 0) with kind := .array 40 (.object "java/lang/StackTraceElement"), interfaces := #[21, 4], accessFlags := 1041 }

/-- [Ljava/lang/Throwable; -/
def k50 : Class := { plain "[Ljava/lang/Throwable;" (some 0) with kind := .array 26 (.object "java/lang/Throwable"), interfaces := #[21, 4], accessFlags := 1041 }

def heap : Heap := #[{ cls := 6, slots := #[.ref 266, .ref 277, .ref 276, .ref 267, .ref 278, .ref 281, .ref 273, .ref 271, .ref 268, .ref 280, .ref 272, .ref 283, .ref 282, .ref 274, .ref 279, .ref 270, .ref 269, .ref 288, .ref 285, .ref 284, .ref 275, .ref 287, .ref 286, .null], vm := .statics 6 },
  { cls := 10, slots := #[.int 0, .int 127, .ref 8, .null, .int 0], vm := .statics 10 },
  { cls := 12, slots := #[.long 0, .int 1, .null, .int 0, .null, .int 0, .int 0], vm := .statics 12 },
  { cls := 22, slots := #[.long 0, .int 0, .ref 290, .ref 291], vm := .statics 22 },
  { cls := 25, slots := #[.long 0, .int 0, .null, .null, .ref 289, .null, .null, .null, .int 0, .int 0], vm := .statics 25 },
  { cls := 26, slots := #[.long 0, .ref 292, .ref 293, .null, .null, .null, .null, .ref 294, .int 1], vm := .statics 26 },
  { cls := 36, slots := #[.null, .null, .null], vm := .statics 36 },
  { cls := 38, slots := #[.int 0, .int 0, .int 0, .int 0, .int 0, .int 0, .int 0, .int 0, .null, .null, .ref 293, .null], vm := .statics 38 },
  { cls := 47, slots := #[.ref 10, .ref 11, .ref 12, .ref 13, .ref 14, .ref 15, .ref 16, .ref 17, .ref 18, .ref 19, .ref 20, .ref 21, .ref 22, .ref 23, .ref 24, .ref 25, .ref 26, .ref 27, .ref 28, .ref 29, .ref 30, .ref 31, .ref 32, .ref 33, .ref 34, .ref 35, .ref 36, .ref 37, .ref 38, .ref 39, .ref 40, .ref 41, .ref 42, .ref 43, .ref 44, .ref 45, .ref 46, .ref 47, .ref 48, .ref 49, .ref 50, .ref 51, .ref 52, .ref 53, .ref 54, .ref 55, .ref 56, .ref 57, .ref 58, .ref 59, .ref 60, .ref 61, .ref 62, .ref 63, .ref 64, .ref 65, .ref 66, .ref 67, .ref 68, .ref 69, .ref 70, .ref 71, .ref 72, .ref 73, .ref 74, .ref 75, .ref 76, .ref 77, .ref 78, .ref 79, .ref 80, .ref 81, .ref 82, .ref 83, .ref 84, .ref 85, .ref 86, .ref 87, .ref 88, .ref 89, .ref 90, .ref 91, .ref 92, .ref 93, .ref 94, .ref 95, .ref 96, .ref 97, .ref 98, .ref 99, .ref 100, .ref 101, .ref 102, .ref 103, .ref 104, .ref 105, .ref 106, .ref 107, .ref 108, .ref 109, .ref 110, .ref 111, .ref 112, .ref 113, .ref 114, .ref 115, .ref 116, .ref 117, .ref 118, .ref 119, .ref 120, .ref 121, .ref 122, .ref 123, .ref 124, .ref 125, .ref 126, .ref 127, .ref 128, .ref 129, .ref 130, .ref 131, .ref 132, .ref 133, .ref 134, .ref 135, .ref 136, .ref 137, .ref 138, .ref 139, .ref 140, .ref 141, .ref 142, .ref 143, .ref 144, .ref 145, .ref 146, .ref 147, .ref 148, .ref 149, .ref 150, .ref 151, .ref 152, .ref 153, .ref 154, .ref 155, .ref 156, .ref 157, .ref 158, .ref 159, .ref 160, .ref 161, .ref 162, .ref 163, .ref 164, .ref 165, .ref 166, .ref 167, .ref 168, .ref 169, .ref 170, .ref 171, .ref 172, .ref 173, .ref 174, .ref 175, .ref 176, .ref 177, .ref 178, .ref 179, .ref 180, .ref 181, .ref 182, .ref 183, .ref 184, .ref 185, .ref 186, .ref 187, .ref 188, .ref 189, .ref 190, .ref 191, .ref 192, .ref 193, .ref 194, .ref 195, .ref 196, .ref 197, .ref 198, .ref 199, .ref 200, .ref 201, .ref 202, .ref 203, .ref 204, .ref 205, .ref 206, .ref 207, .ref 208, .ref 209, .ref 210, .ref 211, .ref 212, .ref 213, .ref 214, .ref 215, .ref 216, .ref 217, .ref 218, .ref 219, .ref 220, .ref 221, .ref 222, .ref 223, .ref 224, .ref 225, .ref 226, .ref 227, .ref 228, .ref 229, .ref 230, .ref 231, .ref 232, .ref 233, .ref 234, .ref 235, .ref 236, .ref 237, .ref 238, .ref 239, .ref 240, .ref 241, .ref 242, .ref 243, .ref 244, .ref 245, .ref 246, .ref 247, .ref 248, .ref 249, .ref 250, .ref 251, .ref 252, .ref 253, .ref 254, .ref 255, .ref 256, .ref 257, .ref 258, .ref 259, .ref 260, .ref 261, .ref 262, .ref 263, .ref 264, .ref 265], vm := .none },
  { cls := 48, slots := #[], vm := .none },
  { cls := 9, slots := #[.int (-128)], vm := .none },
  { cls := 9, slots := #[.int (-127)], vm := .none },
  { cls := 9, slots := #[.int (-126)], vm := .none },
  { cls := 9, slots := #[.int (-125)], vm := .none },
  { cls := 9, slots := #[.int (-124)], vm := .none },
  { cls := 9, slots := #[.int (-123)], vm := .none },
  { cls := 9, slots := #[.int (-122)], vm := .none },
  { cls := 9, slots := #[.int (-121)], vm := .none },
  { cls := 9, slots := #[.int (-120)], vm := .none },
  { cls := 9, slots := #[.int (-119)], vm := .none },
  { cls := 9, slots := #[.int (-118)], vm := .none },
  { cls := 9, slots := #[.int (-117)], vm := .none },
  { cls := 9, slots := #[.int (-116)], vm := .none },
  { cls := 9, slots := #[.int (-115)], vm := .none },
  { cls := 9, slots := #[.int (-114)], vm := .none },
  { cls := 9, slots := #[.int (-113)], vm := .none },
  { cls := 9, slots := #[.int (-112)], vm := .none },
  { cls := 9, slots := #[.int (-111)], vm := .none },
  { cls := 9, slots := #[.int (-110)], vm := .none },
  { cls := 9, slots := #[.int (-109)], vm := .none },
  { cls := 9, slots := #[.int (-108)], vm := .none },
  { cls := 9, slots := #[.int (-107)], vm := .none },
  { cls := 9, slots := #[.int (-106)], vm := .none },
  { cls := 9, slots := #[.int (-105)], vm := .none },
  { cls := 9, slots := #[.int (-104)], vm := .none },
  { cls := 9, slots := #[.int (-103)], vm := .none },
  { cls := 9, slots := #[.int (-102)], vm := .none },
  { cls := 9, slots := #[.int (-101)], vm := .none },
  { cls := 9, slots := #[.int (-100)], vm := .none },
  { cls := 9, slots := #[.int (-99)], vm := .none },
  { cls := 9, slots := #[.int (-98)], vm := .none },
  { cls := 9, slots := #[.int (-97)], vm := .none },
  { cls := 9, slots := #[.int (-96)], vm := .none },
  { cls := 9, slots := #[.int (-95)], vm := .none },
  { cls := 9, slots := #[.int (-94)], vm := .none },
  { cls := 9, slots := #[.int (-93)], vm := .none },
  { cls := 9, slots := #[.int (-92)], vm := .none },
  { cls := 9, slots := #[.int (-91)], vm := .none },
  { cls := 9, slots := #[.int (-90)], vm := .none },
  { cls := 9, slots := #[.int (-89)], vm := .none },
  { cls := 9, slots := #[.int (-88)], vm := .none },
  { cls := 9, slots := #[.int (-87)], vm := .none },
  { cls := 9, slots := #[.int (-86)], vm := .none },
  { cls := 9, slots := #[.int (-85)], vm := .none },
  { cls := 9, slots := #[.int (-84)], vm := .none },
  { cls := 9, slots := #[.int (-83)], vm := .none },
  { cls := 9, slots := #[.int (-82)], vm := .none },
  { cls := 9, slots := #[.int (-81)], vm := .none },
  { cls := 9, slots := #[.int (-80)], vm := .none },
  { cls := 9, slots := #[.int (-79)], vm := .none },
  { cls := 9, slots := #[.int (-78)], vm := .none },
  { cls := 9, slots := #[.int (-77)], vm := .none },
  { cls := 9, slots := #[.int (-76)], vm := .none },
  { cls := 9, slots := #[.int (-75)], vm := .none },
  { cls := 9, slots := #[.int (-74)], vm := .none },
  { cls := 9, slots := #[.int (-73)], vm := .none },
  { cls := 9, slots := #[.int (-72)], vm := .none },
  { cls := 9, slots := #[.int (-71)], vm := .none },
  { cls := 9, slots := #[.int (-70)], vm := .none },
  { cls := 9, slots := #[.int (-69)], vm := .none },
  { cls := 9, slots := #[.int (-68)], vm := .none },
  { cls := 9, slots := #[.int (-67)], vm := .none },
  { cls := 9, slots := #[.int (-66)], vm := .none },
  { cls := 9, slots := #[.int (-65)], vm := .none },
  { cls := 9, slots := #[.int (-64)], vm := .none },
  { cls := 9, slots := #[.int (-63)], vm := .none },
  { cls := 9, slots := #[.int (-62)], vm := .none },
  { cls := 9, slots := #[.int (-61)], vm := .none },
  { cls := 9, slots := #[.int (-60)], vm := .none },
  { cls := 9, slots := #[.int (-59)], vm := .none },
  { cls := 9, slots := #[.int (-58)], vm := .none },
  { cls := 9, slots := #[.int (-57)], vm := .none },
  { cls := 9, slots := #[.int (-56)], vm := .none },
  { cls := 9, slots := #[.int (-55)], vm := .none },
  { cls := 9, slots := #[.int (-54)], vm := .none },
  { cls := 9, slots := #[.int (-53)], vm := .none },
  { cls := 9, slots := #[.int (-52)], vm := .none },
  { cls := 9, slots := #[.int (-51)], vm := .none },
  { cls := 9, slots := #[.int (-50)], vm := .none },
  { cls := 9, slots := #[.int (-49)], vm := .none },
  { cls := 9, slots := #[.int (-48)], vm := .none },
  { cls := 9, slots := #[.int (-47)], vm := .none },
  { cls := 9, slots := #[.int (-46)], vm := .none },
  { cls := 9, slots := #[.int (-45)], vm := .none },
  { cls := 9, slots := #[.int (-44)], vm := .none },
  { cls := 9, slots := #[.int (-43)], vm := .none },
  { cls := 9, slots := #[.int (-42)], vm := .none },
  { cls := 9, slots := #[.int (-41)], vm := .none },
  { cls := 9, slots := #[.int (-40)], vm := .none },
  { cls := 9, slots := #[.int (-39)], vm := .none },
  { cls := 9, slots := #[.int (-38)], vm := .none },
  { cls := 9, slots := #[.int (-37)], vm := .none },
  { cls := 9, slots := #[.int (-36)], vm := .none },
  { cls := 9, slots := #[.int (-35)], vm := .none },
  { cls := 9, slots := #[.int (-34)], vm := .none },
  { cls := 9, slots := #[.int (-33)], vm := .none },
  { cls := 9, slots := #[.int (-32)], vm := .none },
  { cls := 9, slots := #[.int (-31)], vm := .none },
  { cls := 9, slots := #[.int (-30)], vm := .none },
  { cls := 9, slots := #[.int (-29)], vm := .none },
  { cls := 9, slots := #[.int (-28)], vm := .none },
  { cls := 9, slots := #[.int (-27)], vm := .none },
  { cls := 9, slots := #[.int (-26)], vm := .none },
  { cls := 9, slots := #[.int (-25)], vm := .none },
  { cls := 9, slots := #[.int (-24)], vm := .none },
  { cls := 9, slots := #[.int (-23)], vm := .none },
  { cls := 9, slots := #[.int (-22)], vm := .none },
  { cls := 9, slots := #[.int (-21)], vm := .none },
  { cls := 9, slots := #[.int (-20)], vm := .none },
  { cls := 9, slots := #[.int (-19)], vm := .none },
  { cls := 9, slots := #[.int (-18)], vm := .none },
  { cls := 9, slots := #[.int (-17)], vm := .none },
  { cls := 9, slots := #[.int (-16)], vm := .none },
  { cls := 9, slots := #[.int (-15)], vm := .none },
  { cls := 9, slots := #[.int (-14)], vm := .none },
  { cls := 9, slots := #[.int (-13)], vm := .none },
  { cls := 9, slots := #[.int (-12)], vm := .none },
  { cls := 9, slots := #[.int (-11)], vm := .none },
  { cls := 9, slots := #[.int (-10)], vm := .none },
  { cls := 9, slots := #[.int (-9)], vm := .none },
  { cls := 9, slots := #[.int (-8)], vm := .none },
  { cls := 9, slots := #[.int (-7)], vm := .none },
  { cls := 9, slots := #[.int (-6)], vm := .none },
  { cls := 9, slots := #[.int (-5)], vm := .none },
  { cls := 9, slots := #[.int (-4)], vm := .none },
  { cls := 9, slots := #[.int (-3)], vm := .none },
  { cls := 9, slots := #[.int (-2)], vm := .none },
  { cls := 9, slots := #[.int (-1)], vm := .none },
  { cls := 9, slots := #[.int 0], vm := .none },
  { cls := 9, slots := #[.int 1], vm := .none },
  { cls := 9, slots := #[.int 2], vm := .none },
  { cls := 9, slots := #[.int 3], vm := .none },
  { cls := 9, slots := #[.int 4], vm := .none },
  { cls := 9, slots := #[.int 5], vm := .none },
  { cls := 9, slots := #[.int 6], vm := .none },
  { cls := 9, slots := #[.int 7], vm := .none },
  { cls := 9, slots := #[.int 8], vm := .none },
  { cls := 9, slots := #[.int 9], vm := .none },
  { cls := 9, slots := #[.int 10], vm := .none },
  { cls := 9, slots := #[.int 11], vm := .none },
  { cls := 9, slots := #[.int 12], vm := .none },
  { cls := 9, slots := #[.int 13], vm := .none },
  { cls := 9, slots := #[.int 14], vm := .none },
  { cls := 9, slots := #[.int 15], vm := .none },
  { cls := 9, slots := #[.int 16], vm := .none },
  { cls := 9, slots := #[.int 17], vm := .none },
  { cls := 9, slots := #[.int 18], vm := .none },
  { cls := 9, slots := #[.int 19], vm := .none },
  { cls := 9, slots := #[.int 20], vm := .none },
  { cls := 9, slots := #[.int 21], vm := .none },
  { cls := 9, slots := #[.int 22], vm := .none },
  { cls := 9, slots := #[.int 23], vm := .none },
  { cls := 9, slots := #[.int 24], vm := .none },
  { cls := 9, slots := #[.int 25], vm := .none },
  { cls := 9, slots := #[.int 26], vm := .none },
  { cls := 9, slots := #[.int 27], vm := .none },
  { cls := 9, slots := #[.int 28], vm := .none },
  { cls := 9, slots := #[.int 29], vm := .none },
  { cls := 9, slots := #[.int 30], vm := .none },
  { cls := 9, slots := #[.int 31], vm := .none },
  { cls := 9, slots := #[.int 32], vm := .none },
  { cls := 9, slots := #[.int 33], vm := .none },
  { cls := 9, slots := #[.int 34], vm := .none },
  { cls := 9, slots := #[.int 35], vm := .none },
  { cls := 9, slots := #[.int 36], vm := .none },
  { cls := 9, slots := #[.int 37], vm := .none },
  { cls := 9, slots := #[.int 38], vm := .none },
  { cls := 9, slots := #[.int 39], vm := .none },
  { cls := 9, slots := #[.int 40], vm := .none },
  { cls := 9, slots := #[.int 41], vm := .none },
  { cls := 9, slots := #[.int 42], vm := .none },
  { cls := 9, slots := #[.int 43], vm := .none },
  { cls := 9, slots := #[.int 44], vm := .none },
  { cls := 9, slots := #[.int 45], vm := .none },
  { cls := 9, slots := #[.int 46], vm := .none },
  { cls := 9, slots := #[.int 47], vm := .none },
  { cls := 9, slots := #[.int 48], vm := .none },
  { cls := 9, slots := #[.int 49], vm := .none },
  { cls := 9, slots := #[.int 50], vm := .none },
  { cls := 9, slots := #[.int 51], vm := .none },
  { cls := 9, slots := #[.int 52], vm := .none },
  { cls := 9, slots := #[.int 53], vm := .none },
  { cls := 9, slots := #[.int 54], vm := .none },
  { cls := 9, slots := #[.int 55], vm := .none },
  { cls := 9, slots := #[.int 56], vm := .none },
  { cls := 9, slots := #[.int 57], vm := .none },
  { cls := 9, slots := #[.int 58], vm := .none },
  { cls := 9, slots := #[.int 59], vm := .none },
  { cls := 9, slots := #[.int 60], vm := .none },
  { cls := 9, slots := #[.int 61], vm := .none },
  { cls := 9, slots := #[.int 62], vm := .none },
  { cls := 9, slots := #[.int 63], vm := .none },
  { cls := 9, slots := #[.int 64], vm := .none },
  { cls := 9, slots := #[.int 65], vm := .none },
  { cls := 9, slots := #[.int 66], vm := .none },
  { cls := 9, slots := #[.int 67], vm := .none },
  { cls := 9, slots := #[.int 68], vm := .none },
  { cls := 9, slots := #[.int 69], vm := .none },
  { cls := 9, slots := #[.int 70], vm := .none },
  { cls := 9, slots := #[.int 71], vm := .none },
  { cls := 9, slots := #[.int 72], vm := .none },
  { cls := 9, slots := #[.int 73], vm := .none },
  { cls := 9, slots := #[.int 74], vm := .none },
  { cls := 9, slots := #[.int 75], vm := .none },
  { cls := 9, slots := #[.int 76], vm := .none },
  { cls := 9, slots := #[.int 77], vm := .none },
  { cls := 9, slots := #[.int 78], vm := .none },
  { cls := 9, slots := #[.int 79], vm := .none },
  { cls := 9, slots := #[.int 80], vm := .none },
  { cls := 9, slots := #[.int 81], vm := .none },
  { cls := 9, slots := #[.int 82], vm := .none },
  { cls := 9, slots := #[.int 83], vm := .none },
  { cls := 9, slots := #[.int 84], vm := .none },
  { cls := 9, slots := #[.int 85], vm := .none },
  { cls := 9, slots := #[.int 86], vm := .none },
  { cls := 9, slots := #[.int 87], vm := .none },
  { cls := 9, slots := #[.int 88], vm := .none },
  { cls := 9, slots := #[.int 89], vm := .none },
  { cls := 9, slots := #[.int 90], vm := .none },
  { cls := 9, slots := #[.int 91], vm := .none },
  { cls := 9, slots := #[.int 92], vm := .none },
  { cls := 9, slots := #[.int 93], vm := .none },
  { cls := 9, slots := #[.int 94], vm := .none },
  { cls := 9, slots := #[.int 95], vm := .none },
  { cls := 9, slots := #[.int 96], vm := .none },
  { cls := 9, slots := #[.int 97], vm := .none },
  { cls := 9, slots := #[.int 98], vm := .none },
  { cls := 9, slots := #[.int 99], vm := .none },
  { cls := 9, slots := #[.int 100], vm := .none },
  { cls := 9, slots := #[.int 101], vm := .none },
  { cls := 9, slots := #[.int 102], vm := .none },
  { cls := 9, slots := #[.int 103], vm := .none },
  { cls := 9, slots := #[.int 104], vm := .none },
  { cls := 9, slots := #[.int 105], vm := .none },
  { cls := 9, slots := #[.int 106], vm := .none },
  { cls := 9, slots := #[.int 107], vm := .none },
  { cls := 9, slots := #[.int 108], vm := .none },
  { cls := 9, slots := #[.int 109], vm := .none },
  { cls := 9, slots := #[.int 110], vm := .none },
  { cls := 9, slots := #[.int 111], vm := .none },
  { cls := 9, slots := #[.int 112], vm := .none },
  { cls := 9, slots := #[.int 113], vm := .none },
  { cls := 9, slots := #[.int 114], vm := .none },
  { cls := 9, slots := #[.int 115], vm := .none },
  { cls := 9, slots := #[.int 116], vm := .none },
  { cls := 9, slots := #[.int 117], vm := .none },
  { cls := 9, slots := #[.int 118], vm := .none },
  { cls := 9, slots := #[.int 119], vm := .none },
  { cls := 9, slots := #[.int 120], vm := .none },
  { cls := 9, slots := #[.int 121], vm := .none },
  { cls := 9, slots := #[.int 122], vm := .none },
  { cls := 9, slots := #[.int 123], vm := .none },
  { cls := 9, slots := #[.int 124], vm := .none },
  { cls := 9, slots := #[.int 125], vm := .none },
  { cls := 9, slots := #[.int 126], vm := .none },
  { cls := 9, slots := #[.int 127], vm := .none },
  { cls := 6, slots := #[.null, .int 1, .int 0, .null, .null], vm := .none },
  { cls := 6, slots := #[.null, .int 2, .int 0, .null, .null], vm := .none },
  { cls := 6, slots := #[.null, .int 3, .int 0, .null, .null], vm := .none },
  { cls := 6, slots := #[.null, .int 4, .int 0, .null, .null], vm := .none },
  { cls := 6, slots := #[.null, .int 5, .int 0, .null, .null], vm := .none },
  { cls := 6, slots := #[.null, .int 6, .int 0, .null, .null], vm := .none },
  { cls := 6, slots := #[.null, .int 7, .int 0, .null, .null], vm := .none },
  { cls := 6, slots := #[.null, .int 8, .int 0, .null, .null], vm := .none },
  { cls := 6, slots := #[.null, .int 9, .int 0, .null, .null], vm := .none },
  { cls := 6, slots := #[.null, .int 10, .int 0, .null, .null], vm := .none },
  { cls := 6, slots := #[.null, .int 11, .int 0, .null, .null], vm := .none },
  { cls := 6, slots := #[.null, .int 12, .int 0, .null, .null], vm := .none },
  { cls := 6, slots := #[.null, .int 13, .int 0, .null, .null], vm := .none },
  { cls := 6, slots := #[.null, .int 14, .int 0, .null, .null], vm := .none },
  { cls := 6, slots := #[.null, .int 15, .int 0, .null, .null], vm := .none },
  { cls := 6, slots := #[.null, .int 16, .int 0, .null, .null], vm := .none },
  { cls := 6, slots := #[.null, .int 17, .int 0, .null, .null], vm := .none },
  { cls := 6, slots := #[.null, .int 18, .int 0, .null, .null], vm := .none },
  { cls := 6, slots := #[.null, .int 19, .int 0, .null, .null], vm := .none },
  { cls := 6, slots := #[.null, .int 20, .int 0, .null, .null], vm := .none },
  { cls := 6, slots := #[.null, .int 21, .int 0, .null, .null], vm := .none },
  { cls := 6, slots := #[.null, .int 22, .int 0, .null, .null], vm := .none },
  { cls := 6, slots := #[.null, .int 23, .int 0, .null, .null], vm := .none },
  { cls := 34, slots := #[.ref 9, .int 0], vm := .none },
  { cls := 48, slots := #[], vm := .none },
  { cls := 48, slots := #[], vm := .none },
  { cls := 49, slots := #[], vm := .none },
  { cls := 39, slots := #[.int 0], vm := .none },
  { cls := 50, slots := #[], vm := .none }]
def classes : Array Class := #[k0, k1, k2, k3, k4, k5, k6, k7, k8, k9, k10, k11, k12, k13, k14, k15, k16, k17, k18, k19, k20, k21, k22, k23, k24, k25, k26, k27, k28, k29, k30, k31, k32, k33, k34, k35, k36, k37, k38, k39, k40, k41, k42, k43, k44, k45, k46, k47, k48, k49, k50]
def interned : List (Array UInt16 × Addr) := []
def slotsUsed : Nat := 704
def theMethod : MethodId := ⟨1, 2⟩
def args0 : Array Value := #[.int 5, .int 5, .int 5, .int 5, .int 5]
def aboutOver (below : List Frame) : State where
  vm := { classes := classes, interned := interned.toArray }
  heap := heap
  slotsUsed := slotsUsed
  threads := #[{ frames := .invoking theMethod args0 :: below }]
def below0 : List Frame := [.native { method := ⟨0, 0⟩, args := #[] }]
def about1 : State := aboutOver below0
def p0 : Program := .bare "" "" ""
def e0 : Env := launch0.env 0 0 0
theorem w_frames : about1.frames = Frame.invoking theMethod args0 :: below0 := rfl
set_option maxRecDepth 65536 in
theorem w_args : argsFit about1.vm theMethod args0 = true := by decide +kernel
set_option maxRecDepth 65536 in
theorem w_heap : heapFits about1 = true := by decide +kernel
set_option maxRecDepth 65536 in
theorem w_runnable : about1.curStatus? = some .runnable := by decide +kernel
set_option maxRecDepth 65536 in
theorem w_alone : about1.alone = true := by decide +kernel
set_option maxRecDepth 65536 in
theorem w_named : about1.methodNamed? x = some theMethod := by decide +kernel
set_option maxRecDepth 65536 in
theorem w_hears : about1.hears theMethod below0 = true := by decide +kernel
set_option maxRecDepth 65536 in
theorem w_ripe : about1.ripe theMethod args0 below0 = true := by decide +kernel
theorem w_running : about1.status = .running := rfl
set_option maxRecDepth 65536 in
theorem w_room : about1.hasRoom e0.platform room_1 = true :=
  launch0.hasRoom_least _ room_1 (by decide +kernel) (by decide +kernel) (by decide +kernel) (by decide +kernel) (by decide +kernel) (by decide +kernel)
theorem allAtoms_all (ts : List Jvm.Cond) (a : Array Jvm.Value) (st : Jvm.State) : (allAtoms ts).before a st = ts.all (fun c => c.before a st) := by
  induction ts with
  | nil => rfl
  | cons c t ih =>
    show (Jvm.Cond.and c (allAtoms t)).before a st = _
    rw [Jvm.Cond.before_and, ih, List.all_cons]
def words1 : List Jvm.Cond := Jvm.Cond.code x code maxLocals ret :: tables_1
/-- a 'code' word, met by the world's own term for the bytes: nothing is compared byte by byte -/
theorem code_word {y : MethodName} {bytes : ByteArray} {mx : Nat} {rt : Option FieldType} {a : Array Value} {s : State} {m : MethodId} {meth : Method} {c : Code} (h1 : s.methodNamed? y = some m) (h2 : s.vm.method? m = some meth) (h3 : meth.code = some c) (h4 : c.code = bytes)
    (h5 : (c.maxLocals == mx && c.exceptionTable.isEmpty && decide (c.maxStack ≤ mostOperands) && decide (meth.sig.returnType = rt) && !meth.locks && decide (parseMethodDescriptor y.desc = some meth.sig)) = true) : (Jvm.Cond.code y bytes mx rt).before a s = true := by
  simp only [Bool.and_eq_true, beq_iff_eq, Bool.not_eq_true', decide_eq_true_eq] at h5
  obtain ⟨⟨⟨⟨⟨g1, g2⟩, g3⟩, g4⟩, g5⟩, g6⟩ := h5
  simp [Cond.before, Cond.holds, Cond.value, h1, h2, h3, h4, g1, g2, g3, g4, g5, g6]
def isCode : Jvm.Cond → Bool
  | .code _ _ _ _ => true
  | _ => false
theorem all_split {L : List Jvm.Cond} {P : Jvm.Cond → Bool} (h1 : L.all (fun c => isCode c || P c) = true) (h2 : ∀ c ∈ L.filter isCode, P c = true) : L.all P = true := by
  refine List.all_eq_true.mpr fun c hc => ?_
  have h := List.all_eq_true.mp h1 c hc
  rcases Bool.eq_false_or_eq_true (isCode c) with hi | hi
  · exact h2 c (List.mem_filter.mpr ⟨hc, hi⟩)
  · simpa [hi] using h
set_option maxRecDepth 65536 in
theorem w_c0 : (Jvm.Cond.code x code maxLocals ret).before args0 about1 = true := code_word (m := ⟨1, 2⟩) (meth := k1m2) (c := k1c2) (by decide +kernel) rfl rfl rfl (by decide +kernel)
set_option maxRecDepth 65536 in
theorem w_c1 : (Jvm.Cond.code ({ cls := "com/example/rosterd/rosterd/core/OutcomeSucceededPinLaw", name := "pick", desc := "(I)Lcom/example/rosterd/rosterd/core/Refusal;" } : Jvm.MethodName) method_2_code (1 : Nat) (Option.some (Jvm.ClassFile.FieldType.object "com/example/rosterd/rosterd/core/Refusal"))).before args0 about1 = true := code_word (m := ⟨1, 1⟩) (meth := k1m1) (c := k1c1) (by decide +kernel) rfl rfl rfl (by decide +kernel)
set_option maxRecDepth 65536 in
theorem w_c2 : (Jvm.Cond.code ({ cls := "java/lang/Integer", name := "valueOf", desc := "(I)Ljava/lang/Integer;" } : Jvm.MethodName) jdk_33_method_22_code (1 : Nat) (Option.some (Jvm.ClassFile.FieldType.object "java/lang/Integer"))).before args0 about1 = true := code_word (m := ⟨9, 0⟩) (meth := k9m0) (c := k9c0) (by decide +kernel) rfl rfl rfl (by decide +kernel)
set_option maxRecDepth 65536 in
theorem w_c3 : (Jvm.Cond.code ({ cls := "java/lang/String", name := "<init>", desc := "([C)V" } : Jvm.MethodName) jdk_42_method_3_code (2 : Nat) (Option.none : Option Jvm.ClassFile.FieldType)).before args0 about1 = true := code_word (m := ⟨12, 1⟩) (meth := k12m1) (c := k12c1) (by decide +kernel) rfl rfl rfl (by decide +kernel)
set_option maxRecDepth 65536 in
theorem w_c4 : (Jvm.Cond.code ({ cls := "java/lang/String", name := "<init>", desc := "([CIILjava/lang/Void;)V" } : Jvm.MethodName) jdk_42_method_149_code (6 : Nat) (Option.none : Option Jvm.ClassFile.FieldType)).before args0 about1 = true := code_word (m := ⟨12, 2⟩) (meth := k12m2) (c := k12c2) (by decide +kernel) rfl rfl rfl (by decide +kernel)
set_option maxRecDepth 65536 in
theorem w_c5 : (Jvm.Cond.code ({ cls := "java/lang/Object", name := "<init>", desc := "()V" } : Jvm.MethodName) object_method_1_code (1 : Nat) (Option.none : Option Jvm.ClassFile.FieldType)).before args0 about1 = true := code_word (m := ⟨0, 0⟩) (meth := k0m0) (c := k0c0) (by decide +kernel) rfl rfl rfl (by decide +kernel)
set_option maxRecDepth 65536 in
theorem w_c6 : (Jvm.Cond.code ({ cls := "java/lang/StringUTF16", name := "compress", desc := "([CII)[B" } : Jvm.MethodName) jdk_52_method_16_code (6 : Nat) (Option.some (Jvm.ClassFile.FieldType.array Jvm.ClassFile.FieldType.byte))).before args0 about1 = true := code_word (m := ⟨13, 2⟩) (meth := k13m2) (c := k13c2) (by decide +kernel) rfl rfl rfl (by decide +kernel)
set_option maxRecDepth 65536 in
theorem w_c7 : (Jvm.Cond.code ({ cls := "java/lang/StringUTF16", name := "compress", desc := "([CI[BII)I" } : Jvm.MethodName) jdk_52_method_21_code (7 : Nat) (Option.some Jvm.ClassFile.FieldType.int)).before args0 about1 = true := code_word (m := ⟨13, 3⟩) (meth := k13m3) (c := k13c3) (by decide +kernel) rfl rfl rfl (by decide +kernel)
set_option maxRecDepth 65536 in
theorem w_c8 : (Jvm.Cond.code ({ cls := "java/lang/StringUTF16", name := "coderFromArrayLen", desc := "([BI)B" } : Jvm.MethodName) jdk_52_method_15_code (2 : Nat) (Option.some Jvm.ClassFile.FieldType.byte)).before args0 about1 = true := code_word (m := ⟨13, 1⟩) (meth := k13m1) (c := k13c1) (by decide +kernel) rfl rfl rfl (by decide +kernel)
set_option maxRecDepth 65536 in
theorem w_c9 : (Jvm.Cond.code ({ cls := "java/util/ArrayList", name := "<init>", desc := "()V" } : Jvm.MethodName) jdk_38_method_2_code (1 : Nat) (Option.none : Option Jvm.ClassFile.FieldType)).before args0 about1 = true := code_word (m := ⟨22, 0⟩) (meth := k22m0) (c := k22c0) (by decide +kernel) rfl rfl rfl (by decide +kernel)
set_option maxRecDepth 65536 in
theorem w_c10 : (Jvm.Cond.code ({ cls := "java/util/AbstractList", name := "<init>", desc := "()V" } : Jvm.MethodName) jdk_39_method_1_code (1 : Nat) (Option.none : Option Jvm.ClassFile.FieldType)).before args0 about1 = true := code_word (m := ⟨19, 0⟩) (meth := k19m0) (c := k19c0) (by decide +kernel) rfl rfl rfl (by decide +kernel)
set_option maxRecDepth 65536 in
theorem w_c11 : (Jvm.Cond.code ({ cls := "java/util/AbstractCollection", name := "<init>", desc := "()V" } : Jvm.MethodName) jdk_22_method_1_code (1 : Nat) (Option.none : Option Jvm.ClassFile.FieldType)).before args0 about1 = true := code_word (m := ⟨16, 0⟩) (meth := k16m0) (c := k16c0) (by decide +kernel) rfl rfl rfl (by decide +kernel)
set_option maxRecDepth 65536 in
theorem w_c12 : (Jvm.Cond.code ({ cls := "com/example/rosterd/rosterd/core/Outcome", name := "<init>", desc := "(Ljava/lang/Object;Lcom/example/rosterd/rosterd/core/Refusal;Ljava/lang/String;Ljava/util/List;)V" } : Jvm.MethodName) prog_29_method_1_code (5 : Nat) (Option.none : Option Jvm.ClassFile.FieldType)).before args0 about1 = true := code_word (m := ⟨24, 0⟩) (meth := k24m0) (c := k24c0) (by decide +kernel) rfl rfl rfl (by decide +kernel)
set_option maxRecDepth 65536 in
theorem w_c13 : (Jvm.Cond.code ({ cls := "java/lang/Record", name := "<init>", desc := "()V" } : Jvm.MethodName) jdk_30_method_1_code (1 : Nat) (Option.none : Option Jvm.ClassFile.FieldType)).before args0 about1 = true := code_word (m := ⟨23, 0⟩) (meth := k23m0) (c := k23c0) (by decide +kernel) rfl rfl rfl (by decide +kernel)
set_option maxRecDepth 65536 in
theorem w_c14 : (Jvm.Cond.code ({ cls := "com/example/rosterd/rosterd/core/Outcome", name := "succeeded", desc := "()Z" } : Jvm.MethodName) prog_29_method_4_code (1 : Nat) (Option.some Jvm.ClassFile.FieldType.boolean)).before args0 about1 = true := code_word (m := ⟨24, 3⟩) (meth := k24m3) (c := k24c3) (by decide +kernel) rfl rfl rfl (by decide +kernel)
set_option maxRecDepth 65536 in
theorem w_c15 : (Jvm.Cond.code ({ cls := "com/example/rosterd/rosterd/core/Outcome", name := "done", desc := "(Ljava/lang/Object;)Lcom/example/rosterd/rosterd/core/Outcome;" } : Jvm.MethodName) prog_29_method_2_code (1 : Nat) (Option.some (Jvm.ClassFile.FieldType.object "com/example/rosterd/rosterd/core/Outcome"))).before args0 about1 = true := code_word (m := ⟨24, 1⟩) (meth := k24m1) (c := k24c1) (by decide +kernel) rfl rfl rfl (by decide +kernel)
set_option maxRecDepth 65536 in
theorem w_c16 : (Jvm.Cond.code ({ cls := "java/util/List", name := "of", desc := "()Ljava/util/List;" } : Jvm.MethodName) jdk_40_method_36_code (0 : Nat) (Option.some (Jvm.ClassFile.FieldType.object "java/util/List"))).before args0 about1 = true := code_word (m := ⟨18, 0⟩) (meth := k18m0) (c := k18c0) (by decide +kernel) rfl rfl rfl (by decide +kernel)
set_option maxRecDepth 65536 in
theorem w_c17 : (Jvm.Cond.code ({ cls := "com/example/rosterd/rosterd/core/RosterException", name := "<init>", desc := "(Lcom/example/rosterd/rosterd/core/Refusal;Ljava/lang/String;)V" } : Jvm.MethodName) prog_37_method_1_code (3 : Nat) (Option.none : Option Jvm.ClassFile.FieldType)).before args0 about1 = true := code_word (m := ⟨29, 0⟩) (meth := k29m0) (c := k29c0) (by decide +kernel) rfl rfl rfl (by decide +kernel)
set_option maxRecDepth 65536 in
theorem w_c18 : (Jvm.Cond.code ({ cls := "com/example/rosterd/rosterd/core/RosterException", name := "<init>", desc := "(Lcom/example/rosterd/rosterd/core/Refusal;Ljava/lang/String;Ljava/util/List;)V" } : Jvm.MethodName) prog_37_method_2_code (4 : Nat) (Option.none : Option Jvm.ClassFile.FieldType)).before args0 about1 = true := code_word (m := ⟨29, 1⟩) (meth := k29m1) (c := k29c1) (by decide +kernel) rfl rfl rfl (by decide +kernel)
set_option maxRecDepth 65536 in
theorem w_c19 : (Jvm.Cond.code ({ cls := "java/lang/RuntimeException", name := "<init>", desc := "(Ljava/lang/String;)V" } : Jvm.MethodName) jdk_58_method_2_code (2 : Nat) (Option.none : Option Jvm.ClassFile.FieldType)).before args0 about1 = true := code_word (m := ⟨28, 1⟩) (meth := k28m1) (c := k28c1) (by decide +kernel) rfl rfl rfl (by decide +kernel)
set_option maxRecDepth 65536 in
theorem w_c20 : (Jvm.Cond.code ({ cls := "java/lang/Exception", name := "<init>", desc := "(Ljava/lang/String;)V" } : Jvm.MethodName) jdk_59_method_2_code (2 : Nat) (Option.none : Option Jvm.ClassFile.FieldType)).before args0 about1 = true := code_word (m := ⟨27, 1⟩) (meth := k27m1) (c := k27c1) (by decide +kernel) rfl rfl rfl (by decide +kernel)
set_option maxRecDepth 65536 in
theorem w_c21 : (Jvm.Cond.code ({ cls := "java/lang/Throwable", name := "<init>", desc := "(Ljava/lang/String;)V" } : Jvm.MethodName) jdk_78_method_2_code (2 : Nat) (Option.none : Option Jvm.ClassFile.FieldType)).before args0 about1 = true := code_word (m := ⟨26, 1⟩) (meth := k26m1) (c := k26c1) (by decide +kernel) rfl rfl rfl (by decide +kernel)
set_option maxRecDepth 65536 in
theorem w_c22 : (Jvm.Cond.code ({ cls := "java/lang/Throwable", name := "<init>", desc := "()V" } : Jvm.MethodName) jdk_78_method_1_code (1 : Nat) (Option.none : Option Jvm.ClassFile.FieldType)).before args0 about1 = true := code_word (m := ⟨26, 0⟩) (meth := k26m0) (c := k26c0) (by decide +kernel) rfl rfl rfl (by decide +kernel)
set_option maxRecDepth 65536 in
theorem w_c23 : (Jvm.Cond.code ({ cls := "java/util/Objects", name := "requireNonNull", desc := "(Ljava/lang/Object;Ljava/lang/String;)Ljava/lang/Object;" } : Jvm.MethodName) jdk_31_method_11_code (2 : Nat) (Option.some (Jvm.ClassFile.FieldType.object "java/lang/Object"))).before args0 about1 = true := code_word (m := ⟨30, 1⟩) (meth := k30m1) (c := k30c1) (by decide +kernel) rfl rfl rfl (by decide +kernel)
set_option maxRecDepth 65536 in
theorem w_c24 : (Jvm.Cond.code ({ cls := "java/util/List", name := "copyOf", desc := "(Ljava/util/Collection;)Ljava/util/List;" } : Jvm.MethodName) jdk_40_method_48_code (1 : Nat) (Option.some (Jvm.ClassFile.FieldType.object "java/util/List"))).before args0 about1 = true := code_word (m := ⟨18, 1⟩) (meth := k18m1) (c := k18c1) (by decide +kernel) rfl rfl rfl (by decide +kernel)
set_option maxRecDepth 65536 in
theorem w_c25 : (Jvm.Cond.code ({ cls := "java/util/ImmutableCollections", name := "listCopy", desc := "(Ljava/util/Collection;)Ljava/util/List;" } : Jvm.MethodName) jdk_56_method_3_code (2 : Nat) (Option.some (Jvm.ClassFile.FieldType.object "java/util/List"))).before args0 about1 = true := code_word (m := ⟨25, 1⟩) (meth := k25m1) (c := k25c1) (by decide +kernel) rfl rfl rfl (by decide +kernel)
set_option maxRecDepth 65536 in
theorem w_c26 : (Jvm.Cond.code ({ cls := "com/example/rosterd/rosterd/core/Outcome", name := "refused", desc := "(Ljava/lang/Object;Lcom/example/rosterd/rosterd/core/RosterException;)Lcom/example/rosterd/rosterd/core/Outcome;" } : Jvm.MethodName) prog_29_method_3_code (2 : Nat) (Option.some (Jvm.ClassFile.FieldType.object "com/example/rosterd/rosterd/core/Outcome"))).before args0 about1 = true := code_word (m := ⟨24, 2⟩) (meth := k24m2) (c := k24c2) (by decide +kernel) rfl rfl rfl (by decide +kernel)
set_option maxRecDepth 65536 in
theorem w_c27 : (Jvm.Cond.code ({ cls := "com/example/rosterd/rosterd/core/RosterException", name := "refusal", desc := "()Lcom/example/rosterd/rosterd/core/Refusal;" } : Jvm.MethodName) prog_37_method_4_code (1 : Nat) (Option.some (Jvm.ClassFile.FieldType.object "com/example/rosterd/rosterd/core/Refusal"))).before args0 about1 = true := code_word (m := ⟨29, 2⟩) (meth := k29m2) (c := k29c2) (by decide +kernel) rfl rfl rfl (by decide +kernel)
set_option maxRecDepth 65536 in
theorem w_c28 : (Jvm.Cond.code ({ cls := "java/lang/Throwable", name := "getMessage", desc := "()Ljava/lang/String;" } : Jvm.MethodName) jdk_78_method_6_code (1 : Nat) (Option.some (Jvm.ClassFile.FieldType.object "java/lang/String"))).before args0 about1 = true := code_word (m := ⟨26, 2⟩) (meth := k26m2) (c := k26c2) (by decide +kernel) rfl rfl rfl (by decide +kernel)
set_option maxRecDepth 65536 in
theorem w_c29 : (Jvm.Cond.code ({ cls := "com/example/rosterd/rosterd/core/RosterException", name := "bindingTargets", desc := "()Ljava/util/List;" } : Jvm.MethodName) prog_37_method_5_code (1 : Nat) (Option.some (Jvm.ClassFile.FieldType.object "java/util/List"))).before args0 about1 = true := code_word (m := ⟨29, 3⟩) (meth := k29m3) (c := k29c3) (by decide +kernel) rfl rfl rfl (by decide +kernel)
set_option maxRecDepth 65536 in
theorem w_c30 : (Jvm.Cond.code ({ cls := "java/lang/Integer", name := "<init>", desc := "(I)V" } : Jvm.MethodName) jdk_33_method_23_code (2 : Nat) (Option.none : Option Jvm.ClassFile.FieldType)).before args0 about1 = true := code_word (m := ⟨9, 1⟩) (meth := k9m1) (c := k9c1) (by decide +kernel) rfl rfl rfl (by decide +kernel)
set_option maxRecDepth 65536 in
theorem w_c31 : (Jvm.Cond.code ({ cls := "java/lang/Number", name := "<init>", desc := "()V" } : Jvm.MethodName) jdk_18_method_1_code (1 : Nat) (Option.none : Option Jvm.ClassFile.FieldType)).before args0 about1 = true := code_word (m := ⟨7, 0⟩) (meth := k7m0) (c := k7c0) (by decide +kernel) rfl rfl rfl (by decide +kernel)
def codes1 : List Jvm.Cond := [Jvm.Cond.code x code maxLocals ret, Jvm.Cond.code ({ cls := "com/example/rosterd/rosterd/core/OutcomeSucceededPinLaw", name := "pick", desc := "(I)Lcom/example/rosterd/rosterd/core/Refusal;" } : Jvm.MethodName) method_2_code (1 : Nat) (Option.some (Jvm.ClassFile.FieldType.object "com/example/rosterd/rosterd/core/Refusal")), Jvm.Cond.code ({ cls := "java/lang/Integer", name := "valueOf", desc := "(I)Ljava/lang/Integer;" } : Jvm.MethodName) jdk_33_method_22_code (1 : Nat) (Option.some (Jvm.ClassFile.FieldType.object "java/lang/Integer")), Jvm.Cond.code ({ cls := "java/lang/String", name := "<init>", desc := "([C)V" } : Jvm.MethodName) jdk_42_method_3_code (2 : Nat) (Option.none : Option Jvm.ClassFile.FieldType), Jvm.Cond.code ({ cls := "java/lang/String", name := "<init>", desc := "([CIILjava/lang/Void;)V" } : Jvm.MethodName) jdk_42_method_149_code (6 : Nat) (Option.none : Option Jvm.ClassFile.FieldType), Jvm.Cond.code ({ cls := "java/lang/Object", name := "<init>", desc := "()V" } : Jvm.MethodName) object_method_1_code (1 : Nat) (Option.none : Option Jvm.ClassFile.FieldType), Jvm.Cond.code ({ cls := "java/lang/StringUTF16", name := "compress", desc := "([CII)[B" } : Jvm.MethodName) jdk_52_method_16_code (6 : Nat) (Option.some (Jvm.ClassFile.FieldType.array Jvm.ClassFile.FieldType.byte)), Jvm.Cond.code ({ cls := "java/lang/StringUTF16", name := "compress", desc := "([CI[BII)I" } : Jvm.MethodName) jdk_52_method_21_code (7 : Nat) (Option.some Jvm.ClassFile.FieldType.int), Jvm.Cond.code ({ cls := "java/lang/StringUTF16", name := "coderFromArrayLen", desc := "([BI)B" } : Jvm.MethodName) jdk_52_method_15_code (2 : Nat) (Option.some Jvm.ClassFile.FieldType.byte), Jvm.Cond.code ({ cls := "java/util/ArrayList", name := "<init>", desc := "()V" } : Jvm.MethodName) jdk_38_method_2_code (1 : Nat) (Option.none : Option Jvm.ClassFile.FieldType), Jvm.Cond.code ({ cls := "java/util/AbstractList", name := "<init>", desc := "()V" } : Jvm.MethodName) jdk_39_method_1_code (1 : Nat) (Option.none : Option Jvm.ClassFile.FieldType), Jvm.Cond.code ({ cls := "java/util/AbstractCollection", name := "<init>", desc := "()V" } : Jvm.MethodName) jdk_22_method_1_code (1 : Nat) (Option.none : Option Jvm.ClassFile.FieldType), Jvm.Cond.code ({ cls := "com/example/rosterd/rosterd/core/Outcome", name := "<init>", desc := "(Ljava/lang/Object;Lcom/example/rosterd/rosterd/core/Refusal;Ljava/lang/String;Ljava/util/List;)V" } : Jvm.MethodName) prog_29_method_1_code (5 : Nat) (Option.none : Option Jvm.ClassFile.FieldType), Jvm.Cond.code ({ cls := "java/lang/Record", name := "<init>", desc := "()V" } : Jvm.MethodName) jdk_30_method_1_code (1 : Nat) (Option.none : Option Jvm.ClassFile.FieldType), Jvm.Cond.code ({ cls := "com/example/rosterd/rosterd/core/Outcome", name := "succeeded", desc := "()Z" } : Jvm.MethodName) prog_29_method_4_code (1 : Nat) (Option.some Jvm.ClassFile.FieldType.boolean), Jvm.Cond.code ({ cls := "com/example/rosterd/rosterd/core/Outcome", name := "done", desc := "(Ljava/lang/Object;)Lcom/example/rosterd/rosterd/core/Outcome;" } : Jvm.MethodName) prog_29_method_2_code (1 : Nat) (Option.some (Jvm.ClassFile.FieldType.object "com/example/rosterd/rosterd/core/Outcome")), Jvm.Cond.code ({ cls := "java/util/List", name := "of", desc := "()Ljava/util/List;" } : Jvm.MethodName) jdk_40_method_36_code (0 : Nat) (Option.some (Jvm.ClassFile.FieldType.object "java/util/List")), Jvm.Cond.code ({ cls := "com/example/rosterd/rosterd/core/RosterException", name := "<init>", desc := "(Lcom/example/rosterd/rosterd/core/Refusal;Ljava/lang/String;)V" } : Jvm.MethodName) prog_37_method_1_code (3 : Nat) (Option.none : Option Jvm.ClassFile.FieldType), Jvm.Cond.code ({ cls := "com/example/rosterd/rosterd/core/RosterException", name := "<init>", desc := "(Lcom/example/rosterd/rosterd/core/Refusal;Ljava/lang/String;Ljava/util/List;)V" } : Jvm.MethodName) prog_37_method_2_code (4 : Nat) (Option.none : Option Jvm.ClassFile.FieldType), Jvm.Cond.code ({ cls := "java/lang/RuntimeException", name := "<init>", desc := "(Ljava/lang/String;)V" } : Jvm.MethodName) jdk_58_method_2_code (2 : Nat) (Option.none : Option Jvm.ClassFile.FieldType), Jvm.Cond.code ({ cls := "java/lang/Exception", name := "<init>", desc := "(Ljava/lang/String;)V" } : Jvm.MethodName) jdk_59_method_2_code (2 : Nat) (Option.none : Option Jvm.ClassFile.FieldType), Jvm.Cond.code ({ cls := "java/lang/Throwable", name := "<init>", desc := "(Ljava/lang/String;)V" } : Jvm.MethodName) jdk_78_method_2_code (2 : Nat) (Option.none : Option Jvm.ClassFile.FieldType), Jvm.Cond.code ({ cls := "java/lang/Throwable", name := "<init>", desc := "()V" } : Jvm.MethodName) jdk_78_method_1_code (1 : Nat) (Option.none : Option Jvm.ClassFile.FieldType), Jvm.Cond.code ({ cls := "java/util/Objects", name := "requireNonNull", desc := "(Ljava/lang/Object;Ljava/lang/String;)Ljava/lang/Object;" } : Jvm.MethodName) jdk_31_method_11_code (2 : Nat) (Option.some (Jvm.ClassFile.FieldType.object "java/lang/Object")), Jvm.Cond.code ({ cls := "java/util/List", name := "copyOf", desc := "(Ljava/util/Collection;)Ljava/util/List;" } : Jvm.MethodName) jdk_40_method_48_code (1 : Nat) (Option.some (Jvm.ClassFile.FieldType.object "java/util/List")), Jvm.Cond.code ({ cls := "java/util/ImmutableCollections", name := "listCopy", desc := "(Ljava/util/Collection;)Ljava/util/List;" } : Jvm.MethodName) jdk_56_method_3_code (2 : Nat) (Option.some (Jvm.ClassFile.FieldType.object "java/util/List")), Jvm.Cond.code ({ cls := "com/example/rosterd/rosterd/core/Outcome", name := "refused", desc := "(Ljava/lang/Object;Lcom/example/rosterd/rosterd/core/RosterException;)Lcom/example/rosterd/rosterd/core/Outcome;" } : Jvm.MethodName) prog_29_method_3_code (2 : Nat) (Option.some (Jvm.ClassFile.FieldType.object "com/example/rosterd/rosterd/core/Outcome")), Jvm.Cond.code ({ cls := "com/example/rosterd/rosterd/core/RosterException", name := "refusal", desc := "()Lcom/example/rosterd/rosterd/core/Refusal;" } : Jvm.MethodName) prog_37_method_4_code (1 : Nat) (Option.some (Jvm.ClassFile.FieldType.object "com/example/rosterd/rosterd/core/Refusal")), Jvm.Cond.code ({ cls := "java/lang/Throwable", name := "getMessage", desc := "()Ljava/lang/String;" } : Jvm.MethodName) jdk_78_method_6_code (1 : Nat) (Option.some (Jvm.ClassFile.FieldType.object "java/lang/String")), Jvm.Cond.code ({ cls := "com/example/rosterd/rosterd/core/RosterException", name := "bindingTargets", desc := "()Ljava/util/List;" } : Jvm.MethodName) prog_37_method_5_code (1 : Nat) (Option.some (Jvm.ClassFile.FieldType.object "java/util/List")), Jvm.Cond.code ({ cls := "java/lang/Integer", name := "<init>", desc := "(I)V" } : Jvm.MethodName) jdk_33_method_23_code (2 : Nat) (Option.none : Option Jvm.ClassFile.FieldType), Jvm.Cond.code ({ cls := "java/lang/Number", name := "<init>", desc := "()V" } : Jvm.MethodName) jdk_18_method_1_code (1 : Nat) (Option.none : Option Jvm.ClassFile.FieldType)]
set_option maxRecDepth 65536 in
theorem codes_eq : words1.filter isCode = codes1 := rfl
theorem w_codes : ∀ c ∈ words1.filter isCode, c.before args0 about1 = true := by
  rw [codes_eq]
  intro c hc
  simp only [codes1, List.mem_cons, List.not_mem_nil, or_false] at hc
  rcases hc with rfl | rfl | rfl | rfl | rfl | rfl | rfl | rfl | rfl | rfl | rfl | rfl | rfl | rfl | rfl | rfl | rfl | rfl | rfl | rfl | rfl | rfl | rfl | rfl | rfl | rfl | rfl | rfl | rfl | rfl | rfl | rfl
  · exact w_c0
  · exact w_c1
  · exact w_c2
  · exact w_c3
  · exact w_c4
  · exact w_c5
  · exact w_c6
  · exact w_c7
  · exact w_c8
  · exact w_c9
  · exact w_c10
  · exact w_c11
  · exact w_c12
  · exact w_c13
  · exact w_c14
  · exact w_c15
  · exact w_c16
  · exact w_c17
  · exact w_c18
  · exact w_c19
  · exact w_c20
  · exact w_c21
  · exact w_c22
  · exact w_c23
  · exact w_c24
  · exact w_c25
  · exact w_c26
  · exact w_c27
  · exact w_c28
  · exact w_c29
  · exact w_c30
  · exact w_c31
set_option maxRecDepth 65536 in
theorem w_t1 : (words1.take 24).all (fun c => isCode c || c.before args0 about1) = true := by decide +kernel
set_option maxRecDepth 65536 in
theorem w_t2 : ((words1.drop 24).take 24).all (fun c => isCode c || c.before args0 about1) = true := by decide +kernel
set_option maxRecDepth 65536 in
theorem w_t3 : (((words1.drop 24).drop 24).take 24).all (fun c => isCode c || c.before args0 about1) = true := by decide +kernel
set_option maxRecDepth 65536 in
theorem w_t4 : ((((words1.drop 24).drop 24).drop 24).take 24).all (fun c => isCode c || c.before args0 about1) = true := by decide +kernel
set_option maxRecDepth 65536 in
theorem w_t5 : (((((words1.drop 24).drop 24).drop 24).drop 24).take 24).all (fun c => isCode c || c.before args0 about1) = true := by decide +kernel
set_option maxRecDepth 65536 in
theorem w_t6 : ((((((words1.drop 24).drop 24).drop 24).drop 24).drop 24).take 24).all (fun c => isCode c || c.before args0 about1) = true := by decide +kernel
set_option maxRecDepth 65536 in
theorem w_t7 : (((((((words1.drop 24).drop 24).drop 24).drop 24).drop 24).drop 24).take 24).all (fun c => isCode c || c.before args0 about1) = true := by decide +kernel
set_option maxRecDepth 65536 in
theorem w_t8 : ((((((((words1.drop 24).drop 24).drop 24).drop 24).drop 24).drop 24).drop 24).take 24).all (fun c => isCode c || c.before args0 about1) = true := by decide +kernel
set_option maxRecDepth 65536 in
theorem w_t9 : (((((((((words1.drop 24).drop 24).drop 24).drop 24).drop 24).drop 24).drop 24).drop 24).take 24).all (fun c => isCode c || c.before args0 about1) = true := by decide +kernel
set_option maxRecDepth 65536 in
theorem w_t10 : ((((((((((words1.drop 24).drop 24).drop 24).drop 24).drop 24).drop 24).drop 24).drop 24).drop 24).take 24).all (fun c => isCode c || c.before args0 about1) = true := by decide +kernel
set_option maxRecDepth 65536 in
theorem w_t11 : (((((((((((words1.drop 24).drop 24).drop 24).drop 24).drop 24).drop 24).drop 24).drop 24).drop 24).drop 24).take 24).all (fun c => isCode c || c.before args0 about1) = true := by decide +kernel
set_option maxRecDepth 65536 in
theorem w_t12 : (((((((((((words1.drop 24).drop 24).drop 24).drop 24).drop 24).drop 24).drop 24).drop 24).drop 24).drop 24).drop 24).all (fun c => isCode c || c.before args0 about1) = true := by decide +kernel
theorem w_tables : (allAtoms (Jvm.Cond.code x code maxLocals ret :: tables_1)).before args0 about1 = true := by
  rw [allAtoms_all]
  show words1.all (fun c => c.before args0 about1) = true
  refine all_split ?_ w_codes
  rw [← List.take_append_drop 24 words1, List.all_append, w_t1, ← List.take_append_drop 24 (words1.drop 24), List.all_append, w_t2, ← List.take_append_drop 24 ((words1.drop 24).drop 24), List.all_append, w_t3, ← List.take_append_drop 24 (((words1.drop 24).drop 24).drop 24), List.all_append, w_t4, ← List.take_append_drop 24 ((((words1.drop 24).drop 24).drop 24).drop 24), List.all_append, w_t5, ← List.take_append_drop 24 (((((words1.drop 24).drop 24).drop 24).drop 24).drop 24), List.all_append, w_t6, ← List.take_append_drop 24 ((((((words1.drop 24).drop 24).drop 24).drop 24).drop 24).drop 24), List.all_append, w_t7, ← List.take_append_drop 24 (((((((words1.drop 24).drop 24).drop 24).drop 24).drop 24).drop 24).drop 24), List.all_append, w_t8, ← List.take_append_drop 24 ((((((((words1.drop 24).drop 24).drop 24).drop 24).drop 24).drop 24).drop 24).drop 24), List.all_append, w_t9, ← List.take_append_drop 24 (((((((((words1.drop 24).drop 24).drop 24).drop 24).drop 24).drop 24).drop 24).drop 24).drop 24), List.all_append, w_t10, ← List.take_append_drop 24 ((((((((((words1.drop 24).drop 24).drop 24).drop 24).drop 24).drop 24).drop 24).drop 24).drop 24).drop 24), List.all_append, w_t11, w_t12]
  rfl
set_option maxRecDepth 65536 in
theorem w_rest : rest_1_c.before args0 about1 = true := by decide +kernel
set_option maxRecDepth 65536 in
theorem w_case : (Jvm.Cond.and given_1 narrow_1).before args0 about1 = true := by decide +kernel
theorem w_applies : (headSpec (Jvm.Cond.code x code maxLocals ret :: tables_1) room_1).applies x e0.platform about1 = true :=
  (Spec.applies_iff w_frames).mpr ⟨w_running, w_runnable, w_alone, w_named, w_hears, w_ripe, w_room, w_tables⟩
theorem atStart : AtStart classFile x code maxLocals ret World_1 tables_1 room_1 Calls_1 rest_1 Pre_1 launch0 p0 e0 about1 theMethod args0 below0 :=
  ⟨lists_1, trivial, launch0.admits_env _ _ _, launch0.least_env, fairChoices_fair.cas, fairChoices_fair.clock, w_frames, w_args, w_heap, w_applies, ⟨(by decide +kernel : framesKnown about1 = true), ⟨(by decide +kernel : tablesKnown about1 = true), trivial⟩⟩, w_rest, w_case⟩
end start1
theorem witness_1 : WitnessClaimed_1 := ⟨start1.p0, start1.e0, start1.about1, start1.theMethod, start1.args0, start1.below0, start1.atStart⟩
end Jvm.Pilot.@@N@@
