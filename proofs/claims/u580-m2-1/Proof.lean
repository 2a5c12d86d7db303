import JvmDerived
import JvmDerived.Pilot.@@N@@Statement
import JvmDerived.Pilot.@@N@@Code
set_option linter.unusedVariables false
set_option linter.unusedSimpArgs false
namespace Jvm.Pilot.@@N@@
open Jvm Jvm.ClassFile Sem Op Lib Jvm.Free Jvm.Stand Jvm.LawKit Jvm.RoadKit Bundle Jvm.Pilot.@@N@@.Jvm.D
section JU
variable {tb : Tables} [Ours tb] {e : Env} {below : List Frame} {T target : State} {m : MethodId} {c : Code} {g : JFrame}
theorem yI (h : At T m c below) (hx : tb.exec = Jvm.exec) (hg : g.method = m) {cd : Jvm.ClassFile.Cond} {x : Int32} {rest : List Value} {o : Int} (pc0 pc' : Nat) (hpc : g.pc = pc0) (hd : decode c.code g.pc = .ok (.ifCond cd o, 3)) (hs : g.stack = .int x :: rest) (hc : ifCond.holds cd x = true) (hr : Steps tb e below (T.setTop { g with pc := pc', stack := rest }) target) (ho : 0 ≤ (pc0 : Int) + o := by decide) (hp : ((pc0 : Int) + o).toNat = pc' := by decide) : Steps tb e below (T.setTop g) target := XS.ifYes h hx hg hpc hd hs hc ho hp hr
theorem yC (h : At T m c below) (hx : tb.exec = Jvm.exec) (hg : g.method = m) {cd : Jvm.ClassFile.Cond} {x y : Int32} {rest : List Value} {o : Int} (pc0 pc' : Nat) (hpc : g.pc = pc0) (hd : decode c.code g.pc = .ok (.if_icmp cd o, 3)) (hs : g.stack = .int y :: .int x :: rest) (hc : if_icmp.holds cd x y = true) (hr : Steps tb e below (T.setTop { g with pc := pc', stack := rest }) target) (ho : 0 ≤ (pc0 : Int) + o := by decide) (hp : ((pc0 : Int) + o).toNat = pc' := by decide) : Steps tb e below (T.setTop g) target := XS.icmpYes h hx hg hpc hd hs hc ho hp hr
theorem yG (h : At T m c below) (hx : tb.exec = Jvm.exec) (hg : g.method = m) {o : Int} (pc0 pc' : Nat) (hpc : g.pc = pc0) (hd : decode c.code g.pc = .ok (.goto o, 3)) (hr : Steps tb e below (T.setTop { g with pc := pc' }) target) (ho : 0 ≤ (pc0 : Int) + o := by decide) (hp : ((pc0 : Int) + o).toNat = pc' := by decide) : Steps tb e below (T.setTop g) target := XS.goto h hx hg hpc hd ho hp hr
end JU
theorem own_w {a b : Nat} (h : a = b) : a ≤ b := Nat.le_of_eq h
abbrev MFP (l : Launch) (Z : State) (y : MethodName) (bytes : ByteArray) (ml : Nat) (rt : Option FieldType) (rm : Room) (ws : List Jvm.Cond) (A : Array Value) (h0 : Heap) (Q : Option Value → Heap → List Loc → Prop) : Prop :=
  MetFree l y (head1 (Jvm.Cond.code y bytes ml rt :: ws) rm) (fun a U => a = A ∧ Z.Warmed39 U.vm ∧ U.heap = h0) (fun _ _ _ _ _ => True) (fun _ U o U' => ∃ v L, o = .returned v ∧ Q v U'.heap L ∧ FrameEnd U o U' L rm.cells rm.slots)
abbrev MFS (l : Launch) (Z : State) (y : MethodName) (bytes : ByteArray) (ml : Nat) (rt : Option FieldType) (rm : Room) (ws : List Jvm.Cond) (A : Array Value) (h0 : Heap) (Q : Option Value → Heap → List Loc → Prop) : Prop :=
  MetFree l y (head1 (Jvm.Cond.code y bytes ml rt :: ws) rm) (fun a U => a = A ∧ Z.Warmed39 U.vm ∧ U.heap = h0) (fun _ _ _ _ _ => True) (fun _ U o U' => ∃ v L, o = .returned v ∧ Q v U'.heap L ∧ ReturnedEndW U o U' L rm.cells rm.slots)
abbrev MFI (l : Launch) (Z : State) (y : MethodName) (bytes : ByteArray) (ml : Nat) (rt : Option FieldType) (rm : Room) (ws : List Jvm.Cond) (A : Array Value) (h0 : Heap) (Q : Option Value → Heap → List Loc → Prop) : Prop :=
  MetFree l y (head1 (Jvm.Cond.code y bytes ml rt :: ws) rm) (fun a U => a = A ∧ Z.Warmed39 U.vm ∧ U.heap = h0 ∧ U.vm.interned = Z.vm.interned) (fun _ _ _ _ _ => True) (fun _ U o U' => ∃ v L, o = .returned v ∧ Q v U'.heap L ∧ ReturnedEndW U o U' L rm.cells rm.slots)
abbrev Kt (p : Program) (e : Env) (below : List Frame) (T st0 : State) (g : JFrame) : Prop := ∀ t, Steps p.tables e below (T.setTop g) t → Steps p.tables e below st0 t
section KL
variable {p : Program} {l : Launch} {e : Env} {R : Room} {s : State} {m : MethodId} {args : Array Value} {below : List Frame} {meth : Method} {c : Code} {T : State} {locs : List Loc} {cells slots : Nat} {Z : State} {a0 : Array Value} {h : Heap} {st0 : State} {g : JFrame}
theorem kget (X : Stand p l e R s m args below meth c T locs cells slots) (hx : p.tables.exec = Jvm.exec) (hZ : Z.Warmed39 s.vm) {own R0 O n d host : String} {index : Nat} (hown : s.vm.findClass own = some m.cls) (w : (Jvm.Cond.fieldLink own index R0 n d).before a0 Z = true ∨ (Jvm.Cond.fieldLinkNest own index R0 n d host).before a0 Z = true) (via : Via Z R0 O n d) (eT : T.heap = h) {a : Addr} {v : Value} (F : Fld Z h a O n d v) (k : Kt p e below T st0 g) (hg : g.method = m) {rest : List Value} (hs : g.stack = .ref a :: rest) (hd : decode c.code g.pc = .ok (.getfield index, 3)) :
    ∃ T', Stand p l e R s m args below meth c T' locs cells slots ∧ T'.heap = h ∧ Kt p e below T' st0 { g with pc := g.pc + 3, stack := v :: rest } := by
  obtain ⟨T', X', e', st⟩ := getF X hx hZ hown w via eT F hg hs hd
  exact ⟨T', X', e', fun t q => k t (st t q)⟩
theorem kgetS (X : Stand p l e R s m args below meth c T locs cells slots) (hx : p.tables.exec = Jvm.exec) (hZ : Z.Warmed39 s.vm) {own R0 O n d host : String} {index : Nat} (hown : s.vm.findClass own = some m.cls) (w : (Jvm.Cond.fieldLink own index R0 n d).before a0 Z = true ∨ (Jvm.Cond.fieldLinkNest own index R0 n d host).before a0 Z = true) (via : Via Z R0 O n d) (eT : T.heap = h) {v : Value} (F : Sta Z h O n d v) (k : Kt p e below T st0 g) (hg : g.method = m) (hd : decode c.code g.pc = .ok (.getstatic index, 3)) :
    ∃ T', Stand p l e R s m args below meth c T' locs cells slots ∧ T'.heap = h ∧ Kt p e below T' st0 { g with pc := g.pc + 3, stack := v :: g.stack } := by
  obtain ⟨T', X', e', st⟩ := getS2 X hx hZ hown w via eT F hg hd
  exact ⟨T', X', e', fun t q => k t (st t q)⟩
theorem kput (X : Stand p l e R s m args below meth c T locs cells slots) (hx : p.tables.exec = Jvm.exec) (hZ : Z.Warmed39 s.vm) {own R0 O n d host C : String} {index kk : Nat} (ty : FieldType) (hown : s.vm.findClass own = some m.cls) (w : (Jvm.Cond.fieldLink own index R0 n d).before a0 Z = true ∨ (Jvm.Cond.fieldLinkNest own index R0 n d host).before a0 Z = true) (via : Via Z R0 O n d) (eT : T.heap = h) {a : Addr} {v old : Value} (F : Fld Z h a O n d old) (E : Exa Z h a C) (L : (Jvm.Cond.lays C O n d).before a0 Z = true ∨ ((Jvm.Cond.laysFinal C O n d).before a0 Z = true ∧ own = O ∧ meth.name = "<init>")) (wi : (Jvm.Cond.instantiable C kk).before a0 Z = true)
    (k : Kt p e below T st0 g) (hg : g.method = m) {rest : List Value} (hs : g.stack = v :: .ref a :: rest) (hd : decode c.code g.pc = .ok (.putfield index, 3)) (hty : parseFieldDescriptor d = some ty) (hn : narrow ty v = v) (hf : fits ty v = true) {n0 : Nat} (O0 : Old Z n0 h) (N : Fr n0 locs) (ge : n0 ≤ a) :
    ∃ T' h', Stand p l e R s m args below meth c T' (locs ++ [⟨a, Jvm.RoadKit.slotOf Z O n d⟩]) cells slots ∧ T'.heap = h' ∧ Wr h h' a (Jvm.RoadKit.slotOf Z O n d) v ∧ Fld Z h' a O n d v ∧ Old Z n0 h' ∧ Fr n0 (locs ++ [⟨a, Jvm.RoadKit.slotOf Z O n d⟩]) ∧ Kt p e below T' st0 { g with pc := g.pc + 3, stack := rest } := by
  obtain ⟨T', h', X', e', W, st⟩ := putF X hx hZ hown w via eT F E L wi hty hn hf hg hs hd
  exact ⟨T', h', X', e', W, F.same W, O0.wr W ge, Fr.snoc X' N ge, fun t q => k t (st t q)⟩
theorem kputN (X : Stand p l e R s m args below meth c T locs cells slots) (hx : p.tables.exec = Jvm.exec) (hZ : Z.Warmed39 s.vm) {own R0 O n d C : String} {index kk : Nat} (ty : FieldType) (hown : s.vm.findClass own = some m.cls) (w : (Jvm.Cond.fieldLink own index R0 n d).before a0 Z = true) (via : Via Z R0 O n d) (eT : T.heap = h) {a : Addr} {v v' old : Value} (F : Fld Z h a O n d old) (E : Exa Z h a C) (L : (Jvm.Cond.lays C O n d).before a0 Z = true ∨ ((Jvm.Cond.laysFinal C O n d).before a0 Z = true ∧ own = O ∧ meth.name = "<init>")) (wi : (Jvm.Cond.instantiable C kk).before a0 Z = true)
    (k : Kt p e below T st0 g) (hg : g.method = m) {rest : List Value} (hs : g.stack = v :: .ref a :: rest) (hd : decode c.code g.pc = .ok (.putfield index, 3)) (hty : parseFieldDescriptor d = some ty) (hn : narrow ty v = v') (hf : fits ty v' = true) {n0 : Nat} (O0 : Old Z n0 h) (N : Fr n0 locs) (ge : n0 ≤ a) :
    ∃ T' h', Stand p l e R s m args below meth c T' (locs ++ [⟨a, Jvm.RoadKit.slotOf Z O n d⟩]) cells slots ∧ T'.heap = h' ∧ Wr h h' a (Jvm.RoadKit.slotOf Z O n d) v' ∧ Fld Z h' a O n d v' ∧ Old Z n0 h' ∧ Fr n0 (locs ++ [⟨a, Jvm.RoadKit.slotOf Z O n d⟩]) ∧ Kt p e below T' st0 { g with pc := g.pc + 3, stack := rest } := by
  obtain ⟨T', h', X', e', W, st⟩ := putFN X hx hZ hown w via eT F E L wi hty hn hf hg hs hd
  exact ⟨T', h', X', e', W, F.same W, O0.wr W ge, Fr.snoc X' N ge, fun t q => k t (st t q)⟩
theorem kcast (X : Stand p l e R s m args below meth c T locs cells slots) (hx : p.tables.exec = Jvm.exec) (hZ : Z.Warmed39 s.vm) {own K : String} {index : Nat} (hown : s.vm.findClass own = some m.cls) (w : (Jvm.Cond.classLink own index K).before a0 Z = true) (eT : T.heap = h) {a : Addr} (F : Ins Z h a K true) (k : Kt p e below T st0 g) (hg : g.method = m) {rest : List Value} (hs : g.stack = .ref a :: rest) (hd : decode c.code g.pc = .ok (.checkcast index, 3)) :
    ∃ T', Stand p l e R s m args below meth c T' locs cells slots ∧ T'.heap = h ∧ Kt p e below T' st0 { g with pc := g.pc + 3 } := by
  obtain ⟨T', X', e', st⟩ := castY X hx hZ hown w eT F hg hs hd
  exact ⟨T', X', e', fun t q => k t (st t q)⟩
theorem kinst (X : Stand p l e R s m args below meth c T locs cells slots) (hx : p.tables.exec = Jvm.exec) (hZ : Z.Warmed39 s.vm) {own K : String} {index : Nat} (hown : s.vm.findClass own = some m.cls) (w : (Jvm.Cond.classLink own index K).before a0 Z = true) (eT : T.heap = h) {a : Addr} (F : Ins Z h a K true) (k : Kt p e below T st0 g) (hg : g.method = m) {rest : List Value} (hs : g.stack = .ref a :: rest) (hd : decode c.code g.pc = .ok (.instanceof index, 3)) :
    ∃ T', Stand p l e R s m args below meth c T' locs cells slots ∧ T'.heap = h ∧ Kt p e below T' st0 { g with pc := g.pc + 3, stack := .int 1 :: rest } := by
  obtain ⟨T', X', e', st⟩ := instY X hx hZ hown w eT F hg hs hd
  exact ⟨T', X', e', fun t q => k t (st t q)⟩
theorem knew (X : Stand p l e R s m args below meth c T locs cells slots) (hx : p.tables.exec = Jvm.exec) (hZ : Z.Warmed39 s.vm) {own C : String} {index n : Nat} (hown : s.vm.findClass own = some m.cls) (w : (Jvm.Cond.classLink own index C).before a0 Z = true) (wi : (Jvm.Cond.instantiable C n).before a0 Z = true) (wz : (Jvm.Cond.initialized C).before a0 Z = true) (eT : T.heap = h) (k : Kt p e below T st0 g) (hg : g.method = m) (hd : decode c.code g.pc = .ok (.new index, 3)) (hc : cells + 1 ≤ R.cells) (hl : slots + n ≤ R.slots) {n0 : Nat} (O0 : Old Z n0 h) :
    ∃ b T' h', h.size ≤ b ∧ n0 ≤ b ∧ Stand p l e R s m args below meth c T' locs (cells + 1) (slots + n) ∧ T'.heap = h' ∧ Ext h h' ∧ Old Z n0 h' ∧ Exa Z h' b C ∧ (∀ {O nm d : String} {ty : FieldType}, Jvm.RoadKit.Laid Z a0 C O nm d → parseFieldDescriptor d = some ty → Fld Z h' b O nm d (defaultValue ty)) ∧ (∃ cell : Cell, h'[b]? = some cell ∧ cell.vm = .none ∧ cell.monitor = {}) ∧ Kt p e below T' st0 { g with pc := g.pc + 3, stack := .ref b :: g.stack } := by
  obtain ⟨T', h', X', e', E, A, D, U, st⟩ := newO X hx hZ hown w wi wz eT hg hd hc hl
  exact ⟨h.size, T', h', Nat.le_refl _, Nat.le_trans (Nat.le_of_eq O0.1.symm) O0.2.1, X', e', E, O0.ext E, A, D, U, fun t q => k t (st t q)⟩
theorem knewP (X : Stand p l e R s m args below meth c T locs cells slots) (hx : p.tables.exec = Jvm.exec) (hZ : Z.Warmed39 s.vm) {aty : ArrayType} (w : (Jvm.Cond.arrayClass (newarray.typeOf aty)).before a0 Z = true) (eT : T.heap = h) (k : Kt p e below T st0 g) (hg : g.method = m) (hd : decode c.code g.pc = .ok (.newarray aty, 2)) {n : Int32} {rest : List Value} (hs : g.stack = .int n :: rest) (hn : ¬ n < 0) (cap : Nat) (hcap : n.toNatClampNeg ≤ cap) (hb : cap * 8 ≤ 536870912) (hc : cells + 1 ≤ R.cells) (hl : slots + cap ≤ R.slots) {n0 : Nat} (O0 : Old Z n0 h) :
    ∃ b T' h' cA, h.size ≤ b ∧ n0 ≤ b ∧ Stand p l e R s m args below meth c T' locs (cells + 1) (slots + cap) ∧ T'.heap = h' ∧ Ext h h' ∧ Old Z n0 h' ∧ Arv Z h' b cA (newarray.typeOf aty) n [] (defaultValue (newarray.typeOf aty)) ∧ Kt p e below T' st0 { g with pc := g.pc + 2, stack := .ref b :: rest } := by
  obtain ⟨T', h', cA, X', e', E, A, st⟩ := newP X hx hZ w eT hg hd hs hn hcap hb hc hl
  exact ⟨h.size, T', h', cA, Nat.le_refl _, Nat.le_trans (Nat.le_of_eq O0.1.symm) O0.2.1, X', e', E, O0.ext E, Arv.new A hn, fun t q => k t (st t q)⟩
theorem kinit (X : Stand p l e R s m args below meth c T locs cells slots) (hx : p.tables.exec = Jvm.exec) (hZ : Z.Warmed39 s.vm) {own : String} {idx : Nat} (hown : s.vm.findClass own = some m.cls) (w1 : (Jvm.Cond.methodLink own idx Lib.objectInit).before a0 Z = true) (w2 : (Jvm.Cond.instanceMethod Lib.objectInit).before a0 Z = true) (w3 : (Jvm.Cond.code Lib.objectInit ⟨#[0xb1]⟩ 1 none).before a0 Z = true) (eT : T.heap = h) (k : Kt p e below T st0 g) (hg : g.method = m) {M : Nat} (hml : c.maxLocals = M) (hsize : g.locals.size = M) {a : Addr} {rest : List Value} (hs : g.stack = .ref a :: rest) (hd : decode c.code g.pc = .ok (.invokespecial idx, 3)) (W : Nat) (hW : 2 * g.monitorRoom + (rest.map fun v => v.category).sum ≤ W) (hf : 1 ≤ R.frames) (hl : W + 12 ≤ R.locals) :
    ∃ T', Stand p l e R s m args below meth c T' locs cells slots ∧ T'.heap = h ∧ Kt p e below T' st0 { g with pc := g.pc + 3, stack := rest } := by
  obtain ⟨T', X', e', st⟩ := initO X hx hZ hown w1 w2 w3 eT hg (hsize.trans hml.symm) hs hd hf hW hl
  exact ⟨T', X', e', fun t q => k t (st t q)⟩
theorem kstC (X : Stand p l e R s m args below meth c T locs cells slots) (hx : p.tables.exec = Jvm.exec) (hZ : Z.Warmed39 s.vm) (eT : T.heap = h) {a : Addr} {ka : ClassId} {z : Int32} {vs : List Value} {dv : Value} (A : Arv Z h a ka .char z vs dv) {j x : Int32} (q1 : ¬ j < 0) (q2 : j < z) (i : Nat) (hj : j.toNatClampNeg = i) (hi : i < vs.length) (k : Kt p e below T st0 g) (hg : g.method = m) {rest : List Value} (hs : g.stack = .int x :: .int j :: .ref a :: rest) (hd : decode c.code g.pc = .ok (.castore, 1)) {n0 : Nat} (O0 : Old Z n0 h) (N : Fr n0 locs) (ge : n0 ≤ a) :
    ∃ T' h', Stand p l e R s m args below meth c T' (locs ++ [⟨a, j.toNatClampNeg⟩]) cells slots ∧ T'.heap = h' ∧ Wr h h' a j.toNatClampNeg (.int (nar .char x)) ∧ Arv Z h' a ka .char z (vs.set i (.int (nar .char x))) dv ∧ Old Z n0 h' ∧ Fr n0 (locs ++ [⟨a, j.toNatClampNeg⟩]) ∧ Kt p e below T' st0 { g with pc := g.pc + 1, stack := rest } := by
  obtain ⟨cl, Ar, b1, S, M, H, G⟩ := A
  obtain ⟨T', h', X', e', W, st⟩ := stC X hx hZ eT Ar (inb_of S ⟨q1, q2⟩) hg hs hd
  exact ⟨T', h', X', e', W, Arv.set Ar b1 S M H G (fits_nar_char _) W i hj hi, O0.wr W ge, Fr.snoc X' N ge, fun t q => k t (st t q)⟩
theorem kstB (X : Stand p l e R s m args below meth c T locs cells slots) (hx : p.tables.exec = Jvm.exec) (hZ : Z.Warmed39 s.vm) (eT : T.heap = h) {a : Addr} {ka : ClassId} {z : Int32} {vs : List Value} {dv : Value} (A : Arv Z h a ka .byte z vs dv) {j x : Int32} (q1 : ¬ j < 0) (q2 : j < z) (i : Nat) (hj : j.toNatClampNeg = i) (hi : i < vs.length) (k : Kt p e below T st0 g) (hg : g.method = m) {rest : List Value} (hs : g.stack = .int x :: .int j :: .ref a :: rest) (hd : decode c.code g.pc = .ok (.bastore, 1)) {n0 : Nat} (O0 : Old Z n0 h) (N : Fr n0 locs) (ge : n0 ≤ a) :
    ∃ T' h', Stand p l e R s m args below meth c T' (locs ++ [⟨a, j.toNatClampNeg⟩]) cells slots ∧ T'.heap = h' ∧ Wr h h' a j.toNatClampNeg (.int (nar .byte x)) ∧ Arv Z h' a ka .byte z (vs.set i (.int (nar .byte x))) dv ∧ Old Z n0 h' ∧ Fr n0 (locs ++ [⟨a, j.toNatClampNeg⟩]) ∧ Kt p e below T' st0 { g with pc := g.pc + 1, stack := rest } := by
  obtain ⟨cl, Ar, b1, S, M, H, G⟩ := A
  obtain ⟨T', h', X', e', W, st⟩ := stB X hx hZ eT Ar (inb_of S ⟨q1, q2⟩) hg hs hd
  exact ⟨T', h', X', e', W, Arv.set Ar b1 S M H G (fits_nar_byte _) W i hj hi, O0.wr W ge, Fr.snoc X' N ge, fun t q => k t (st t q)⟩
theorem kstI (X : Stand p l e R s m args below meth c T locs cells slots) (hx : p.tables.exec = Jvm.exec) (hZ : Z.Warmed39 s.vm) (eT : T.heap = h) {a : Addr} {ka : ClassId} {z : Int32} {vs : List Value} {dv : Value} (A : Arv Z h a ka .int z vs dv) {j x : Int32} (q1 : ¬ j < 0) (q2 : j < z) (i : Nat) (hj : j.toNatClampNeg = i) (hi : i < vs.length) (k : Kt p e below T st0 g) (hg : g.method = m) {rest : List Value} (hs : g.stack = .int x :: .int j :: .ref a :: rest) (hd : decode c.code g.pc = .ok (.iastore, 1)) {n0 : Nat} (O0 : Old Z n0 h) (N : Fr n0 locs) (ge : n0 ≤ a) :
    ∃ T' h', Stand p l e R s m args below meth c T' (locs ++ [⟨a, j.toNatClampNeg⟩]) cells slots ∧ T'.heap = h' ∧ Wr h h' a j.toNatClampNeg (.int x) ∧ Arv Z h' a ka .int z (vs.set i (.int x)) dv ∧ Old Z n0 h' ∧ Fr n0 (locs ++ [⟨a, j.toNatClampNeg⟩]) ∧ Kt p e below T' st0 { g with pc := g.pc + 1, stack := rest } := by
  obtain ⟨cl, Ar, b1, S, M, H, G⟩ := A
  obtain ⟨T', h', X', e', W, st⟩ := stI X hx hZ eT Ar (inb_of S ⟨q1, q2⟩) hg hs hd
  exact ⟨T', h', X', e', W, Arv.set Ar b1 S M H G rfl W i hj hi, O0.wr W ge, Fr.snoc X' N ge, fun t q => k t (st t q)⟩
theorem ldC {t : State} (X : Stand p l e R s m args below meth c T locs cells slots) (hx : p.tables.exec = Jvm.exec) (hZ : Z.Warmed39 s.vm) (eT : T.heap = h) {a : Addr} {ka : ClassId} {z : Int32} {vs : List Value} {dv v : Value} (A : Arv Z h a ka .char z vs dv) {j : Int32} (q1 : ¬ j < 0) (q2 : j < z) (hv : vs.getD j.toNatClampNeg dv = v) (hg : g.method = m) {rest : List Value} (hs : g.stack = .int j :: .ref a :: rest) (hd : decode c.code g.pc = .ok (.caload, 1)) (q : Steps p.tables e below (T.setTop { g with pc := g.pc + 1, stack := v :: rest }) t) : Steps p.tables e below (T.setTop g) t := by
  obtain ⟨cl, Ar, b1, S, M, H, G⟩ := A
  exact X.caload hx (by rw [eT]; exact Ar.1) (State.isArrayOf_alike hZ.alike Ar.2.1) Ar.2.2 (inb_of S ⟨q1, q2⟩) (Has.at H (inb_of S ⟨q1, q2⟩) hv) hg hs hd _ q
theorem ldB {t : State} (X : Stand p l e R s m args below meth c T locs cells slots) (hx : p.tables.exec = Jvm.exec) (hZ : Z.Warmed39 s.vm) (eT : T.heap = h) {a : Addr} {ka : ClassId} {z : Int32} {vs : List Value} {dv v : Value} (A : Arv Z h a ka .byte z vs dv) {j : Int32} (q1 : ¬ j < 0) (q2 : j < z) (hv : vs.getD j.toNatClampNeg dv = v) (hg : g.method = m) {rest : List Value} (hs : g.stack = .int j :: .ref a :: rest) (hd : decode c.code g.pc = .ok (.baload, 1)) (q : Steps p.tables e below (T.setTop { g with pc := g.pc + 1, stack := v :: rest }) t) : Steps p.tables e below (T.setTop g) t := by
  obtain ⟨cl, Ar, b1, S, M, H, G⟩ := A
  exact X.baloadBytes hx (by rw [eT]; exact Ar.1) (State.isArrayOf_alike hZ.alike Ar.2.1) Ar.2.2 (inb_of S ⟨q1, q2⟩) (Has.at H (inb_of S ⟨q1, q2⟩) hv) hg hs hd _ q
theorem ldI {t : State} (X : Stand p l e R s m args below meth c T locs cells slots) (hx : p.tables.exec = Jvm.exec) (hZ : Z.Warmed39 s.vm) (eT : T.heap = h) {a : Addr} {ka : ClassId} {z : Int32} {vs : List Value} {dv v : Value} (A : Arv Z h a ka .int z vs dv) {j : Int32} (q1 : ¬ j < 0) (q2 : j < z) (hv : vs.getD j.toNatClampNeg dv = v) (hg : g.method = m) {rest : List Value} (hs : g.stack = .int j :: .ref a :: rest) (hd : decode c.code g.pc = .ok (.iaload, 1)) (q : Steps p.tables e below (T.setTop { g with pc := g.pc + 1, stack := v :: rest }) t) : Steps p.tables e below (T.setTop g) t := by
  obtain ⟨cl, Ar, b1, S, M, H, G⟩ := A
  exact X.iaload hx (by rw [eT]; exact Ar.1) (State.isArrayOf_alike hZ.alike Ar.2.1) Ar.2.2 (inb_of S ⟨q1, q2⟩) (Has.at H (inb_of S ⟨q1, q2⟩) hv) hg hs hd _ q
theorem ldA {t : State} (X : Stand p l e R s m args below meth c T locs cells slots) (hx : p.tables.exec = Jvm.exec) (hZ : Z.Warmed39 s.vm) (eT : T.heap = h) {a : Addr} {ka : ClassId} {C : String} {z : Int32} {vs : List Value} {dv v : Value} (A : Arv Z h a ka (.object C) z vs dv) {j : Int32} (q1 : ¬ j < 0) (q2 : j < z) (hv : vs.getD j.toNatClampNeg dv = v) (hg : g.method = m) {rest : List Value} (hs : g.stack = .int j :: .ref a :: rest) (hd : decode c.code g.pc = .ok (.aaload, 1)) (q : Steps p.tables e below (T.setTop { g with pc := g.pc + 1, stack := v :: rest }) t) : Steps p.tables e below (T.setTop g) t := by
  obtain ⟨cl, Ar, b1, S, M, H, G⟩ := A
  exact X.aaload hx (by rw [eT]; exact Ar.1) (State.isArrayOf_alike hZ.alike Ar.2.1) rfl Ar.2.2 (inb_of S ⟨q1, q2⟩) (Has.at H (inb_of S ⟨q1, q2⟩) hv) hg hs hd _ q
theorem ldLen {t : State} (X : Stand p l e R s m args below meth c T locs cells slots) (hx : p.tables.exec = Jvm.exec) (hZ : Z.Warmed39 s.vm) (eT : T.heap = h) {a : Addr} {ka : ClassId} {ty : FieldType} {z : Int32} {vs : List Value} {dv : Value} (A : Arv Z h a ka ty z vs dv) (hg : g.method = m) {rest : List Value} (hs : g.stack = .ref a :: rest) (hd : decode c.code g.pc = .ok (.arraylength, 1)) (q : Steps p.tables e below (T.setTop { g with pc := g.pc + 1, stack := .int z :: rest }) t) : Steps p.tables e below (T.setTop g) t := by
  obtain ⟨cl, Ar, b1, S, M, H, G⟩ := A
  refine X.arraylength hx (by rw [eT]; exact Ar.1) (State.isArrayOf_alike hZ.alike Ar.2.1) hg hs hd _ ?_
  rw [len_of S M]; exact q
variable {y z : MethodName} {bytes : ByteArray} {ml : Nat} {rt : Option FieldType} {rm : Room} {as' : Array Value} {Q : Option Value → Heap → List Loc → Prop}
theorem kstat (X : Stand p l e R s m args below meth c T locs cells slots) (hx : p.tables.exec = Jvm.exec) (hZ : Z.Warmed39 s.vm) {own : String} {index : Nat} (hown : s.vm.findClass own = some m.cls) (w1 : (Jvm.Cond.methodLink own index y).before a0 Z = true) (w2 : (Jvm.Cond.static y).before a0 Z = true) (w3 : (Jvm.Cond.initialized y.cls).before a0 Z = true) (w4 : (Jvm.Cond.code y bytes ml rt).before a0 Z = true) (hM : MFP l Z y bytes ml rt rm [] as' h Q) (eT : T.heap = h) (k : Kt p e below T st0 g) {M : Nat} (hml : c.maxLocals = M) {ps : List FieldType} {r : Option FieldType} (pd : parseMethodDescriptor y.desc = some ⟨ps, r⟩) (argsL rest : List Value) (W : Nat) (hd : decode c.code g.pc = .ok (.invokestatic index, 3))
    (hg : g.method = m) (hsize : g.locals.size = M) (hln : argsL.length = ps.length) (hst : g.stack = argsL.reverse ++ rest) (ha : argsL.toArray = as') (hW : 2 * g.monitorRoom + (rest.map fun v => v.category).sum = W) (hy : y.cls ≠ "java/lang/invoke/MethodHandle" ∧ y.cls ≠ "java/lang/invoke/VarHandle" := by decide) (hf : rm.frames + 1 ≤ R.frames := by decide) (hl : W + (ml + 11) + rm.locals ≤ R.locals := by decide) (hc : cells + rm.cells ≤ R.cells := by decide) (hs : slots + rm.slots ≤ R.slots := by decide) :
    ∃ v T' L', Stand p l e R s m args below meth c T' (locs ++ L') (cells + rm.cells) (slots + rm.slots) ∧ Q v T'.heap L' ∧ Kt p e below T' st0 { g with pc := g.pc + 3, stack := v.toList ++ rest } := by
  obtain ⟨v, _, ⟨T', L, k', n'⟩, -, X', ⟨Lc, hQ, e1, e2, e3⟩, st⟩ := Jvm.LawKit.callS X hx hown (mvT hZ w1) (mvT hZ w2) (mvT hZ w3) (mvT hZ w4) hy (backOf (W := W) hM hZ w4 w3 hf hl) hg (hsize.trans hml.symm) (argsL := argsL) (rest := rest) (lenOf pd hln) hst (Nat.le_of_eq hW) hd (fun _ _ => ⟨ha, eT, hc, hs⟩)
  dsimp only [Pt.U, Pt.locs, Pt.cells, Pt.slots] at X' e1 e2 e3 st hQ
  subst e1 e2 e3
  exact ⟨v, T', Lc, X', hQ, fun t q => k t (st t q)⟩
theorem kspec (X : Stand p l e R s m args below meth c T locs cells slots) (hx : p.tables.exec = Jvm.exec) (hZ : Z.Warmed39 s.vm) {own : String} {index : Nat} (hown : s.vm.findClass own = some m.cls) (w1 : (Jvm.Cond.methodLink own index y).before a0 Z = true) (w2 : (Jvm.Cond.instanceMethod y).before a0 Z = true) (w3 : (Jvm.Cond.initialized y.cls).before a0 Z = true) (w4 : (Jvm.Cond.code y bytes ml none).before a0 Z = true) (hM : MFP l Z y bytes ml none rm [] as' h Q) (eT : T.heap = h) (k : Kt p e below T st0 g) {M : Nat} (hml : c.maxLocals = M) {ps : List FieldType} {r : Option FieldType} (pd : parseMethodDescriptor y.desc = some ⟨ps, r⟩) (a : Addr) (argsL rest : List Value) (W : Nat) (hd : decode c.code g.pc = .ok (.invokespecial index, 3))
    (hg : g.method = m) (hsize : g.locals.size = M) (hln : argsL.length = ps.length) (hst : g.stack = argsL.reverse ++ .ref a :: rest) (ha : (Value.ref a :: argsL).toArray = as') (hW : 2 * g.monitorRoom + (rest.map fun v => v.category).sum = W) (hy1 : y.name = "<init>" := by rfl) (hy : y.cls ≠ "java/lang/invoke/MethodHandle" ∧ y.cls ≠ "java/lang/invoke/VarHandle" := by decide) (hf : rm.frames + 1 ≤ R.frames := by decide) (hl : W + (ml + 11) + rm.locals ≤ R.locals := by decide) (hc : cells + rm.cells ≤ R.cells := by decide) (hs : slots + rm.slots ≤ R.slots := by decide) :
    ∃ v T' L', Stand p l e R s m args below meth c T' (locs ++ L') (cells + rm.cells) (slots + rm.slots) ∧ Q v T'.heap L' ∧ Kt p e below T' st0 { g with pc := g.pc + 3, stack := v.toList ++ rest } := by
  obtain ⟨v, _, ⟨T', L, k', n'⟩, -, X', ⟨Lc, hQ, e1, e2, e3⟩, st⟩ := X.specialBack hx hy1 hown (mvT hZ w1) (mvT hZ w2) (mvT hZ w4) hy (backOf (W := W) hM hZ w4 w3 hf hl) hg (hsize.trans hml.symm) (Steps.refl _) (a := a) (argsL := argsL) (rest := rest) (lenOf pd hln) hst (Nat.le_of_eq hW) hd (fun _ _ => ⟨ha, eT, hc, hs⟩)
  dsimp only [Pt.U, Pt.locs, Pt.cells, Pt.slots] at X' e1 e2 e3 st hQ
  subst e1 e2 e3
  exact ⟨v, T', Lc, X', hQ, fun t q => k t (st.trans q)⟩
theorem kvirt (X : Stand p l e R s m args below meth c T locs cells slots) (hx : p.tables.exec = Jvm.exec) (hZ : Z.Warmed39 s.vm) {own C : String} {index : Nat} (hown : s.vm.findClass own = some m.cls) (w1 : (Jvm.Cond.methodLink own index y).before a0 Z = true) (w2 : (Jvm.Cond.declares y).before a0 Z = true) (w3 : (Jvm.Cond.selects C y y).before a0 Z = true) (w4 : (Jvm.Cond.instanceMethod y).before a0 Z = true) (w5 : (Jvm.Cond.code y bytes ml rt).before a0 Z = true) (w6 : (Jvm.Cond.initialized y.cls).before a0 Z = true) (hM : MFP l Z y bytes ml rt rm [] as' h Q) (eT : T.heap = h) {b : Addr} (E : Exa Z h b C) (k : Kt p e below T st0 g) {M : Nat} (hml : c.maxLocals = M) {ps : List FieldType} {r : Option FieldType} (pd : parseMethodDescriptor y.desc = some ⟨ps, r⟩) (argsL rest : List Value) (W : Nat) (hd : decode c.code g.pc = .ok (.invokevirtual index, 3))
    (hg : g.method = m) (hsize : g.locals.size = M) (hln : argsL.length = ps.length) (hst : g.stack = argsL.reverse ++ .ref b :: rest) (ha : (Value.ref b :: argsL).toArray = as') (hW : 2 * g.monitorRoom + (rest.map fun v => v.category).sum = W) (hy : y.cls ≠ "java/lang/invoke/MethodHandle" ∧ y.cls ≠ "java/lang/invoke/VarHandle" := by decide) (hf : rm.frames + 1 ≤ R.frames := by decide) (hl : W + (ml + 11) + rm.locals ≤ R.locals := by decide) (hc : cells + rm.cells ≤ R.cells := by decide) (hs : slots + rm.slots ≤ R.slots := by decide) :
    ∃ v T' L', Stand p l e R s m args below meth c T' (locs ++ L') (cells + rm.cells) (slots + rm.slots) ∧ Q v T'.heap L' ∧ Kt p e below T' st0 { g with pc := g.pc + 3, stack := v.toList ++ rest } := by
  obtain ⟨cB, kB, qa, qb, qc⟩ := isOf hZ eT E
  obtain ⟨v, _, ⟨T', L, k', n'⟩, -, X', ⟨Lc, hQ, e1, e2, e3⟩, st⟩ := X.virtualBack hx (y := y) (z := y) hown (mvT hZ w1) (mvT hZ w2) (notFace_of_selects (args := #[]) (mvT hZ w3)) (mvT hZ w3) (mvT hZ w4) hy (backOf (W := W) hM hZ w5 w6 hf hl) qa qc hg (hsize.trans hml.symm) (Steps.refl _) (argsL := argsL) (rest := rest) (lenOf pd hln) hst (Nat.le_of_eq hW) hd (fun _ _ => ⟨ha, eT, hc, hs⟩)
  dsimp only [Pt.U, Pt.locs, Pt.cells, Pt.slots] at X' e1 e2 e3 st hQ
  subst e1 e2 e3
  exact ⟨v, T', Lc, X', hQ, fun t q => k t (st.trans q)⟩
theorem kface (X : Stand p l e R s m args below meth c T locs cells slots) (hx : p.tables.exec = Jvm.exec) (hZ : Z.Warmed39 s.vm) {own C : String} {index count : Nat} (hown : s.vm.findClass own = some m.cls) (w1 : (Jvm.Cond.methodLink own index y).before a0 Z = true) (w2 : (Jvm.Cond.declares y).before a0 Z = true) (w3 : (Jvm.Cond.interfaceMethod y.cls y.cls y.name y.desc).before a0 Z = true) (w4 : (Jvm.Cond.selects C y z).before a0 Z = true) (w5 : (Jvm.Cond.instanceMethod z).before a0 Z = true) (w6 : (Jvm.Cond.publicMethod z).before a0 Z = true) (w7 : (Jvm.Cond.unhidden C y.name y.desc).before a0 Z = true) (w8 : (Jvm.Cond.castable C y.cls).before a0 Z = true) (w9 : (Jvm.Cond.code z bytes ml rt).before a0 Z = true) (w10 : (Jvm.Cond.initialized z.cls).before a0 Z = true) (hM : MFP l Z z bytes ml rt rm [] as' h Q) (eT : T.heap = h) {b : Addr} (E : Exa Z h b C) (k : Kt p e below T st0 g) {M : Nat} (hml : c.maxLocals = M) {ps : List FieldType} {r : Option FieldType} (pd : parseMethodDescriptor y.desc = some ⟨ps, r⟩) (argsL rest : List Value) (W : Nat) (hd : decode c.code g.pc = .ok (.invokeinterface index count, 5))
    (hg : g.method = m) (hsize : g.locals.size = M) (hln : argsL.length = ps.length) (hst : g.stack = argsL.reverse ++ .ref b :: rest) (ha : (Value.ref b :: argsL).toArray = as') (hW : 2 * g.monitorRoom + (rest.map fun v => v.category).sum = W) (hy : y.cls ≠ "java/lang/invoke/MethodHandle" ∧ y.cls ≠ "java/lang/invoke/VarHandle" := by decide) (hf : rm.frames + 1 ≤ R.frames := by decide) (hl : W + (ml + 11) + rm.locals ≤ R.locals := by decide) (hc : cells + rm.cells ≤ R.cells := by decide) (hs : slots + rm.slots ≤ R.slots := by decide) :
    ∃ v T' L', Stand p l e R s m args below meth c T' (locs ++ L') (cells + rm.cells) (slots + rm.slots) ∧ Q v T'.heap L' ∧ Kt p e below T' st0 { g with pc := g.pc + 5, stack := v.toList ++ rest } := by
  obtain ⟨cB, kB, qa, qb, qc⟩ := isOf hZ eT E
  obtain ⟨v, _, ⟨T', L, k', n'⟩, -, X', ⟨Lc, hQ, e1, e2, e3⟩, st⟩ := X.interfaceBack hx (xi := y) (y := z) hown (mvT hZ w1) (mvT hZ w2) (mvT hZ w3 (by simp [Jvm.Cond.onTables, Jvm.Cond.keepsFace, Jvm.Cond.keeps, Jvm.Cond.steady, Jvm.Cond.faceAtom, hy.1, hy.2])) (mvT hZ w4) (mvT hZ w5) (mvT hZ w6) (mvT hZ w7) (mvT hZ w8) hy (backOf (W := W) hM hZ w9 w10 hf hl) qa qb qc hg (hsize.trans hml.symm) (Steps.refl _) (argsL := argsL) (rest := rest) (lenOf pd hln) hst (Nat.le_of_eq hW) hd (fun _ _ => ⟨ha, eT, hc, hs⟩)
  dsimp only [Pt.U, Pt.locs, Pt.cells, Pt.slots] at X' e1 e2 e3 st hQ
  subst e1 e2 e3
  exact ⟨v, T', Lc, X', hQ, fun t q => k t (st.trans q)⟩
end KL
abbrev vi (x : Int32) : Slot := .val (.int x)
abbrev vr (a : Addr) : Slot := .val (.ref a)
abbrev vj (x : Int64) : Slot := .val (.long x)
abbrev ii (x : Int32) : Value := .int x
abbrev rr (a : Addr) : Value := .ref a
abbrev u_ : Slot := .unset
abbrev S_ (p : Program) (e : Env) (below : List Frame) (T : State) (m : MethodId) (pc : Nat) (L : Array Slot) (S : List Value) (t : State) : Prop := Steps p.tables e below (T.setTop (mkF m pc L S)) t
abbrev nm0 : String := "java/lang/String"
abbrev nm1 : String := "java/lang/StringUTF16"
abbrev nm2 : String := "com/example/gjallar/gjallar/messages/CoercionsIsDecimalTextPinLaw"
abbrev nm3 : String := "com/example/gjallar/gjallar/messages/Coercions"
abbrev nm4 : String := "jdk/internal/util/Preconditions"
abbrev nm5 : String := "java/lang/StringLatin1"
abbrev nm6 : String := "Ljava/util/function/BiFunction;"
abbrev nm8 : String := "java/lang/Integer"
abbrev nm10 : String := "java/lang/Long"
abbrev HW (Z : State) (a0 : Array Value) : Prop := ∀ d ∈ tables_1, d.before a0 Z = true
theorem w0 {Z a0} (hw : HW Z a0) : (Jvm.Cond.methodLink nm2 (25 : Nat) ({ cls := nm2, name := "pick", desc := "(I)C" } : Jvm.MethodName)).before a0 Z = true := hw _ (List.mem_of_getElem? (i := 0) rfl)
theorem w1 {Z a0} (hw : HW Z a0) : (Jvm.Cond.static ({ cls := nm2, name := "pick", desc := "(I)C" } : Jvm.MethodName)).before a0 Z = true := hw _ (List.mem_of_getElem? (i := 1) rfl)
theorem w2 {Z a0} (hw : HW Z a0) : (Jvm.Cond.initialized nm2).before a0 Z = true := hw _ (List.mem_of_getElem? (i := 2) rfl)
theorem w3 {Z a0} (hw : HW Z a0) : (Jvm.Cond.code ({ cls := nm2, name := "pick", desc := "(I)C" } : Jvm.MethodName) method_2_code (2 : Nat) (Option.some Jvm.ClassFile.FieldType.char)).before a0 Z = true := hw _ (List.mem_of_getElem? (i := 3) rfl)
theorem w4 {Z a0} (hw : HW Z a0) : (Jvm.Cond.classLink nm2 (31 : Nat) nm0).before a0 Z = true := hw _ (List.mem_of_getElem? (i := 4) rfl)
theorem w5 {Z a0} (hw : HW Z a0) : (Jvm.Cond.instantiable nm0 (4 : Nat)).before a0 Z = true := hw _ (List.mem_of_getElem? (i := 5) rfl)
theorem w6 {Z a0} (hw : HW Z a0) : (Jvm.Cond.initialized nm0).before a0 Z = true := hw _ (List.mem_of_getElem? (i := 6) rfl)
theorem w7 {Z a0} (hw : HW Z a0) : (Jvm.Cond.arrayClass Jvm.ClassFile.FieldType.char).before a0 Z = true := hw _ (List.mem_of_getElem? (i := 7) rfl)
theorem w8 {Z a0} (hw : HW Z a0) : (Jvm.Cond.methodLink nm2 (33 : Nat) ({ cls := nm0, name := "<init>", desc := "([C)V" } : Jvm.MethodName)).before a0 Z = true := hw _ (List.mem_of_getElem? (i := 8) rfl)
theorem w9 {Z a0} (hw : HW Z a0) : (Jvm.Cond.instanceMethod ({ cls := nm0, name := "<init>", desc := "([C)V" } : Jvm.MethodName)).before a0 Z = true := hw _ (List.mem_of_getElem? (i := 9) rfl)
theorem w10 {Z a0} (hw : HW Z a0) : (Jvm.Cond.code ({ cls := nm0, name := "<init>", desc := "([C)V" } : Jvm.MethodName) jdk_42_method_3_code (2 : Nat) (Option.none : Option Jvm.ClassFile.FieldType)).before a0 Z = true := hw _ (List.mem_of_getElem? (i := 10) rfl)
theorem w11 {Z a0} (hw : HW Z a0) : (Jvm.Cond.methodLink nm0 (27 : Nat) ({ cls := nm0, name := "<init>", desc := "([CIILjava/lang/Void;)V" } : Jvm.MethodName)).before a0 Z = true := hw _ (List.mem_of_getElem? (i := 11) rfl)
theorem w12 {Z a0} (hw : HW Z a0) : (Jvm.Cond.instanceMethod ({ cls := nm0, name := "<init>", desc := "([CIILjava/lang/Void;)V" } : Jvm.MethodName)).before a0 Z = true := hw _ (List.mem_of_getElem? (i := 12) rfl)
theorem w14 {Z a0} (hw : HW Z a0) : (Jvm.Cond.code ({ cls := nm0, name := "<init>", desc := "([CIILjava/lang/Void;)V" } : Jvm.MethodName) jdk_42_method_149_code (6 : Nat) (Option.none : Option Jvm.ClassFile.FieldType)).before a0 Z = true := hw _ (List.mem_of_getElem? (i := 14) rfl)
theorem w15 {Z a0} (hw : HW Z a0) : (Jvm.Cond.methodLink nm0 (1 : Nat) ({ cls := "java/lang/Object", name := "<init>", desc := "()V" } : Jvm.MethodName)).before a0 Z = true := hw _ (List.mem_of_getElem? (i := 15) rfl)
theorem w16 {Z a0} (hw : HW Z a0) : (Jvm.Cond.instanceMethod ({ cls := "java/lang/Object", name := "<init>", desc := "()V" } : Jvm.MethodName)).before a0 Z = true := hw _ (List.mem_of_getElem? (i := 16) rfl)
theorem w17 {Z a0} (hw : HW Z a0) : (Jvm.Cond.code ({ cls := "java/lang/Object", name := "<init>", desc := "()V" } : Jvm.MethodName) object_method_1_code (1 : Nat) (Option.none : Option Jvm.ClassFile.FieldType)).before a0 Z = true := hw _ (List.mem_of_getElem? (i := 17) rfl)
theorem w18 {Z a0} (hw : HW Z a0) : (Jvm.Cond.stringLink nm0 (7 : Nat) "").before a0 Z = true := hw _ (List.mem_of_getElem? (i := 18) rfl)
theorem w19 {Z a0} (hw : HW Z a0) : (Jvm.Cond.arrayClass Jvm.ClassFile.FieldType.byte).before a0 Z = true := hw _ (List.mem_of_getElem? (i := 19) rfl)
theorem w20 {Z a0} (hw : HW Z a0) : (Jvm.Cond.laysFinal nm0 nm0 "value" "[B").before a0 Z = true := hw _ (List.mem_of_getElem? (i := 20) rfl)
theorem w21 {Z a0} (hw : HW Z a0) : (Jvm.Cond.laysFinal nm0 nm0 "coder" "B").before a0 Z = true := hw _ (List.mem_of_getElem? (i := 21) rfl)
theorem w24 {Z a0} (hw : HW Z a0) : (Jvm.Cond.fieldLink nm0 (9 : Nat) nm0 "value" "[B").before a0 Z = true := hw _ (List.mem_of_getElem? (i := 24) rfl)
theorem w25 {Z a0} (hw : HW Z a0) : (Jvm.Cond.fieldLink nm0 (15 : Nat) nm0 "coder" "B").before a0 Z = true := hw _ (List.mem_of_getElem? (i := 25) rfl)
theorem w26 {Z a0} (hw : HW Z a0) : (Jvm.Cond.methodLink nm2 (14 : Nat) ({ cls := nm3, name := "isDecimalText", desc := "(Ljava/lang/Object;)Z" } : Jvm.MethodName)).before a0 Z = true := hw _ (List.mem_of_getElem? (i := 26) rfl)
theorem w27 {Z a0} (hw : HW Z a0) : (Jvm.Cond.static ({ cls := nm3, name := "isDecimalText", desc := "(Ljava/lang/Object;)Z" } : Jvm.MethodName)).before a0 Z = true := hw _ (List.mem_of_getElem? (i := 27) rfl)
theorem w28 {Z a0} (hw : HW Z a0) : (Jvm.Cond.initialized nm3).before a0 Z = true := hw _ (List.mem_of_getElem? (i := 28) rfl)
theorem w29 {Z a0} (hw : HW Z a0) : (Jvm.Cond.code ({ cls := nm3, name := "isDecimalText", desc := "(Ljava/lang/Object;)Z" } : Jvm.MethodName) prog_11_method_22_code (2 : Nat) (Option.some Jvm.ClassFile.FieldType.boolean)).before a0 Z = true := hw _ (List.mem_of_getElem? (i := 29) rfl)
theorem w30 {Z a0} (hw : HW Z a0) : (Jvm.Cond.classLink nm3 (10 : Nat) nm0).before a0 Z = true := hw _ (List.mem_of_getElem? (i := 30) rfl)
theorem w31 {Z a0} (hw : HW Z a0) : (Jvm.Cond.methodLink nm3 (228 : Nat) ({ cls := nm0, name := "indexOf", desc := "(I)I" } : Jvm.MethodName)).before a0 Z = true := hw _ (List.mem_of_getElem? (i := 31) rfl)
theorem w32 {Z a0} (hw : HW Z a0) : (Jvm.Cond.declares ({ cls := nm0, name := "indexOf", desc := "(I)I" } : Jvm.MethodName)).before a0 Z = true := hw _ (List.mem_of_getElem? (i := 32) rfl)
theorem w33 {Z a0} (hw : HW Z a0) : (Jvm.Cond.instanceMethod ({ cls := nm0, name := "indexOf", desc := "(I)I" } : Jvm.MethodName)).before a0 Z = true := hw _ (List.mem_of_getElem? (i := 33) rfl)
theorem w34 {Z a0} (hw : HW Z a0) : (Jvm.Cond.selects nm0 ({ cls := nm0, name := "indexOf", desc := "(I)I" } : Jvm.MethodName) ({ cls := nm0, name := "indexOf", desc := "(I)I" } : Jvm.MethodName)).before a0 Z = true := hw _ (List.mem_of_getElem? (i := 34) rfl)
theorem w35 {Z a0} (hw : HW Z a0) : (Jvm.Cond.code ({ cls := nm0, name := "indexOf", desc := "(I)I" } : Jvm.MethodName) jdk_42_method_79_code (2 : Nat) (Option.some Jvm.ClassFile.FieldType.int)).before a0 Z = true := hw _ (List.mem_of_getElem? (i := 35) rfl)
theorem w36 {Z a0} (hw : HW Z a0) : (Jvm.Cond.methodLink nm0 (633 : Nat) ({ cls := nm0, name := "indexOf", desc := "(II)I" } : Jvm.MethodName)).before a0 Z = true := hw _ (List.mem_of_getElem? (i := 36) rfl)
theorem w37 {Z a0} (hw : HW Z a0) : (Jvm.Cond.declares ({ cls := nm0, name := "indexOf", desc := "(II)I" } : Jvm.MethodName)).before a0 Z = true := hw _ (List.mem_of_getElem? (i := 37) rfl)
theorem w38 {Z a0} (hw : HW Z a0) : (Jvm.Cond.instanceMethod ({ cls := nm0, name := "indexOf", desc := "(II)I" } : Jvm.MethodName)).before a0 Z = true := hw _ (List.mem_of_getElem? (i := 38) rfl)
theorem w39 {Z a0} (hw : HW Z a0) : (Jvm.Cond.selects nm0 ({ cls := nm0, name := "indexOf", desc := "(II)I" } : Jvm.MethodName) ({ cls := nm0, name := "indexOf", desc := "(II)I" } : Jvm.MethodName)).before a0 Z = true := hw _ (List.mem_of_getElem? (i := 39) rfl)
theorem w40 {Z a0} (hw : HW Z a0) : (Jvm.Cond.code ({ cls := nm0, name := "indexOf", desc := "(II)I" } : Jvm.MethodName) jdk_42_method_80_code (3 : Nat) (Option.some Jvm.ClassFile.FieldType.int)).before a0 Z = true := hw _ (List.mem_of_getElem? (i := 40) rfl)
theorem w41 {Z a0} (hw : HW Z a0) : (Jvm.Cond.methodLink nm0 (492 : Nat) ({ cls := nm0, name := "isLatin1", desc := "()Z" } : Jvm.MethodName)).before a0 Z = true := hw _ (List.mem_of_getElem? (i := 41) rfl)
theorem w42 {Z a0} (hw : HW Z a0) : (Jvm.Cond.declares ({ cls := nm0, name := "isLatin1", desc := "()Z" } : Jvm.MethodName)).before a0 Z = true := hw _ (List.mem_of_getElem? (i := 42) rfl)
theorem w43 {Z a0} (hw : HW Z a0) : (Jvm.Cond.instanceMethod ({ cls := nm0, name := "isLatin1", desc := "()Z" } : Jvm.MethodName)).before a0 Z = true := hw _ (List.mem_of_getElem? (i := 43) rfl)
theorem w44 {Z a0} (hw : HW Z a0) : (Jvm.Cond.selects nm0 ({ cls := nm0, name := "isLatin1", desc := "()Z" } : Jvm.MethodName) ({ cls := nm0, name := "isLatin1", desc := "()Z" } : Jvm.MethodName)).before a0 Z = true := hw _ (List.mem_of_getElem? (i := 44) rfl)
theorem w45 {Z a0} (hw : HW Z a0) : (Jvm.Cond.code ({ cls := nm0, name := "isLatin1", desc := "()Z" } : Jvm.MethodName) jdk_42_method_154_code (1 : Nat) (Option.some Jvm.ClassFile.FieldType.boolean)).before a0 Z = true := hw _ (List.mem_of_getElem? (i := 45) rfl)
theorem w46 {Z a0} (hw : HW Z a0) : (Jvm.Cond.fieldLink nm0 (38 : Nat) nm0 "COMPACT_STRINGS" "Z").before a0 Z = true := hw _ (List.mem_of_getElem? (i := 46) rfl)
theorem w47 {Z a0} (hw : HW Z a0) : (Jvm.Cond.methodLink nm0 (505 : Nat) ({ cls := nm0, name := "length", desc := "()I" } : Jvm.MethodName)).before a0 Z = true := hw _ (List.mem_of_getElem? (i := 47) rfl)
theorem w48 {Z a0} (hw : HW Z a0) : (Jvm.Cond.declares ({ cls := nm0, name := "length", desc := "()I" } : Jvm.MethodName)).before a0 Z = true := hw _ (List.mem_of_getElem? (i := 48) rfl)
theorem w49 {Z a0} (hw : HW Z a0) : (Jvm.Cond.instanceMethod ({ cls := nm0, name := "length", desc := "()I" } : Jvm.MethodName)).before a0 Z = true := hw _ (List.mem_of_getElem? (i := 49) rfl)
theorem w50 {Z a0} (hw : HW Z a0) : (Jvm.Cond.selects nm0 ({ cls := nm0, name := "length", desc := "()I" } : Jvm.MethodName) ({ cls := nm0, name := "length", desc := "()I" } : Jvm.MethodName)).before a0 Z = true := hw _ (List.mem_of_getElem? (i := 50) rfl)
theorem w51 {Z a0} (hw : HW Z a0) : (Jvm.Cond.code ({ cls := nm0, name := "length", desc := "()I" } : Jvm.MethodName) jdk_42_method_54_code (1 : Nat) (Option.some Jvm.ClassFile.FieldType.int)).before a0 Z = true := hw _ (List.mem_of_getElem? (i := 51) rfl)
theorem w52 {Z a0} (hw : HW Z a0) : (Jvm.Cond.methodLink nm0 (335 : Nat) ({ cls := nm0, name := "coder", desc := "()B" } : Jvm.MethodName)).before a0 Z = true := hw _ (List.mem_of_getElem? (i := 52) rfl)
theorem w53 {Z a0} (hw : HW Z a0) : (Jvm.Cond.declares ({ cls := nm0, name := "coder", desc := "()B" } : Jvm.MethodName)).before a0 Z = true := hw _ (List.mem_of_getElem? (i := 53) rfl)
theorem w54 {Z a0} (hw : HW Z a0) : (Jvm.Cond.instanceMethod ({ cls := nm0, name := "coder", desc := "()B" } : Jvm.MethodName)).before a0 Z = true := hw _ (List.mem_of_getElem? (i := 54) rfl)
theorem w55 {Z a0} (hw : HW Z a0) : (Jvm.Cond.selects nm0 ({ cls := nm0, name := "coder", desc := "()B" } : Jvm.MethodName) ({ cls := nm0, name := "coder", desc := "()B" } : Jvm.MethodName)).before a0 Z = true := hw _ (List.mem_of_getElem? (i := 55) rfl)
theorem w56 {Z a0} (hw : HW Z a0) : (Jvm.Cond.code ({ cls := nm0, name := "coder", desc := "()B" } : Jvm.MethodName) jdk_42_method_152_code (1 : Nat) (Option.some Jvm.ClassFile.FieldType.byte)).before a0 Z = true := hw _ (List.mem_of_getElem? (i := 56) rfl)
theorem w57 {Z a0} (hw : HW Z a0) : (Jvm.Cond.methodLink nm0 (637 : Nat) ({ cls := nm5, name := "indexOf", desc := "([BIII)I" } : Jvm.MethodName)).before a0 Z = true := hw _ (List.mem_of_getElem? (i := 57) rfl)
theorem w58 {Z a0} (hw : HW Z a0) : (Jvm.Cond.static ({ cls := nm5, name := "indexOf", desc := "([BIII)I" } : Jvm.MethodName)).before a0 Z = true := hw _ (List.mem_of_getElem? (i := 58) rfl)
theorem w59 {Z a0} (hw : HW Z a0) : (Jvm.Cond.initialized nm5).before a0 Z = true := hw _ (List.mem_of_getElem? (i := 59) rfl)
theorem w60 {Z a0} (hw : HW Z a0) : (Jvm.Cond.code ({ cls := nm5, name := "indexOf", desc := "([BIII)I" } : Jvm.MethodName) jdk_43_method_22_code (4 : Nat) (Option.some Jvm.ClassFile.FieldType.int)).before a0 Z = true := hw _ (List.mem_of_getElem? (i := 60) rfl)
theorem w61 {Z a0} (hw : HW Z a0) : (Jvm.Cond.methodLink nm5 (88 : Nat) ({ cls := nm5, name := "canEncode", desc := "(I)Z" } : Jvm.MethodName)).before a0 Z = true := hw _ (List.mem_of_getElem? (i := 61) rfl)
theorem w62 {Z a0} (hw : HW Z a0) : (Jvm.Cond.static ({ cls := nm5, name := "canEncode", desc := "(I)Z" } : Jvm.MethodName)).before a0 Z = true := hw _ (List.mem_of_getElem? (i := 62) rfl)
theorem w63 {Z a0} (hw : HW Z a0) : (Jvm.Cond.code ({ cls := nm5, name := "canEncode", desc := "(I)Z" } : Jvm.MethodName) jdk_43_method_4_code (1 : Nat) (Option.some Jvm.ClassFile.FieldType.boolean)).before a0 Z = true := hw _ (List.mem_of_getElem? (i := 63) rfl)
theorem w64 {Z a0} (hw : HW Z a0) : (Jvm.Cond.methodLink nm5 (92 : Nat) ({ cls := "java/lang/Math", name := "max", desc := "(II)I" } : Jvm.MethodName)).before a0 Z = true := hw _ (List.mem_of_getElem? (i := 64) rfl)
theorem w65 {Z a0} (hw : HW Z a0) : (Jvm.Cond.static ({ cls := "java/lang/Math", name := "max", desc := "(II)I" } : Jvm.MethodName)).before a0 Z = true := hw _ (List.mem_of_getElem? (i := 65) rfl)
theorem w66 {Z a0} (hw : HW Z a0) : (Jvm.Cond.initialized "java/lang/Math").before a0 Z = true := hw _ (List.mem_of_getElem? (i := 66) rfl)
theorem w67 {Z a0} (hw : HW Z a0) : (Jvm.Cond.code ({ cls := "java/lang/Math", name := "max", desc := "(II)I" } : Jvm.MethodName) jdk_29_method_65_code (2 : Nat) (Option.some Jvm.ClassFile.FieldType.int)).before a0 Z = true := hw _ (List.mem_of_getElem? (i := 67) rfl)
theorem w68 {Z a0} (hw : HW Z a0) : (Jvm.Cond.methodLink nm5 (38 : Nat) ({ cls := "java/lang/Math", name := "min", desc := "(II)I" } : Jvm.MethodName)).before a0 Z = true := hw _ (List.mem_of_getElem? (i := 68) rfl)
theorem w69 {Z a0} (hw : HW Z a0) : (Jvm.Cond.static ({ cls := "java/lang/Math", name := "min", desc := "(II)I" } : Jvm.MethodName)).before a0 Z = true := hw _ (List.mem_of_getElem? (i := 69) rfl)
theorem w70 {Z a0} (hw : HW Z a0) : (Jvm.Cond.code ({ cls := "java/lang/Math", name := "min", desc := "(II)I" } : Jvm.MethodName) jdk_29_method_69_code (2 : Nat) (Option.some Jvm.ClassFile.FieldType.int)).before a0 Z = true := hw _ (List.mem_of_getElem? (i := 70) rfl)
theorem w71 {Z a0} (hw : HW Z a0) : (Jvm.Cond.methodLink nm2 (8 : Nat) ({ cls := nm8, name := "valueOf", desc := "(I)Ljava/lang/Integer;" } : Jvm.MethodName)).before a0 Z = true := hw _ (List.mem_of_getElem? (i := 71) rfl)
theorem w72 {Z a0} (hw : HW Z a0) : (Jvm.Cond.static ({ cls := nm8, name := "valueOf", desc := "(I)Ljava/lang/Integer;" } : Jvm.MethodName)).before a0 Z = true := hw _ (List.mem_of_getElem? (i := 72) rfl)
theorem w73 {Z a0} (hw : HW Z a0) : (Jvm.Cond.initialized nm8).before a0 Z = true := hw _ (List.mem_of_getElem? (i := 73) rfl)
theorem w74 {Z a0} (hw : HW Z a0) : (Jvm.Cond.code ({ cls := nm8, name := "valueOf", desc := "(I)Ljava/lang/Integer;" } : Jvm.MethodName) jdk_33_method_22_code (1 : Nat) (Option.some (Jvm.ClassFile.FieldType.object nm8))).before a0 Z = true := hw _ (List.mem_of_getElem? (i := 74) rfl)
theorem w75 {Z a0} (hw : HW Z a0) : (Jvm.Cond.fieldLink nm8 (191 : Nat) "java/lang/Integer$IntegerCache" "high" "I").before a0 Z = true := hw _ (List.mem_of_getElem? (i := 75) rfl)
theorem w76 {Z a0} (hw : HW Z a0) : (Jvm.Cond.initialized "java/lang/Integer$IntegerCache").before a0 Z = true := hw _ (List.mem_of_getElem? (i := 76) rfl)
theorem w77 {Z a0} (hw : HW Z a0) : (Jvm.Cond.fieldLink nm8 (195 : Nat) "java/lang/Integer$IntegerCache" "cache" "[Ljava/lang/Integer;").before a0 Z = true := hw _ (List.mem_of_getElem? (i := 77) rfl)
theorem w78 {Z a0} (hw : HW Z a0) : (Jvm.Cond.superclass nm8 "java/lang/Number").before a0 Z = true := hw _ (List.mem_of_getElem? (i := 78) rfl)
theorem w79 {Z a0} (hw : HW Z a0) : (Jvm.Cond.superclass "java/lang/Number" "java/lang/Object").before a0 Z = true := hw _ (List.mem_of_getElem? (i := 79) rfl)
theorem w80 {Z a0} (hw : HW Z a0) : (Jvm.Cond.noSuperclass "java/lang/Object").before a0 Z = true := hw _ (List.mem_of_getElem? (i := 80) rfl)
theorem w81 {Z a0} (hw : HW Z a0) : (Jvm.Cond.classLink nm8 (1 : Nat) nm8).before a0 Z = true := hw _ (List.mem_of_getElem? (i := 81) rfl)
theorem w82 {Z a0} (hw : HW Z a0) : (Jvm.Cond.instantiable nm8 (1 : Nat)).before a0 Z = true := hw _ (List.mem_of_getElem? (i := 82) rfl)
theorem w83 {Z a0} (hw : HW Z a0) : (Jvm.Cond.methodLink nm8 (199 : Nat) ({ cls := nm8, name := "<init>", desc := "(I)V" } : Jvm.MethodName)).before a0 Z = true := hw _ (List.mem_of_getElem? (i := 83) rfl)
theorem w84 {Z a0} (hw : HW Z a0) : (Jvm.Cond.instanceMethod ({ cls := nm8, name := "<init>", desc := "(I)V" } : Jvm.MethodName)).before a0 Z = true := hw _ (List.mem_of_getElem? (i := 84) rfl)
theorem w86 {Z a0} (hw : HW Z a0) : (Jvm.Cond.code ({ cls := nm8, name := "<init>", desc := "(I)V" } : Jvm.MethodName) jdk_33_method_23_code (2 : Nat) (Option.none : Option Jvm.ClassFile.FieldType)).before a0 Z = true := hw _ (List.mem_of_getElem? (i := 86) rfl)
theorem w87 {Z a0} (hw : HW Z a0) : (Jvm.Cond.methodLink nm8 (202 : Nat) ({ cls := "java/lang/Number", name := "<init>", desc := "()V" } : Jvm.MethodName)).before a0 Z = true := hw _ (List.mem_of_getElem? (i := 87) rfl)
theorem w88 {Z a0} (hw : HW Z a0) : (Jvm.Cond.instanceMethod ({ cls := "java/lang/Number", name := "<init>", desc := "()V" } : Jvm.MethodName)).before a0 Z = true := hw _ (List.mem_of_getElem? (i := 88) rfl)
theorem w91 {Z a0} (hw : HW Z a0) : (Jvm.Cond.initialized "java/lang/Number").before a0 Z = true := hw _ (List.mem_of_getElem? (i := 91) rfl)
theorem w92 {Z a0} (hw : HW Z a0) : (Jvm.Cond.code ({ cls := "java/lang/Number", name := "<init>", desc := "()V" } : Jvm.MethodName) jdk_18_method_1_code (1 : Nat) (Option.none : Option Jvm.ClassFile.FieldType)).before a0 Z = true := hw _ (List.mem_of_getElem? (i := 92) rfl)
theorem w93 {Z a0} (hw : HW Z a0) : (Jvm.Cond.methodLink "java/lang/Number" (1 : Nat) ({ cls := "java/lang/Object", name := "<init>", desc := "()V" } : Jvm.MethodName)).before a0 Z = true := hw _ (List.mem_of_getElem? (i := 93) rfl)
theorem w94 {Z a0} (hw : HW Z a0) : (Jvm.Cond.fieldLink nm8 (205 : Nat) nm8 "value" "I").before a0 Z = true := hw _ (List.mem_of_getElem? (i := 94) rfl)
theorem w95 {Z a0} (hw : HW Z a0) : (Jvm.Cond.laysFinal nm8 nm8 "value" "I").before a0 Z = true := hw _ (List.mem_of_getElem? (i := 95) rfl)
theorem w96 {Z a0} (hw : HW Z a0) : (Jvm.Cond.methodLink nm2 (20 : Nat) ({ cls := nm10, name := "valueOf", desc := "(J)Ljava/lang/Long;" } : Jvm.MethodName)).before a0 Z = true := hw _ (List.mem_of_getElem? (i := 96) rfl)
theorem w97 {Z a0} (hw : HW Z a0) : (Jvm.Cond.static ({ cls := nm10, name := "valueOf", desc := "(J)Ljava/lang/Long;" } : Jvm.MethodName)).before a0 Z = true := hw _ (List.mem_of_getElem? (i := 97) rfl)
theorem w98 {Z a0} (hw : HW Z a0) : (Jvm.Cond.initialized nm10).before a0 Z = true := hw _ (List.mem_of_getElem? (i := 98) rfl)
theorem w99 {Z a0} (hw : HW Z a0) : (Jvm.Cond.code ({ cls := nm10, name := "valueOf", desc := "(J)Ljava/lang/Long;" } : Jvm.MethodName) jdk_35_method_24_code (3 : Nat) (Option.some (Jvm.ClassFile.FieldType.object nm10))).before a0 Z = true := hw _ (List.mem_of_getElem? (i := 99) rfl)
theorem w100 {Z a0} (hw : HW Z a0) : (Jvm.Cond.constantLong nm10 (230 : Nat) (-128 : Int64)).before a0 Z = true := hw _ (List.mem_of_getElem? (i := 100) rfl)
theorem w101 {Z a0} (hw : HW Z a0) : (Jvm.Cond.constantLong nm10 (232 : Nat) (127 : Int64)).before a0 Z = true := hw _ (List.mem_of_getElem? (i := 101) rfl)
theorem w102 {Z a0} (hw : HW Z a0) : (Jvm.Cond.fieldLink nm10 (234 : Nat) "java/lang/Long$LongCache" "cache" "[Ljava/lang/Long;").before a0 Z = true := hw _ (List.mem_of_getElem? (i := 102) rfl)
theorem w104 {Z a0} (hw : HW Z a0) : (Jvm.Cond.superclass nm10 "java/lang/Number").before a0 Z = true := hw _ (List.mem_of_getElem? (i := 104) rfl)
theorem w105 {Z a0} (hw : HW Z a0) : (Jvm.Cond.constant nm2 (7 : Nat) (65535 : Int32)).before a0 Z = true := hw _ (List.mem_of_getElem? (i := 105) rfl)
theorem w106 {Z a0} (hw : HW Z a0) : (Jvm.Cond.methodLink nm2 (36 : Nat) ({ cls := nm0, name := "valueOf", desc := "(C)Ljava/lang/String;" } : Jvm.MethodName)).before a0 Z = true := hw _ (List.mem_of_getElem? (i := 106) rfl)
theorem w107 {Z a0} (hw : HW Z a0) : (Jvm.Cond.static ({ cls := nm0, name := "valueOf", desc := "(C)Ljava/lang/String;" } : Jvm.MethodName)).before a0 Z = true := hw _ (List.mem_of_getElem? (i := 107) rfl)
theorem w108 {Z a0} (hw : HW Z a0) : (Jvm.Cond.code ({ cls := nm0, name := "valueOf", desc := "(C)Ljava/lang/String;" } : Jvm.MethodName) jdk_42_method_139_code (1 : Nat) (Option.some (Jvm.ClassFile.FieldType.object nm0))).before a0 Z = true := hw _ (List.mem_of_getElem? (i := 108) rfl)
theorem w109 {Z a0} (hw : HW Z a0) : (Jvm.Cond.methodLink nm0 (1015 : Nat) ({ cls := nm5, name := "canEncode", desc := "(C)Z" } : Jvm.MethodName)).before a0 Z = true := hw _ (List.mem_of_getElem? (i := 109) rfl)
theorem w110 {Z a0} (hw : HW Z a0) : (Jvm.Cond.static ({ cls := nm5, name := "canEncode", desc := "(C)Z" } : Jvm.MethodName)).before a0 Z = true := hw _ (List.mem_of_getElem? (i := 110) rfl)
theorem w111 {Z a0} (hw : HW Z a0) : (Jvm.Cond.code ({ cls := nm5, name := "canEncode", desc := "(C)Z" } : Jvm.MethodName) jdk_43_method_3_code (1 : Nat) (Option.some Jvm.ClassFile.FieldType.boolean)).before a0 Z = true := hw _ (List.mem_of_getElem? (i := 111) rfl)
theorem w112 {Z a0} (hw : HW Z a0) : (Jvm.Cond.classLink nm0 (10 : Nat) nm0).before a0 Z = true := hw _ (List.mem_of_getElem? (i := 112) rfl)
theorem w113 {Z a0} (hw : HW Z a0) : (Jvm.Cond.methodLink nm0 (1018 : Nat) ({ cls := nm5, name := "toBytes", desc := "(C)[B" } : Jvm.MethodName)).before a0 Z = true := hw _ (List.mem_of_getElem? (i := 113) rfl)
theorem w114 {Z a0} (hw : HW Z a0) : (Jvm.Cond.static ({ cls := nm5, name := "toBytes", desc := "(C)[B" } : Jvm.MethodName)).before a0 Z = true := hw _ (List.mem_of_getElem? (i := 114) rfl)
theorem w115 {Z a0} (hw : HW Z a0) : (Jvm.Cond.code ({ cls := nm5, name := "toBytes", desc := "(C)[B" } : Jvm.MethodName) jdk_43_method_46_code (1 : Nat) (Option.some (Jvm.ClassFile.FieldType.array Jvm.ClassFile.FieldType.byte))).before a0 Z = true := hw _ (List.mem_of_getElem? (i := 115) rfl)
theorem w116 {Z a0} (hw : HW Z a0) : (Jvm.Cond.methodLink nm0 (209 : Nat) ({ cls := nm0, name := "<init>", desc := "([BB)V" } : Jvm.MethodName)).before a0 Z = true := hw _ (List.mem_of_getElem? (i := 116) rfl)
theorem w117 {Z a0} (hw : HW Z a0) : (Jvm.Cond.instanceMethod ({ cls := nm0, name := "<init>", desc := "([BB)V" } : Jvm.MethodName)).before a0 Z = true := hw _ (List.mem_of_getElem? (i := 117) rfl)
theorem w118 {Z a0} (hw : HW Z a0) : (Jvm.Cond.code ({ cls := nm0, name := "<init>", desc := "([BB)V" } : Jvm.MethodName) jdk_42_method_151_code (3 : Nat) (Option.none : Option Jvm.ClassFile.FieldType)).before a0 Z = true := hw _ (List.mem_of_getElem? (i := 118) rfl)
theorem w119 {Z a0} (hw : HW Z a0) : (Jvm.Cond.methodLink nm2 (39 : Nat) ({ cls := nm2, name := "mark", desc := "(C)Z" } : Jvm.MethodName)).before a0 Z = true := hw _ (List.mem_of_getElem? (i := 119) rfl)
theorem w120 {Z a0} (hw : HW Z a0) : (Jvm.Cond.static ({ cls := nm2, name := "mark", desc := "(C)Z" } : Jvm.MethodName)).before a0 Z = true := hw _ (List.mem_of_getElem? (i := 120) rfl)
theorem w121 {Z a0} (hw : HW Z a0) : (Jvm.Cond.code ({ cls := nm2, name := "mark", desc := "(C)Z" } : Jvm.MethodName) method_3_code (1 : Nat) (Option.some Jvm.ClassFile.FieldType.boolean)).before a0 Z = true := hw _ (List.mem_of_getElem? (i := 121) rfl)
theorem w122 {Z a0} (hw : HW Z a0) : (Jvm.Cond.methodLink nm5 (95 : Nat) ({ cls := nm5, name := "indexOfChar", desc := "([BIII)I" } : Jvm.MethodName)).before a0 Z = true := hw _ (List.mem_of_getElem? (i := 122) rfl)
theorem w123 {Z a0} (hw : HW Z a0) : (Jvm.Cond.static ({ cls := nm5, name := "indexOfChar", desc := "([BIII)I" } : Jvm.MethodName)).before a0 Z = true := hw _ (List.mem_of_getElem? (i := 123) rfl)
theorem w124 {Z a0} (hw : HW Z a0) : (Jvm.Cond.code ({ cls := nm5, name := "indexOfChar", desc := "([BIII)I" } : Jvm.MethodName) jdk_43_method_23_code (6 : Nat) (Option.some Jvm.ClassFile.FieldType.int)).before a0 Z = true := hw _ (List.mem_of_getElem? (i := 124) rfl)
theorem w125 {Z a0} (hw : HW Z a0) : (Jvm.Cond.methodLink nm0 (177 : Nat) ({ cls := nm1, name := "compress", desc := "([CII)[B" } : Jvm.MethodName)).before a0 Z = true := hw _ (List.mem_of_getElem? (i := 125) rfl)
theorem w126 {Z a0} (hw : HW Z a0) : (Jvm.Cond.static ({ cls := nm1, name := "compress", desc := "([CII)[B" } : Jvm.MethodName)).before a0 Z = true := hw _ (List.mem_of_getElem? (i := 126) rfl)
theorem w127 {Z a0} (hw : HW Z a0) : (Jvm.Cond.initialized nm1).before a0 Z = true := hw _ (List.mem_of_getElem? (i := 127) rfl)
theorem w128 {Z a0} (hw : HW Z a0) : (Jvm.Cond.code ({ cls := nm1, name := "compress", desc := "([CII)[B" } : Jvm.MethodName) jdk_52_method_16_code (6 : Nat) (Option.some (Jvm.ClassFile.FieldType.array Jvm.ClassFile.FieldType.byte))).before a0 Z = true := hw _ (List.mem_of_getElem? (i := 128) rfl)
theorem w129 {Z a0} (hw : HW Z a0) : (Jvm.Cond.methodLink nm1 (115 : Nat) ({ cls := nm1, name := "compress", desc := "([CI[BII)I" } : Jvm.MethodName)).before a0 Z = true := hw _ (List.mem_of_getElem? (i := 129) rfl)
theorem w130 {Z a0} (hw : HW Z a0) : (Jvm.Cond.static ({ cls := nm1, name := "compress", desc := "([CI[BII)I" } : Jvm.MethodName)).before a0 Z = true := hw _ (List.mem_of_getElem? (i := 130) rfl)
theorem w131 {Z a0} (hw : HW Z a0) : (Jvm.Cond.code ({ cls := nm1, name := "compress", desc := "([CI[BII)I" } : Jvm.MethodName) jdk_52_method_21_code (7 : Nat) (Option.some Jvm.ClassFile.FieldType.int)).before a0 Z = true := hw _ (List.mem_of_getElem? (i := 131) rfl)
theorem w132 {Z a0} (hw : HW Z a0) : (Jvm.Cond.methodLink nm0 (47 : Nat) ({ cls := nm1, name := "coderFromArrayLen", desc := "([BI)B" } : Jvm.MethodName)).before a0 Z = true := hw _ (List.mem_of_getElem? (i := 132) rfl)
theorem w133 {Z a0} (hw : HW Z a0) : (Jvm.Cond.static ({ cls := nm1, name := "coderFromArrayLen", desc := "([BI)B" } : Jvm.MethodName)).before a0 Z = true := hw _ (List.mem_of_getElem? (i := 133) rfl)
theorem w134 {Z a0} (hw : HW Z a0) : (Jvm.Cond.code ({ cls := nm1, name := "coderFromArrayLen", desc := "([BI)B" } : Jvm.MethodName) jdk_52_method_15_code (2 : Nat) (Option.some Jvm.ClassFile.FieldType.byte)).before a0 Z = true := hw _ (List.mem_of_getElem? (i := 134) rfl)
theorem w135 {Z a0} (hw : HW Z a0) : (Jvm.Cond.classLink nm10 (1 : Nat) nm10).before a0 Z = true := hw _ (List.mem_of_getElem? (i := 135) rfl)
theorem w136 {Z a0} (hw : HW Z a0) : (Jvm.Cond.instantiable nm10 (1 : Nat)).before a0 Z = true := hw _ (List.mem_of_getElem? (i := 136) rfl)
theorem w137 {Z a0} (hw : HW Z a0) : (Jvm.Cond.methodLink nm10 (240 : Nat) ({ cls := nm10, name := "<init>", desc := "(J)V" } : Jvm.MethodName)).before a0 Z = true := hw _ (List.mem_of_getElem? (i := 137) rfl)
theorem w138 {Z a0} (hw : HW Z a0) : (Jvm.Cond.instanceMethod ({ cls := nm10, name := "<init>", desc := "(J)V" } : Jvm.MethodName)).before a0 Z = true := hw _ (List.mem_of_getElem? (i := 138) rfl)
theorem w140 {Z a0} (hw : HW Z a0) : (Jvm.Cond.code ({ cls := nm10, name := "<init>", desc := "(J)V" } : Jvm.MethodName) jdk_35_method_26_code (3 : Nat) (Option.none : Option Jvm.ClassFile.FieldType)).before a0 Z = true := hw _ (List.mem_of_getElem? (i := 140) rfl)
theorem w141 {Z a0} (hw : HW Z a0) : (Jvm.Cond.methodLink nm10 (270 : Nat) ({ cls := "java/lang/Number", name := "<init>", desc := "()V" } : Jvm.MethodName)).before a0 Z = true := hw _ (List.mem_of_getElem? (i := 141) rfl)
theorem w143 {Z a0} (hw : HW Z a0) : (Jvm.Cond.fieldLink nm10 (273 : Nat) nm10 "value" "J").before a0 Z = true := hw _ (List.mem_of_getElem? (i := 143) rfl)
theorem w144 {Z a0} (hw : HW Z a0) : (Jvm.Cond.laysFinal nm10 nm10 "value" "J").before a0 Z = true := hw _ (List.mem_of_getElem? (i := 144) rfl)
theorem w145 {Z a0} (hw : HW Z a0) : (Jvm.Cond.methodLink nm1 (119 : Nat) ({ cls := nm1, name := "toBytes", desc := "([CII)[B" } : Jvm.MethodName)).before a0 Z = true := hw _ (List.mem_of_getElem? (i := 145) rfl)
theorem w146 {Z a0} (hw : HW Z a0) : (Jvm.Cond.static ({ cls := nm1, name := "toBytes", desc := "([CII)[B" } : Jvm.MethodName)).before a0 Z = true := hw _ (List.mem_of_getElem? (i := 146) rfl)
theorem w147 {Z a0} (hw : HW Z a0) : (Jvm.Cond.code ({ cls := nm1, name := "toBytes", desc := "([CII)[B" } : Jvm.MethodName) jdk_52_method_14_code (5 : Nat) (Option.some (Jvm.ClassFile.FieldType.array Jvm.ClassFile.FieldType.byte))).before a0 Z = true := hw _ (List.mem_of_getElem? (i := 147) rfl)
theorem w148 {Z a0} (hw : HW Z a0) : (Jvm.Cond.methodLink nm1 (107 : Nat) ({ cls := nm1, name := "newBytesFor", desc := "(I)[B" } : Jvm.MethodName)).before a0 Z = true := hw _ (List.mem_of_getElem? (i := 148) rfl)
theorem w149 {Z a0} (hw : HW Z a0) : (Jvm.Cond.static ({ cls := nm1, name := "newBytesFor", desc := "(I)[B" } : Jvm.MethodName)).before a0 Z = true := hw _ (List.mem_of_getElem? (i := 149) rfl)
theorem w150 {Z a0} (hw : HW Z a0) : (Jvm.Cond.code ({ cls := nm1, name := "newBytesFor", desc := "(I)[B" } : Jvm.MethodName) jdk_52_method_2_code (1 : Nat) (Option.some (Jvm.ClassFile.FieldType.array Jvm.ClassFile.FieldType.byte))).before a0 Z = true := hw _ (List.mem_of_getElem? (i := 150) rfl)
theorem w151 {Z a0} (hw : HW Z a0) : (Jvm.Cond.methodLink nm1 (11 : Nat) ({ cls := nm1, name := "newBytesLength", desc := "(I)I" } : Jvm.MethodName)).before a0 Z = true := hw _ (List.mem_of_getElem? (i := 151) rfl)
theorem w152 {Z a0} (hw : HW Z a0) : (Jvm.Cond.static ({ cls := nm1, name := "newBytesLength", desc := "(I)I" } : Jvm.MethodName)).before a0 Z = true := hw _ (List.mem_of_getElem? (i := 152) rfl)
theorem w153 {Z a0} (hw : HW Z a0) : (Jvm.Cond.code ({ cls := nm1, name := "newBytesLength", desc := "(I)I" } : Jvm.MethodName) jdk_52_method_3_code (1 : Nat) (Option.some Jvm.ClassFile.FieldType.int)).before a0 Z = true := hw _ (List.mem_of_getElem? (i := 153) rfl)
theorem w154 {Z a0} (hw : HW Z a0) : (Jvm.Cond.constant nm1 (20 : Nat) (1073741823 : Int32)).before a0 Z = true := hw _ (List.mem_of_getElem? (i := 154) rfl)
theorem w155 {Z a0} (hw : HW Z a0) : (Jvm.Cond.methodLink nm1 (111 : Nat) ({ cls := nm1, name := "putChar", desc := "([BII)V" } : Jvm.MethodName)).before a0 Z = true := hw _ (List.mem_of_getElem? (i := 155) rfl)
theorem w156 {Z a0} (hw : HW Z a0) : (Jvm.Cond.static ({ cls := nm1, name := "putChar", desc := "([BII)V" } : Jvm.MethodName)).before a0 Z = true := hw _ (List.mem_of_getElem? (i := 156) rfl)
theorem w157 {Z a0} (hw : HW Z a0) : (Jvm.Cond.code ({ cls := nm1, name := "putChar", desc := "([BII)V" } : Jvm.MethodName) jdk_52_method_4_code (3 : Nat) (Option.none : Option Jvm.ClassFile.FieldType)).before a0 Z = true := hw _ (List.mem_of_getElem? (i := 157) rfl)
theorem w158 {Z a0} (hw : HW Z a0) : (Jvm.Cond.fieldLink nm1 (44 : Nat) nm1 "$assertionsDisabled" "Z").before a0 Z = true := hw _ (List.mem_of_getElem? (i := 158) rfl)
theorem w159 {Z a0} (hw : HW Z a0) : (Jvm.Cond.fieldLink nm1 (59 : Nat) nm1 "HI_BYTE_SHIFT" "I").before a0 Z = true := hw _ (List.mem_of_getElem? (i := 159) rfl)
theorem w160 {Z a0} (hw : HW Z a0) : (Jvm.Cond.fieldLink nm1 (63 : Nat) nm1 "LO_BYTE_SHIFT" "I").before a0 Z = true := hw _ (List.mem_of_getElem? (i := 160) rfl)
theorem w161 {Z a0} (hw : HW Z a0) : (Jvm.Cond.methodLink nm1 (71 : Nat) ({ cls := nm1, name := "getChar", desc := "([BI)C" } : Jvm.MethodName)).before a0 Z = true := hw _ (List.mem_of_getElem? (i := 161) rfl)
theorem w162 {Z a0} (hw : HW Z a0) : (Jvm.Cond.static ({ cls := nm1, name := "getChar", desc := "([BI)C" } : Jvm.MethodName)).before a0 Z = true := hw _ (List.mem_of_getElem? (i := 162) rfl)
theorem w163 {Z a0} (hw : HW Z a0) : (Jvm.Cond.code ({ cls := nm1, name := "getChar", desc := "([BI)C" } : Jvm.MethodName) jdk_52_method_5_code (2 : Nat) (Option.some Jvm.ClassFile.FieldType.char)).before a0 Z = true := hw _ (List.mem_of_getElem? (i := 163) rfl)
theorem w164 {Z a0} (hw : HW Z a0) : (Jvm.Cond.methodLink nm0 (640 : Nat) ({ cls := nm1, name := "indexOf", desc := "([BIII)I" } : Jvm.MethodName)).before a0 Z = true := hw _ (List.mem_of_getElem? (i := 164) rfl)
theorem w165 {Z a0} (hw : HW Z a0) : (Jvm.Cond.static ({ cls := nm1, name := "indexOf", desc := "([BIII)I" } : Jvm.MethodName)).before a0 Z = true := hw _ (List.mem_of_getElem? (i := 165) rfl)
theorem w166 {Z a0} (hw : HW Z a0) : (Jvm.Cond.code ({ cls := nm1, name := "indexOf", desc := "([BIII)I" } : Jvm.MethodName) jdk_52_method_40_code (4 : Nat) (Option.some Jvm.ClassFile.FieldType.int)).before a0 Z = true := hw _ (List.mem_of_getElem? (i := 166) rfl)
theorem w167 {Z a0} (hw : HW Z a0) : (Jvm.Cond.methodLink nm1 (224 : Nat) ({ cls := "java/lang/Math", name := "max", desc := "(II)I" } : Jvm.MethodName)).before a0 Z = true := hw _ (List.mem_of_getElem? (i := 167) rfl)
theorem w168 {Z a0} (hw : HW Z a0) : (Jvm.Cond.methodLink nm1 (183 : Nat) ({ cls := "java/lang/Math", name := "min", desc := "(II)I" } : Jvm.MethodName)).before a0 Z = true := hw _ (List.mem_of_getElem? (i := 168) rfl)
theorem w169 {Z a0} (hw : HW Z a0) : (Jvm.Cond.constant nm1 (227 : Nat) (65536 : Int32)).before a0 Z = true := hw _ (List.mem_of_getElem? (i := 169) rfl)
theorem w170 {Z a0} (hw : HW Z a0) : (Jvm.Cond.methodLink nm1 (228 : Nat) ({ cls := nm1, name := "indexOfChar", desc := "([BIII)I" } : Jvm.MethodName)).before a0 Z = true := hw _ (List.mem_of_getElem? (i := 170) rfl)
theorem w171 {Z a0} (hw : HW Z a0) : (Jvm.Cond.static ({ cls := nm1, name := "indexOfChar", desc := "([BIII)I" } : Jvm.MethodName)).before a0 Z = true := hw _ (List.mem_of_getElem? (i := 171) rfl)
theorem w172 {Z a0} (hw : HW Z a0) : (Jvm.Cond.code ({ cls := nm1, name := "indexOfChar", desc := "([BIII)I" } : Jvm.MethodName) jdk_52_method_47_code (4 : Nat) (Option.some Jvm.ClassFile.FieldType.int)).before a0 Z = true := hw _ (List.mem_of_getElem? (i := 172) rfl)
theorem w173 {Z a0} (hw : HW Z a0) : (Jvm.Cond.methodLink nm1 (96 : Nat) ({ cls := nm1, name := "checkBoundsBeginEnd", desc := "(II[B)V" } : Jvm.MethodName)).before a0 Z = true := hw _ (List.mem_of_getElem? (i := 173) rfl)
theorem w174 {Z a0} (hw : HW Z a0) : (Jvm.Cond.static ({ cls := nm1, name := "checkBoundsBeginEnd", desc := "(II[B)V" } : Jvm.MethodName)).before a0 Z = true := hw _ (List.mem_of_getElem? (i := 174) rfl)
theorem w175 {Z a0} (hw : HW Z a0) : (Jvm.Cond.code ({ cls := nm1, name := "checkBoundsBeginEnd", desc := "(II[B)V" } : Jvm.MethodName) jdk_52_method_93_code (3 : Nat) (Option.none : Option Jvm.ClassFile.FieldType)).before a0 Z = true := hw _ (List.mem_of_getElem? (i := 175) rfl)
theorem w176 {Z a0} (hw : HW Z a0) : (Jvm.Cond.methodLink nm1 (48 : Nat) ({ cls := nm1, name := "length", desc := "([B)I" } : Jvm.MethodName)).before a0 Z = true := hw _ (List.mem_of_getElem? (i := 176) rfl)
theorem w177 {Z a0} (hw : HW Z a0) : (Jvm.Cond.static ({ cls := nm1, name := "length", desc := "([B)I" } : Jvm.MethodName)).before a0 Z = true := hw _ (List.mem_of_getElem? (i := 177) rfl)
theorem w178 {Z a0} (hw : HW Z a0) : (Jvm.Cond.code ({ cls := nm1, name := "length", desc := "([B)I" } : Jvm.MethodName) jdk_52_method_6_code (1 : Nat) (Option.some Jvm.ClassFile.FieldType.int)).before a0 Z = true := hw _ (List.mem_of_getElem? (i := 178) rfl)
theorem w179 {Z a0} (hw : HW Z a0) : (Jvm.Cond.methodLink nm1 (241 : Nat) ({ cls := nm0, name := "checkBoundsBeginEnd", desc := "(III)V" } : Jvm.MethodName)).before a0 Z = true := hw _ (List.mem_of_getElem? (i := 179) rfl)
theorem w180 {Z a0} (hw : HW Z a0) : (Jvm.Cond.static ({ cls := nm0, name := "checkBoundsBeginEnd", desc := "(III)V" } : Jvm.MethodName)).before a0 Z = true := hw _ (List.mem_of_getElem? (i := 180) rfl)
theorem w181 {Z a0} (hw : HW Z a0) : (Jvm.Cond.code ({ cls := nm0, name := "checkBoundsBeginEnd", desc := "(III)V" } : Jvm.MethodName) jdk_42_method_158_code (3 : Nat) (Option.none : Option Jvm.ClassFile.FieldType)).before a0 Z = true := hw _ (List.mem_of_getElem? (i := 181) rfl)
theorem w182 {Z a0} (hw : HW Z a0) : (Jvm.Cond.fieldLink nm0 (1053 : Nat) nm4 "SIOOBE_FORMATTER" nm6).before a0 Z = true := hw _ (List.mem_of_getElem? (i := 182) rfl)
theorem w183 {Z a0} (hw : HW Z a0) : (Jvm.Cond.initialized nm4).before a0 Z = true := hw _ (List.mem_of_getElem? (i := 183) rfl)
theorem w184 {Z a0} (hw : HW Z a0) : (Jvm.Cond.methodLink nm0 (1062 : Nat) ({ cls := nm4, name := "checkFromToIndex", desc := "(IIILjava/util/function/BiFunction;)I" } : Jvm.MethodName)).before a0 Z = true := hw _ (List.mem_of_getElem? (i := 184) rfl)
theorem w185 {Z a0} (hw : HW Z a0) : (Jvm.Cond.static ({ cls := nm4, name := "checkFromToIndex", desc := "(IIILjava/util/function/BiFunction;)I" } : Jvm.MethodName)).before a0 Z = true := hw _ (List.mem_of_getElem? (i := 185) rfl)
theorem w186 {Z a0} (hw : HW Z a0) : (Jvm.Cond.code ({ cls := nm4, name := "checkFromToIndex", desc := "(IIILjava/util/function/BiFunction;)I" } : Jvm.MethodName) jdk_41_method_12_code (4 : Nat) (Option.some Jvm.ClassFile.FieldType.int)).before a0 Z = true := hw _ (List.mem_of_getElem? (i := 186) rfl)
theorem w187 {Z a0} (hw : HW Z a0) : (Jvm.Cond.methodLink nm1 (244 : Nat) ({ cls := nm1, name := "indexOfCharUnsafe", desc := "([BIII)I" } : Jvm.MethodName)).before a0 Z = true := hw _ (List.mem_of_getElem? (i := 187) rfl)
theorem w188 {Z a0} (hw : HW Z a0) : (Jvm.Cond.static ({ cls := nm1, name := "indexOfCharUnsafe", desc := "([BIII)I" } : Jvm.MethodName)).before a0 Z = true := hw _ (List.mem_of_getElem? (i := 188) rfl)
theorem w189 {Z a0} (hw : HW Z a0) : (Jvm.Cond.code ({ cls := nm1, name := "indexOfCharUnsafe", desc := "([BIII)I" } : Jvm.MethodName) jdk_52_method_48_code (5 : Nat) (Option.some Jvm.ClassFile.FieldType.int)).before a0 Z = true := hw _ (List.mem_of_getElem? (i := 189) rfl)
theorem w190 {Z a0} (hw : HW Z a0) : (Jvm.Cond.methodLink nm0 (1021 : Nat) ({ cls := nm1, name := "toBytes", desc := "(C)[B" } : Jvm.MethodName)).before a0 Z = true := hw _ (List.mem_of_getElem? (i := 190) rfl)
theorem w191 {Z a0} (hw : HW Z a0) : (Jvm.Cond.static ({ cls := nm1, name := "toBytes", desc := "(C)[B" } : Jvm.MethodName)).before a0 Z = true := hw _ (List.mem_of_getElem? (i := 191) rfl)
theorem w192 {Z a0} (hw : HW Z a0) : (Jvm.Cond.code ({ cls := nm1, name := "toBytes", desc := "(C)[B" } : Jvm.MethodName) jdk_52_method_24_code (2 : Nat) (Option.some (Jvm.ClassFile.FieldType.array Jvm.ClassFile.FieldType.byte))).before a0 Z = true := hw _ (List.mem_of_getElem? (i := 192) rfl)
theorem own_in : ∀ a ∈ Bundle.stringAtoms, a ∈ tables_1 := by decide +kernel
theorem own_atoms {Z : State} {a0 : Array Value} (hw : HW Z a0) : ∀ a ∈ Bundle.stringAtoms, a.before a0 Z = true := fun a ha => hw a (own_in a ha)
section KW
variable {p : Program} {l : Launch} {e : Env} {R : Room} {s : State} {vm0 : Vm} {m : MethodId} {args : Array Value} {below : List Frame} {meth : Method} {c : Code} {T : State} {locs : List Loc} {cells slots : Nat} {Z : State} {a0 : Array Value} {h : Heap} {st0 : State} {g : JFrame} {y : MethodName} {bytes : ByteArray} {ml : Nat} {rt : Option FieldType} {rm : Room} {as' : Array Value} {Q : Option Value → Heap → List Loc → Prop}
theorem kstatB (X : Stand p l e R (s.setVm vm0) m args below meth c T locs cells slots) (hx : p.tables.exec = Jvm.exec) (hZ : Z.Warmed39 vm0) {own : String} {index : Nat} (hown : vm0.findClass own = some m.cls) {k0 : Nat} (hS : s.Since vm0 k0) (hk : k0 ≤ h.size) (w1 : (Jvm.Cond.methodLink own index y).before a0 Z = true) (w2 : (Jvm.Cond.static y).before a0 Z = true) (w3 : (Jvm.Cond.initialized y.cls).before a0 Z = true) (w4 : (Jvm.Cond.code y bytes ml rt).before a0 Z = true) {W : Nat} (hB : BackS l R p e below (s.setVm vm0) args y 3 W (fun A a => a = as' ∧ A.U.heap = h ∧ A.cells + rm.cells ≤ R.cells ∧ A.slots + rm.slots ≤ R.slots) (fun A _ v B => ∃ L, Q v B.U.heap L ∧ B.locs = A.locs ++ L ∧ B.cells = A.cells + rm.cells ∧ B.slots = A.slots + rm.slots)) (eT : T.heap = h) (k : Kt p e below T st0 g) {M : Nat} (hml : c.maxLocals = M) {ps : List FieldType} {r : Option FieldType} (pd : parseMethodDescriptor y.desc = some ⟨ps, r⟩) (argsL rest : List Value) (hd : decode c.code g.pc = .ok (.invokestatic index, 3))
  (hg : g.method = m) (hsize : g.locals.size = M) (hln : argsL.length = ps.length) (hst : g.stack = argsL.reverse ++ rest) (ha : argsL.toArray = as') (hW : 2 * g.monitorRoom + (rest.map fun v => v.category).sum = W) (hy : y.cls ≠ "java/lang/invoke/MethodHandle" ∧ y.cls ≠ "java/lang/invoke/VarHandle" := by decide) (hc : cells + rm.cells ≤ R.cells := by decide) (hs : slots + rm.slots ≤ R.slots := by decide) :
  ∃ v T' L', Stand p l e R (s.setVm T'.vm) m args below meth c T' (locs ++ L') (cells + rm.cells) (slots + rm.slots) ∧ Q v T'.heap L' ∧ s.Since T'.vm T'.heap.size ∧ Z.Warmed39 T'.vm ∧ T'.vm.findClass own = some m.cls ∧ Kt p e below T' st0 { g with pc := g.pc + 3, stack := v.toList ++ rest } := by
 obtain ⟨v, _, ⟨T', L, k', n'⟩, -, X', hS', hg', ⟨Lc, hQ, e1, e2, e3⟩, st⟩ := callSS X hx hown (mvT (s := s.setVm vm0) hZ w1) (mvT (s := s.setVm vm0) hZ w2) (mvT (s := s.setVm vm0) hZ w3) (mvT (s := s.setVm vm0) hZ w4) hy hB hg (hsize.trans hml.symm) (argsL := argsL) (rest := rest) (lenOf pd hln) hst (Nat.le_of_eq hW) hd (fun _ _ => ⟨ha, eT, hc, hs⟩)
 dsimp only [Pt.U, Pt.locs, Pt.cells, Pt.slots] at X' hS' hg' e1 e2 e3 st hQ
 subst e1 e2 e3
 obtain ⟨X2, hS2, hZ2, ho2⟩ := rebS hS (by rw [eT]; exact hk) X' hS' hg' hZ hown
 exact ⟨v, T', Lc, X2, hQ, hS2, hZ2, ho2, fun t q => k t (st.trans q)⟩
theorem kspecB (X : Stand p l e R (s.setVm vm0) m args below meth c T locs cells slots) (hx : p.tables.exec = Jvm.exec) (hZ : Z.Warmed39 vm0) {own : String} {index : Nat} (hown : vm0.findClass own = some m.cls) {k0 : Nat} (hS : s.Since vm0 k0) (hk : k0 ≤ h.size) (w1 : (Jvm.Cond.methodLink own index y).before a0 Z = true) (w2 : (Jvm.Cond.instanceMethod y).before a0 Z = true) (w4 : (Jvm.Cond.code y bytes ml none).before a0 Z = true) {W : Nat} (hB : BackS l R p e below (s.setVm vm0) args y 3 W (fun A a => a = as' ∧ A.U.heap = h ∧ A.cells + rm.cells ≤ R.cells ∧ A.slots + rm.slots ≤ R.slots) (fun A _ v B => ∃ L, Q v B.U.heap L ∧ B.locs = A.locs ++ L ∧ B.cells = A.cells + rm.cells ∧ B.slots = A.slots + rm.slots)) (eT : T.heap = h) (k : Kt p e below T st0 g) {M : Nat} (hml : c.maxLocals = M) {ps : List FieldType} {r : Option FieldType} (pd : parseMethodDescriptor y.desc = some ⟨ps, r⟩) (a : Addr) (argsL rest : List Value) (hd : decode c.code g.pc = .ok (.invokespecial index, 3))
  (hg : g.method = m) (hsize : g.locals.size = M) (hln : argsL.length = ps.length) (hst : g.stack = argsL.reverse ++ .ref a :: rest) (ha : (Value.ref a :: argsL).toArray = as') (hW : 2 * g.monitorRoom + (rest.map fun v => v.category).sum = W) (hy1 : y.name = "<init>" := by rfl) (hy : y.cls ≠ "java/lang/invoke/MethodHandle" ∧ y.cls ≠ "java/lang/invoke/VarHandle" := by decide) (hc : cells + rm.cells ≤ R.cells := by decide) (hs : slots + rm.slots ≤ R.slots := by decide) :
  ∃ v T' L', Stand p l e R (s.setVm T'.vm) m args below meth c T' (locs ++ L') (cells + rm.cells) (slots + rm.slots) ∧ Q v T'.heap L' ∧ s.Since T'.vm T'.heap.size ∧ Z.Warmed39 T'.vm ∧ T'.vm.findClass own = some m.cls ∧ Kt p e below T' st0 { g with pc := g.pc + 3, stack := v.toList ++ rest } := by
 obtain ⟨v, _, ⟨T', L, k', n'⟩, -, X', hS', hg', ⟨Lc, hQ, e1, e2, e3⟩, st⟩ := X.specialBackS hx hy1 hown (mvT (s := s.setVm vm0) hZ w1) (mvT (s := s.setVm vm0) hZ w2) (mvT (s := s.setVm vm0) hZ w4) hy hB hg (hsize.trans hml.symm) (Steps.refl _) (a := a) (argsL := argsL) (rest := rest) (lenOf pd hln) hst (Nat.le_of_eq hW) hd (fun _ _ => ⟨ha, eT, hc, hs⟩)
 dsimp only [Pt.U, Pt.locs, Pt.cells, Pt.slots] at X' hS' hg' e1 e2 e3 st hQ
 subst e1 e2 e3
 obtain ⟨X2, hS2, hZ2, ho2⟩ := rebS hS (by rw [eT]; exact hk) X' hS' hg' hZ hown
 exact ⟨v, T', Lc, X2, hQ, hS2, hZ2, ho2, fun t q => k t (st.trans q)⟩
theorem kldc (X : Stand p l e R (s.setVm vm0) m args below meth c T locs cells slots) (hx : p.tables.exec = Jvm.exec) (hZ : Z.Warmed39 vm0) {own text : String} {index : Nat} (hown : vm0.findClass own = some m.cls) {k0 : Nat} (hS : s.Since vm0 k0) (hk : k0 ≤ h.size) (w : (Jvm.Cond.stringLink own index text).before a0 Z = true) (wS : ∀ a ∈ Bundle.stringAtoms, a.before a0 Z = true) (eT : T.heap = h) (k : Kt p e below T st0 g) (n : Nat) (hd : decode c.code g.pc = .ok (.ldc index, 2)) (hg : g.method = m) (hn : 4 * text.toList.length ≤ n) (hbig : n ≤ 536870912) (hc : cells + 2 ≤ R.cells) (hl : slots + (n + 4) ≤ R.slots) {n0 : Nat} (O0 : Old Z n0 h) :
  ∃ (a : Addr) (T' : State) (h' : Heap) (k1 : Nat), Stand p l e R (s.setVm T'.vm) m args below meth c T' locs (cells + 2) (slots + (n + 4)) ∧ T'.heap = h' ∧ Ext h h' ∧ Old Z n0 h' ∧ s.Since T'.vm k1 ∧ k1 ≤ h'.size ∧ Z.Warmed39 T'.vm ∧ T'.vm.findClass own = some m.cls ∧ Kt p e below T' st0 { g with pc := g.pc + 2, stack := .ref a :: g.stack } := by
 obtain ⟨a, T', h', k1, X', e', E, hS', hk', hZ', ho', st⟩ := ldcS X hx hZ hown w wS eT hS hk hg hd hn hbig hc hl
 exact ⟨a, T', h', k1, X', e', E, O0.ext E, hS', hk', hZ', ho', fun t q => k t (st t q)⟩
theorem kldcV (X : Stand p l e R (s.setVm s.vm) m args below meth c T [] cells slots) (hx : p.tables.exec = Jvm.exec) (hZ : Z.Warmed39 s.vm) {own text : String} {index : Nat} (hown : s.vm.findClass own = some m.cls) (w : (Jvm.Cond.stringLink own index text).before a0 Z = true) (wS : ∀ a ∈ Bundle.stringAtoms, a.before a0 Z = true) (eT : T.heap = h) (k : Kt p e below T st0 g) (n : Nat) (hd : decode c.code g.pc = .ok (.ldc index, 2)) (hg : g.method = m) {h0 : Heap} (hh : s.heap = h0) {n0 : Nat} (Oh : Old Z n0 h0) (hI : s.vm.interned = Z.vm.interned) (hlit : Jvm.Lit.constHeld Z own index) (hcw : Jvm.Lit.compactW.before a0 Z = true) {vs : List Value} {z : Int32} (ht : (∀ c ∈ text.toList, c.toNat < 256) ∧ text.toList.map (fun c => Value.int (Jvm.Lit.byteI c.toNat.toUInt16)) = vs) (hz : ¬ z < 0) (hl : z.toNatClampNeg = vs.length) (hn : 4 * text.toList.length ≤ n) (hbig : n ≤ 536870912) (hc : cells + 2 ≤ R.cells) (hl' : slots + (n + 4) ≤ R.slots) (O0 : Old Z n0 h) :
  ∃ (a : Addr) (T' : State) (h' : Heap) (k1 : Nat) (b : Addr) (kb : ClassId), Stand p l e R (s.setVm T'.vm) m args below meth c T' [] (cells + 2) (slots + (n + 4)) ∧ T'.heap = h' ∧ Ext h h' ∧ Old Z n0 h' ∧ s.Since T'.vm k1 ∧ k1 ≤ h'.size ∧ Z.Warmed39 T'.vm ∧ T'.vm.findClass own = some m.cls ∧ Exa Z h' a nm0 ∧ Fld Z h' a nm0 "coder" "B" (.int 0) ∧ Fld Z h' a nm0 "value" "[B" (rr b) ∧ Arv Z h' b kb .byte z vs (.int 0) ∧ Lit (s.setVm T'.vm) own index a ∧ Kt p e below T' st0 { g with pc := g.pc + 2, stack := .ref a :: g.stack } := by
 have hib : IB Z s.vm [] := ⟨#[], by rw [hI]; simp, fun q hq => by simp at hq⟩
 obtain ⟨a, T', h', k1, b, kb, X', e', E, hS', hk', hZ', ho', f1, f2, f3, f4, -, -, -, L, st⟩ := ldcSVL X hx hZ hown w wS eT ((State.WarmedH.refl s).since 0) (Nat.zero_le _) (Fr.nil _) (fun b cl q => by rw [hh]; exact Oh.2.2 b cl q) hib (by simp) hlit hcw ht hz hl hg hd hn hbig hc hl'
 exact ⟨a, T', h', k1, b, kb, X', e', E, O0.ext E, hS', hk', hZ', ho', f1, f2, f3, f4, L, fun t q => k t (st t q)⟩
theorem backOfSI {len W : Nat}
  (hM : MFI l Z y bytes ml rt rm [] as' h Q) (hZ : Z.Warmed39 vm0) (hI : vm0.interned = Z.vm.interned) (wc : (Jvm.Cond.code y bytes ml rt).before a0 Z = true) (wz : (Jvm.Cond.initialized y.cls).before a0 Z = true) (hf : rm.frames + 1 ≤ R.frames) (hl : W + (ml + 11) + rm.locals ≤ R.locals) :
  BackS l R p e below (s.setVm vm0) args y len W (fun A a => a = as' ∧ A.U.heap = h ∧ A.cells + rm.cells ≤ R.cells ∧ A.slots + rm.slots ≤ R.slots)
   (fun A _ v B => ∃ L, Q v B.U.heap L ∧ B.locs = A.locs ++ L ∧ B.cells = A.cells + rm.cells ∧ B.slots = A.slots + rm.slots) :=
 BackS.of_freeW (bytes := bytes) (maxL := ml) (ret := rt) (E := fun _ _ o t L k n => k = rm.cells ∧ n = rm.slots ∧ ∃ v, o = .returned v ∧ Q v t.heap L) hM hf hl
  (fun m meth c A a Y hp => have hU : Z.Warmed39 A.U.vm := wtrans (s := s.setVm vm0) hZ Y.warmed
   ⟨by show (Jvm.Cond.and _ .tt).before a A.U = true; rw [Jvm.Cond.before_and, mv hU wc]; rfl, mv hU wc, mv hU wz, hp.2.2.1, hp.2.2.2⟩)
  (fun m meth c A a g mk Y hp => ⟨hp.1, wtrans (s := s.setVm vm0) hZ Y.warmed, hp.2.1, Y.warmed.interned_eq.trans hI⟩) (fun _ _ _ _ _ _ _ _ _ => trivial)
  (fun _ _ _ _ ⟨v, L, h1, h2, h3⟩ => ⟨L, _, _, h3, rfl, rfl, v, h1, h2⟩)
  (fun m meth c A a g mk v t L k n Y hp _ _ ⟨e1, e2, v', e3, e4⟩ => by cases e3; subst e1 e2; exact ⟨L, e4, rfl, rfl, rfl⟩)
end KW
theorem own_len {s : State} {args : Array Value} {t : Term} {a : Addr} {cl : Cell} {ty : FieldType} {n : Int32} (ev : t.eval args s none [] s = some (rr a)) (A : Arr s s.heap a cl ty) (h : (Term.length t).eval args s none [] s = some (.int n)) : cl.slots.size < 2 ^ 31 ∧ cl.slots.size.toInt32 = n := by
 have ha : s.arrayAt? a = some cl := A.fin (Vm.Alike.refl _)
 have hl := SBG.length_lt ev ha h
 rw [len_f ev ha hl] at h
 exact ⟨hl, by simpa using h⟩
theorem own_cc (x : Int32) : nar .char (x.toUInt32.toUInt16.toUInt32.toInt32) = x.toUInt32.toUInt16.toUInt32.toInt32 := by
 show (x.toUInt32.toUInt16.toUInt32.toInt32).toUInt32.toUInt16.toUInt32.toInt32 = _
 have e : ∀ u : UInt16, u.toUInt32.toInt32.toUInt32.toUInt16 = u := fun u => by simp
 rw [e]
theorem own_bits {x : Int32} (h : nar .char x = x) : x.toBitVec.toNat < 65536 := by
 have e : x.toBitVec = ((x.toUInt32.toUInt16).toUInt32.toInt32).toBitVec := congrArg Int32.toBitVec h.symm
 have q := (x.toUInt32.toUInt16).toNat_lt
 have e2 : (((x.toUInt32.toUInt16).toUInt32.toInt32).toBitVec).toNat = (x.toUInt32.toUInt16).toNat := by
  show ((x.toUInt32.toUInt16).toUInt32).toNat = _
  simp
 rw [e, e2]; exact q
theorem own_chL {x : Int32} (h : nar .char x = x) (h2 : ¬ ((255 : Int32) < x)) : (nar .char (((nar .byte (x.toInt8.toInt32)) &&& (255 : Int32)).toUInt32.toUInt16.toUInt32.toInt32)) = x := by
 have t : ∀ k : Fin 256, (nar .char (((nar .byte ((Int32.ofNat k.val).toInt8.toInt32)) &&& (255 : Int32)).toUInt32.toUInt16.toUInt32.toInt32)) = Int32.ofNat k.val := by decide +kernel
 have q := own_bits h
 have q2 : x.toBitVec.toNat < 256 := by
  rcases Nat.lt_or_ge x.toBitVec.toNat 256 with r | r
  ·exact r
  ·exfalso; apply h2
   rw [Int32.lt_iff_toInt_lt]
   have e1 : (255 : Int32).toInt = 255 := by decide
   have e3 : x.toInt = x.toBitVec.toNat := by
    show x.toBitVec.toInt = _
    rw [BitVec.toInt_eq_toNat_cond, if_pos (by omega)]
   rw [e1, e3]; omega
 have e : x = Int32.ofNat x.toBitVec.toNat := by
  apply Int32.toBitVec_inj.mp
  show _ = BitVec.ofNat 32 _
  rw [BitVec.ofNat_toNat]; simp
 rw [e]; exact t ⟨_, q2⟩
theorem own_mask (x : Int32) : (x.toInt8.toInt32) &&& (255 : Int32) = x &&& (255 : Int32) := by
 apply Int32.toBitVec_inj.mp
 simp only [Int32.toBitVec_and, Int8.toBitVec_toInt32, Int32.toBitVec_toInt8]
 ext i hi
 have hd : ∀ j, j < 32 → 8 ≤ j → (255#32).getLsbD j = false := by decide
 simp only [BitVec.getElem_and]
 by_cases h8 : i < 8
 ·simp [BitVec.getElem_signExtend, h8, hi]
 ·have := hd i hi (by omega)
  rw [BitVec.getLsbD_eq_getElem hi] at this
  show (_ && (255#32)[i]) = (_ && (255#32)[i])
  rw [this]; simp

theorem own_bv16 (b : BitVec 32) (h : b.toNat < 65536) : (((b &&& 255#32) ||| ((b >>> 8) &&& 255#32) <<< 8)) = b := by
 apply BitVec.eq_of_toNat_eq
 have e0 : (255#32).toNat = 2 ^ 8 - 1 := by decide
 have h1 : (b &&& 255#32).toNat = b.toNat % 2 ^ 8 := by rw [BitVec.toNat_and, e0, Nat.and_two_pow_sub_one_eq_mod]
 have h2 : ((b >>> 8) &&& 255#32).toNat = b.toNat / 2 ^ 8 := by
  rw [BitVec.toNat_and, e0, Nat.and_two_pow_sub_one_eq_mod, BitVec.toNat_ushiftRight, Nat.shiftRight_eq_div_pow]
  exact Nat.mod_eq_of_lt (by omega)
 have h3 : (((b >>> 8) &&& 255#32) <<< 8).toNat = 2 ^ 8 * (b.toNat / 2 ^ 8) := by
  rw [BitVec.toNat_shiftLeft, h2, Nat.shiftLeft_eq, Nat.mul_comm]
  exact Nat.mod_eq_of_lt (by omega)
 rw [BitVec.toNat_or, h1, h3, Nat.or_comm, ← Nat.two_pow_add_eq_or_of_lt (Nat.mod_lt _ (by decide))]
 omega
theorem own_get16 {x : Int32} (h : nar .char x = x) : (nar .char (((((nar .byte ((x >>> ((0 : Int32) &&& 31)).toInt8.toInt32)) &&& (255 : Int32)) <<< ((0 : Int32) &&& 31)) ||| (((nar .byte ((x >>> ((8 : Int32) &&& 31)).toInt8.toInt32)) &&& (255 : Int32)) <<< ((8 : Int32) &&& 31))).toUInt32.toUInt16.toUInt32.toInt32)) = x := by
 have hb := own_bits h
 have a0 : ((0 : Int32) &&& 31) = 0 := by decide
 have a8 : ((8 : Int32) &&& 31) = 8 := by decide
 have z0 : (0 : Int32).toBitVec.smod 32 = 0#32 := by decide
 have z8 : (8 : Int32).toBitVec.smod 32 = 8#32 := by decide
 have s0 : x >>> (0 : Int32) = x := by
  apply Int32.toBitVec_inj.mp
  rw [Int32.toBitVec_shiftRight, z0]
  show x.toBitVec.sshiftRight 0 = _
  simp
 rw [a0, a8]
 have m0 : ((nar .byte ((x >>> (0 : Int32)).toInt8.toInt32)) &&& (255 : Int32)) = x &&& 255 := by
  show (((x >>> (0 : Int32)).toInt8.toInt32).toInt8.toInt32) &&& 255 = _
  rw [own_mask, own_mask, s0]
 have m1 : ((nar .byte ((x >>> (8 : Int32)).toInt8.toInt32)) &&& (255 : Int32)) = (x >>> (8 : Int32)) &&& 255 := by
  show (((x >>> (8 : Int32)).toInt8.toInt32).toInt8.toInt32) &&& 255 = _
  rw [own_mask, own_mask]
 have hE : ((x &&& 255) <<< (0 : Int32)) ||| (((x >>> (8 : Int32)) &&& 255) <<< (8 : Int32)) = x := by
  apply Int32.toBitVec_inj.mp
  have hm : x.toBitVec.msb = false := by rw [BitVec.msb_eq_decide]; simp; omega
  have e8 : x.toBitVec.sshiftRight' 8#32 = x.toBitVec >>> 8 := by
   show x.toBitVec.sshiftRight 8 = _
   rw [BitVec.sshiftRight_eq_of_msb_false hm]
  have l0 : ∀ z : BitVec 32, z <<< (0#32) = z := fun z => by simp
  have l8 : ∀ z : BitVec 32, z <<< (8#32) = z <<< 8 := fun z => rfl
  rw [Int32.toBitVec_or, Int32.toBitVec_shiftLeft, Int32.toBitVec_shiftLeft, z0, z8, Int32.toBitVec_and, Int32.toBitVec_and, Int32.toBitVec_shiftRight, z8, e8, l0, l8]
  exact own_bv16 _ hb
 rw [m0, m1, hE]
 show nar .char (nar .char x) = x
 rw [h, h]
theorem own_stx {args : Array Value} {s : State} {C f d : String} {v : Value} (h : (Term.static C f d).eval args s none [] s = some v) (idx : List Nat) : (Term.static C f d).eval args s none idx s = some v := by simpa [Term.eval] using h
theorem kbox {p : Program} {l : Launch} {e : Env} {R : Room} {s : State} {m : MethodId} {args : Array Value} {below : List Frame} {meth : Method} {c : Code} {T : State} {locs : List Loc} {cells slots : Nat} {Z : State} {h : Heap} {st0 : State} {g : JFrame} (X : Stand p l e R s m args below meth c T locs cells slots) (hx : p.tables.exec = Jvm.exec) (hZ : Z.Warmed39 s.vm) (eT : T.heap = h) {n0 : Nat} (O0 : Old Z n0 h) {a : Addr} {cl : Cell} {K d : String} {z : Int32} {val : Int32 → Value} (B : Bxs Z a cl K d z val) {j : Int32} (q1 : ¬ j < 0) (q2 : j < z) (k : Kt p e below T st0 g) (hg : g.method = m) {rest : List Value} (hs : g.stack = .int j :: .ref a :: rest) (hd : decode c.code g.pc = .ok (.aaload, 1)) :
  ∃ b : Addr, Exa Z Z.heap b K ∧ Fld Z Z.heap b K "value" d (val j) ∧ Kt p e below T st0 { g with pc := g.pc + 1, stack := .ref b :: rest } := by
 obtain ⟨A, S, hz, H⟩ := B
 obtain ⟨b, e1, e2, e3⟩ := H j (inb_of S ⟨q1, q2⟩)
 have Ar := A.ext O0.2
 exact ⟨b, e2, e3, fun t q => k t (X.aaload hx (by rw [eT]; exact Ar.1) (State.isArrayOf_alike hZ.alike Ar.2.1) rfl Ar.2.2 (inb_of S ⟨q1, q2⟩) e1 hg hs hd _ q)⟩
theorem own_root {Z : State} {a0 : Array Value} {O K : String} {n : Nat} (w : (Jvm.Cond.noSuperclass O).before a0 Z = true) (wi : (Jvm.Cond.instantiable K n).before a0 Z = true) (hn : O ≠ K) : NS Z O K := by
 obtain ⟨c, k, h1, h2, h3, -, -⟩ := Jvm.Cond.noSuperclass_spec w
 obtain ⟨t, k', g1, -⟩ := Jvm.Cond.instantiable_spec wi
 have ne := ids_ne h1 g1 hn
 refine ⟨c, t, h1, g1, fun fuel => ?_⟩
 cases fuel with
 | zero => rfl
 | succ f => simp [Vm.isSubclassAux, ne, h2, h3]
theorem own_nosub {Z : State} {a0 : Array Value} {C S K : String} {n : Nat} (w : (Jvm.Cond.superclass C S).before a0 Z = true) (wi : (Jvm.Cond.instantiable K n).before a0 Z = true) (nn : NS Z C K) (hn : C ≠ K) : ∃ c t, Z.vm.findClass C = some c ∧ Z.vm.findClass K = some t ∧ Z.vm.assignable c t = false := by
 obtain ⟨c, t, h0, g0, n3⟩ := nn
 obtain ⟨p, k, kp, h1, h2, h3, h4, h5, -, h7⟩ := Jvm.Cond.superclass_spec h0 w
 obtain ⟨t', k', g1, g2, g5, g6, -⟩ := Jvm.Cond.instantiable_spec wi
 cases g0.symm.trans g1
 have g7 : k'.isInterface = false := (Bool.or_eq_false_iff.mp g6).1
 have ne := ids_ne h0 g0 hn
 refine ⟨c, t, h0, g0, ?_⟩
 show Z.vm.assignableAux (255 + 1) c t = false
 simp [Vm.assignableAux, ne, h2, g2, h5, g5, g7, Vm.isSubclass, n3]
theorem kino {p : Program} {l : Launch} {e : Env} {R : Room} {s : State} {m : MethodId} {args : Array Value} {below : List Frame} {meth : Method} {c : Code} {T : State} {locs : List Loc} {cells slots : Nat} {Z : State} {a0 : Array Value} {h : Heap} {st0 : State} {g : JFrame} (X : Stand p l e R s m args below meth c T locs cells slots) (hx : p.tables.exec = Jvm.exec) (hZ : Z.Warmed39 s.vm) {own K C : String} {index : Nat} (hown : s.vm.findClass own = some m.cls) (w : (Jvm.Cond.classLink own index K).before a0 Z = true) (eT : T.heap = h) {a : Addr} (E : Exa Z h a C) (F : ∃ c t, Z.vm.findClass C = some c ∧ Z.vm.findClass K = some t ∧ Z.vm.assignable c t = false) (k : Kt p e below T st0 g) (hg : g.method = m) {rest : List Value} (hs : g.stack = .ref a :: rest) (hd : decode c.code g.pc = .ok (.instanceof index, 3)) :
  ∃ T', Stand p l e R s m args below meth c T' locs cells slots ∧ T'.heap = h ∧ Kt p e below T' st0 { g with pc := g.pc + 3, stack := .int 0 :: rest } := by
 obtain ⟨T', X', e', st⟩ := instNo X hx hZ hown w eT E F hg hs hd
 exact ⟨T', X', e', fun t q => k t (st t q)⟩
theorem own_addI (x : Int32) (h1 : ¬ (x < (-128 : Int32))) (h2 : ¬ ((127 : Int32) < x)) : ¬ ((x + (128 : Int32)) < (0 : Int32)) ∧ (x + (128 : Int32)) < (256 : Int32) := by
 rw [Int32.lt_iff_toInt_lt] at h1 h2
 have e1 : (-128 : Int32).toInt = -128 := by decide
 have e2 : (127 : Int32).toInt = 127 := by decide
 have e3 : (128 : Int32).toInt = 128 := by decide
 have e4 : (0 : Int32).toInt = 0 := by decide
 have e5 : (256 : Int32).toInt = 256 := by decide
 rw [e1] at h1; rw [e2] at h2
 rw [Int32.lt_iff_toInt_lt, Int32.lt_iff_toInt_lt, Int32.toInt_add, e3, e4, e5, Int.bmod_eq_of_le (by omega) (by omega)]
 omega
theorem own_lcl {a b : Int64} (h : ¬ ((lcmpW a b) < (0 : Int32))) : ¬ a.toInt < b.toInt := fun q => by
 apply h
 have n1 : ¬ (a > b) := by rw [gt_iff_lt, Int64.lt_iff_toInt_lt]; omega
 have n2 : ¬ (a = b) := fun e => by rw [e] at q; omega
 unfold lcmpW
 rw [if_neg n1, if_neg n2]; decide
theorem own_lcg {a b : Int64} (h : ¬ ((0 : Int32) < (lcmpW a b))) : ¬ b.toInt < a.toInt := fun q => by
 apply h
 have l : a > b := by rw [gt_iff_lt, Int64.lt_iff_toInt_lt]; exact q
 unfold lcmpW
 rw [if_pos l]; decide
theorem own_addJ (x : Int64) (h1 : ¬ ((lcmpW x (-128 : Int64)) < (0 : Int32))) (h2 : ¬ ((0 : Int32) < (lcmpW x (127 : Int64)))) : ¬ (((x.toInt32) + (128 : Int32)) < (0 : Int32)) ∧ ((x.toInt32) + (128 : Int32)) < (256 : Int32) := by
 have a := own_lcl h1
 have b := own_lcg h2
 have e1 : (-128 : Int64).toInt = -128 := by decide
 have e2 : (127 : Int64).toInt = 127 := by decide
 rw [e1] at a; rw [e2] at b
 have e0 : x.toInt32.toInt = x.toInt := by rw [Int64.toInt_toInt32, Int.bmod_eq_of_le (by omega) (by omega)]
 apply own_addI
 ·rw [Int32.lt_iff_toInt_lt, e0]; have : (-128 : Int32).toInt = -128 := by decide
  rw [this]; exact a
 ·rw [Int32.lt_iff_toInt_lt, e0]; have : (127 : Int32).toInt = 127 := by decide
  rw [this]; exact b
theorem own_ncc (x : Int32) : nar .char (nar .char x) = nar .char x := own_cc x
def own_mk (c : Int32) : Prop := c = 46 ∨ c = 101 ∨ c = 69
theorem own_to256 {x : Int32} (h : nar .char x = x) (h2 : ¬ ((255 : Int32) < x)) : ∃ k : Fin 256, x = Int32.ofNat k.val := by
 have q := own_bits h
 have q2 : x.toBitVec.toNat < 256 := by
  rcases Nat.lt_or_ge x.toBitVec.toNat 256 with r | r
  ·exact r
  ·exfalso; apply h2
   rw [Int32.lt_iff_toInt_lt]
   have e1 : (255 : Int32).toInt = 255 := by decide
   have e3 : x.toInt = x.toBitVec.toNat := by
    show x.toBitVec.toInt = _
    rw [BitVec.toInt_eq_toNat_cond, if_pos (by omega)]
   rw [e1, e3]; omega
 refine ⟨⟨_, q2⟩, ?_⟩
 apply Int32.toBitVec_inj.mp
 show _ = BitVec.ofNat 32 _
 rw [BitVec.ofNat_toNat]; simp
theorem own_lbT {x : Int32} (h : nar .char x = x) (h2 : ¬ ((255 : Int32) < x)) : ((nar .byte (x.toInt8.toInt32)) = ((46 : Int32).toInt8.toInt32) → x = 46) ∧ ((nar .byte (x.toInt8.toInt32)) = ((101 : Int32).toInt8.toInt32) → x = 101) ∧ ((nar .byte (x.toInt8.toInt32)) = ((69 : Int32).toInt8.toInt32) → x = 69) := by
 have t : ∀ k : Fin 256, ((nar .byte ((Int32.ofNat k.val).toInt8.toInt32)) = ((46 : Int32).toInt8.toInt32) → (Int32.ofNat k.val) = 46) ∧ ((nar .byte ((Int32.ofNat k.val).toInt8.toInt32)) = ((101 : Int32).toInt8.toInt32) → (Int32.ofNat k.val) = 101) ∧ ((nar .byte ((Int32.ofNat k.val).toInt8.toInt32)) = ((69 : Int32).toInt8.toInt32) → (Int32.ofNat k.val) = 69) := by decide +kernel
 obtain ⟨k, e⟩ := own_to256 h h2
 rw [e]; exact t k
theorem own_lbN {x : Int32} (h1 : ¬ ((nar .byte (x.toInt8.toInt32)) = ((46 : Int32).toInt8.toInt32))) (h2 : ¬ ((nar .byte (x.toInt8.toInt32)) = ((101 : Int32).toInt8.toInt32))) (h3 : ¬ ((nar .byte (x.toInt8.toInt32)) = ((69 : Int32).toInt8.toInt32))) : ¬ own_mk x := fun q => by
 rcases q with q | q | q
 ·exact h1 (by rw [q]; decide)
 ·exact h2 (by rw [q]; decide)
 ·exact h3 (by rw [q]; decide)
theorem own_and3 (x : Int32) : (x &&& (3 : Int32)) = 0 ∨ (x &&& (3 : Int32)) = 1 ∨ (x &&& (3 : Int32)) = 2 ∨ (x &&& (3 : Int32)) = 3 := by
 have h : (x &&& 3).toBitVec.toNat < 4 := by
  simp only [Int32.toBitVec_and, BitVec.toNat_and]
  exact Nat.lt_succ_of_le Nat.and_le_right
 have e : (x &&& 3) = Int32.ofNat (x &&& 3).toBitVec.toNat := by
  apply Int32.toBitVec_inj.mp
  show _ = BitVec.ofNat 32 _
  rw [BitVec.ofNat_toNat]; simp
 have t : ∀ k : Fin 4, Int32.ofNat k.val = 0 ∨ Int32.ofNat k.val = 1 ∨ Int32.ofNat k.val = 2 ∨ Int32.ofNat k.val = 3 := by decide +kernel
 rw [e]; exact t ⟨_, h⟩
theorem pn_java_lang_StringUTF16 : plainName nm1 = true := by first | (simp [plainName, overriddenIn]; done) | decide +kernel
theorem d0_0 : decode jdk_52_method_4_code 0 = .ok (.getstatic 44, 3) := by decide +kernel
theorem d0_3 : decode jdk_52_method_4_code 3 = .ok (.ifCond .ne 25, 3) := by decide +kernel
theorem d0_28 : decode jdk_52_method_4_code 28 = .ok (.iload_n 1, 1) := by decide +kernel
theorem d0_29 : decode jdk_52_method_4_code 29 = .ok (.iconst 1, 1) := by decide +kernel
theorem d0_30 : decode jdk_52_method_4_code 30 = .ok (.ishl, 1) := by decide +kernel
theorem d0_31 : decode jdk_52_method_4_code 31 = .ok (.istore_n 1, 1) := by decide +kernel
theorem d0_32 : decode jdk_52_method_4_code 32 = .ok (.aload_n 0, 1) := by decide +kernel
theorem d0_33 : decode jdk_52_method_4_code 33 = .ok (.iload_n 1, 1) := by decide +kernel
theorem d0_34 : decode jdk_52_method_4_code 34 = .ok (.iinc 1 1, 3) := by decide +kernel
theorem d0_37 : decode jdk_52_method_4_code 37 = .ok (.iload_n 2, 1) := by decide +kernel
theorem d0_38 : decode jdk_52_method_4_code 38 = .ok (.getstatic 59, 3) := by decide +kernel
theorem d0_41 : decode jdk_52_method_4_code 41 = .ok (.ishr, 1) := by decide +kernel
theorem d0_42 : decode jdk_52_method_4_code 42 = .ok (.i2b, 1) := by decide +kernel
theorem d0_43 : decode jdk_52_method_4_code 43 = .ok (.bastore, 1) := by decide +kernel
theorem d0_44 : decode jdk_52_method_4_code 44 = .ok (.aload_n 0, 1) := by decide +kernel
theorem d0_45 : decode jdk_52_method_4_code 45 = .ok (.iload_n 1, 1) := by decide +kernel
theorem d0_46 : decode jdk_52_method_4_code 46 = .ok (.iload_n 2, 1) := by decide +kernel
theorem d0_47 : decode jdk_52_method_4_code 47 = .ok (.getstatic 63, 3) := by decide +kernel
theorem d0_50 : decode jdk_52_method_4_code 50 = .ok (.ishr, 1) := by decide +kernel
theorem d0_51 : decode jdk_52_method_4_code 51 = .ok (.i2b, 1) := by decide +kernel
theorem d0_52 : decode jdk_52_method_4_code 52 = .ok (.bastore, 1) := by decide +kernel
theorem d0_53 : decode jdk_52_method_4_code 53 = .ok (.return_, 1) := by decide +kernel
theorem ef_putc (m : MethodId) (d_ : Addr) (i_ : Int32) (c_ : Int32) : entryFrame m #[(rr d_), (.int i_), (.int c_)] 3 = mkF m 0 #[vr d_, vi i_, vi c_] [] := by first | (simp [entryFrame, mkF, argsToLocals, Value.category]; done) | rfl
def Q_putc (Z : State) (d_ : Addr) (kd_ : ClassId) (n_ : Int32) (vs_ : List Value) (i_ : Int32) (c_ : Int32) (h0 : Heap) (n0 : Nat) (v : Option Value) (h : Heap) (L : List Loc) : Prop := v = none ∧ Fr n0 L ∧ Keep h0 h [d_] ∧ Arv Z h d_ kd_ .byte n_ ((vs_.set ((i_ <<< ((1 : Int32) &&& 31))).toNatClampNeg (.int (nar .byte ((c_ >>> ((0 : Int32) &&& 31)).toInt8.toInt32)))).set (((i_ <<< ((1 : Int32) &&& 31)) + (1 : Int32))).toNatClampNeg (.int (nar .byte ((c_ >>> ((8 : Int32) &&& 31)).toInt8.toInt32)))) (ii 0)
set_option maxRecDepth 65536 in
set_option maxHeartbeats 40000000 in
theorem rm_putc (l : Launch) (Z : State) (a0 : Array Value) (hw : HW Z a0) (ws : List Jvm.Cond) (d_ : Addr) (kd_ : ClassId) (n_ : Int32) (vs_ : List Value) (i_ : Int32) (c_ : Int32) (h0 : Heap) (n0 : Nat) (O0 : Old Z n0 h0) (A0_ : Arv Z h0 d_ kd_ .byte n_ vs_ (ii 0)) (G1_ : n0 ≤ d_) (ZS2_ : Sta Z Z.heap nm1 "$assertionsDisabled" "Z" (ii 1)) (ZS3_ : Sta Z Z.heap nm1 "HI_BYTE_SHIFT" "I" (ii 0)) (ZS4_ : Sta Z Z.heap nm1 "LO_BYTE_SHIFT" "I" (ii 8)) (h1_ : ¬ ((i_ <<< ((1 : Int32) &&& 31)) < (0 : Int32))) (h2_ : (i_ <<< ((1 : Int32) &&& 31)) < n_) (h3_ : ¬ (((i_ <<< ((1 : Int32) &&& 31)) + (1 : Int32)) < (0 : Int32))) (h4_ : ((i_ <<< ((1 : Int32) &&& 31)) + (1 : Int32)) < n_) (h5_ : ((i_ <<< ((1 : Int32) &&& 31))).toNatClampNeg < vs_.length) (h6_ : (((i_ <<< ((1 : Int32) &&& 31)) + (1 : Int32))).toNatClampNeg < (vs_.set ((i_ <<< ((1 : Int32) &&& 31))).toNatClampNeg (.int (nar .byte ((c_ >>> ((0 : Int32) &&& 31)).toInt8.toInt32)))).length) :
  MFP l Z (⟨nm1, "putChar", "([BII)V"⟩ : MethodName) jdk_52_method_4_code 3 none ({ frames := 0, cells := 0, slots := 0, locals := 0 } : Room) ws #[(rr d_), (.int i_), (.int c_)] h0 (Q_putc Z d_ kd_ n_ vs_ i_ c_ h0 n0) := by
 refine MetFree.of_bodySF (plainFor_of_name pn_java_lang_StringUTF16) hisR ?_
 intro p e s m args below meth c s₁ Bd hml0 hP hK
 obtain ⟨rfl, hZ, hh⟩ := hP
 have hx := Bd.exec
 have hby := Bd.bytes
 have hml : c.maxLocals = 3 := hml0
 have hown : s.vm.findClass nm1 = some m.cls := findClass_of_methodNamed Bd.named
 have hnm := (name_of_methodNamed Bd.named Bd.method).1
 have X0 : Stand p l e ({ frames := 0, cells := 0, slots := 0, locals := 0 } : Room) s m #[(rr d_), (.int i_), (.int c_)] below meth c s₁ [] 0 0 := Stand.of_body Bd
 have e0 : s₁.heap = h0 := by rw [← hh, Bd.state]; rfl
 have N0 := Fr.nil n0
 have kp0 : Keep h0 h0 [d_] := Keep.refl _ _
 have c0 : ∀ t, S_ p e below s₁ m 0 #[vr d_, vi i_, vi c_] [] t → Steps p.tables e below (s₁.setTop (entryFrame m #[(rr d_), (.int i_), (.int c_)] 3)) t := fun t k => castTop (ef_putc m d_ i_ c_) k
 generalize s₁.setTop (entryFrame m #[(rr d_), (.int i_), (.int c_)] 3) = st0 at c0 ⊢
 replace c0 : Kt p e below s₁ st0 (mkF m 0 #[vr d_, vi i_, vi c_] []) := c0
 obtain ⟨T1, X1, e1, c1⟩ := kgetS X0 hx hZ hown (host := "") (Or.inl (w158 hw)) Via.refl e0 (ZS2_.ext O0.2) c0 rfl (hb hby d0_0)
 have c2 : Kt p e below T1 st0 (mkF m 38 #[vr d_, .val (.int ((i_ <<< ((1 : Int32) &&& 31)) + (1 : Int32))), vi c_] [(.int c_), (.int (i_ <<< ((1 : Int32) &&& 31))), (rr d_)]) := fun t k => by
  refine c1 t ?_
  show S_ p e below T1 m 3 #[vr d_, vi i_, vi c_] [(ii 1)] t
  refine yI X1.here hx rfl 3 28 rfl (hb hby d0_3) rfl rfl ?_
  refine XS.iloadN X1.here hx rfl (hb hby d0_28) rfl ?_
  refine XS.iconst X1.here hx rfl (hb hby d0_29) ?_
  refine XS.ishl X1.here hx rfl (hb hby d0_30) rfl ?_
  refine XS.istoreN X1.here hx rfl (hb hby d0_31) rfl (l' := #[vr d_, .val (.int (i_ <<< ((1 : Int32) &&& 31))), vi c_]) rfl ?_
  refine XS.aloadN X1.here hx rfl (hb hby d0_32) rfl rfl ?_
  refine XS.iloadN X1.here hx rfl (hb hby d0_33) rfl ?_
  refine XS.iinc X1.here hx rfl (hb hby d0_34) rfl (l' := #[vr d_, .val (.int ((i_ <<< ((1 : Int32) &&& 31)) + (1 : Int32))), vi c_]) rfl ?_
  show S_ p e below T1 m 37 #[vr d_, .val (.int ((i_ <<< ((1 : Int32) &&& 31)) + (1 : Int32))), vi c_] [(.int (i_ <<< ((1 : Int32) &&& 31))), (rr d_)] t
  refine XS.iloadN X1.here hx rfl (hb hby d0_37) rfl ?_
  exact k
 obtain ⟨T3, X3, e3, c3⟩ := kgetS X1 hx hZ hown (host := "") (Or.inl (w159 hw)) Via.refl e1 (ZS3_.ext O0.2) c2 rfl (hb hby d0_38)
 have c4 : Kt p e below T3 st0 (mkF m 43 #[vr d_, .val (.int ((i_ <<< ((1 : Int32) &&& 31)) + (1 : Int32))), vi c_] [(.int ((c_ >>> ((0 : Int32) &&& 31)).toInt8.toInt32)), (.int (i_ <<< ((1 : Int32) &&& 31))), (rr d_)]) := fun t k => by
  refine c3 t ?_
  show S_ p e below T3 m 41 #[vr d_, .val (.int ((i_ <<< ((1 : Int32) &&& 31)) + (1 : Int32))), vi c_] [(ii 0), (.int c_), (.int (i_ <<< ((1 : Int32) &&& 31))), (rr d_)] t
  refine XS.ishr X3.here hx rfl (hb hby d0_41) rfl ?_
  refine XS.i2b X3.here hx rfl (hb hby d0_42) rfl ?_
  exact k
 obtain ⟨T5, h5, X5, e5, W5, f8, o6, N7, c5⟩ := kstB X3 hx hZ e3 A0_ (j := (i_ <<< ((1 : Int32) &&& 31))) h1_ h2_ _ rfl h5_ c4 rfl rfl (hb hby d0_43) O0 N0 G1_
 have f9 : Arv Z h5 d_ kd_ .byte n_ (vs_.set ((i_ <<< ((1 : Int32) &&& 31))).toNatClampNeg (.int (nar .byte ((c_ >>> ((0 : Int32) &&& 31)).toInt8.toInt32)))) (ii 0) := f8
 have kp10 := kp0.wr W5 (Or.inl (List.mem_of_getElem? (i := 0) rfl))
 have c11 : Kt p e below T5 st0 (mkF m 47 #[vr d_, .val (.int ((i_ <<< ((1 : Int32) &&& 31)) + (1 : Int32))), vi c_] [(.int c_), (.int ((i_ <<< ((1 : Int32) &&& 31)) + (1 : Int32))), (rr d_)]) := fun t k => by
  refine c5 t ?_
  show S_ p e below T5 m 44 #[vr d_, .val (.int ((i_ <<< ((1 : Int32) &&& 31)) + (1 : Int32))), vi c_] [] t
  refine XS.aloadN X5.here hx rfl (hb hby d0_44) rfl rfl ?_
  refine XS.iloadN X5.here hx rfl (hb hby d0_45) rfl ?_
  refine XS.iloadN X5.here hx rfl (hb hby d0_46) rfl ?_
  exact k
 obtain ⟨T12, X12, e12, c12⟩ := kgetS X5 hx hZ hown (host := "") (Or.inl (w160 hw)) Via.refl e5 (ZS4_.ext o6.2) c11 rfl (hb hby d0_47)
 have c13 : Kt p e below T12 st0 (mkF m 52 #[vr d_, .val (.int ((i_ <<< ((1 : Int32) &&& 31)) + (1 : Int32))), vi c_] [(.int ((c_ >>> ((8 : Int32) &&& 31)).toInt8.toInt32)), (.int ((i_ <<< ((1 : Int32) &&& 31)) + (1 : Int32))), (rr d_)]) := fun t k => by
  refine c12 t ?_
  show S_ p e below T12 m 50 #[vr d_, .val (.int ((i_ <<< ((1 : Int32) &&& 31)) + (1 : Int32))), vi c_] [(ii 8), (.int c_), (.int ((i_ <<< ((1 : Int32) &&& 31)) + (1 : Int32))), (rr d_)] t
  refine XS.ishr X12.here hx rfl (hb hby d0_50) rfl ?_
  refine XS.i2b X12.here hx rfl (hb hby d0_51) rfl ?_
  exact k
 obtain ⟨T14, h14, X14, e14, W14, f17, o15, N16, c14⟩ := kstB X12 hx hZ e12 f9 (j := ((i_ <<< ((1 : Int32) &&& 31)) + (1 : Int32))) h3_ h4_ _ rfl h6_ c13 rfl rfl (hb hby d0_52) o6 N7 G1_
 have f18 : Arv Z h14 d_ kd_ .byte n_ ((vs_.set ((i_ <<< ((1 : Int32) &&& 31))).toNatClampNeg (.int (nar .byte ((c_ >>> ((0 : Int32) &&& 31)).toInt8.toInt32)))).set (((i_ <<< ((1 : Int32) &&& 31)) + (1 : Int32))).toNatClampNeg (.int (nar .byte ((c_ >>> ((8 : Int32) &&& 31)).toInt8.toInt32)))) (ii 0) := f17
 have kp19 := kp10.wr W14 (Or.inl (List.mem_of_getElem? (i := 0) rfl))
 obtain ⟨fs, hr, hrun, hended, hW, hsame⟩ := X14.leave (v := none) (fun _ => rfl)
 refine ⟨_, _, c14 _ ?_, hrun, hended, _, _, rfl, ?_, ⟨_, rfl⟩, hW, hsame.mono (by decide) (by decide)⟩
 ·show S_ p e below T14 m 53 #[vr d_, .val (.int ((i_ <<< ((1 : Int32) &&& 31)) + (1 : Int32))), vi c_] [] _
  exact X14.returnOut hx Bd.returns (hb hby d0_53) hr
 ·show Q_putc Z d_ kd_ n_ vs_ i_ c_ h0 n0 _ T14.heap _
  rw [e14]
  exact ⟨rfl, N16, kp19, f18⟩
theorem d1_0 : decode jdk_52_method_5_code 0 = .ok (.getstatic 44, 3) := by decide +kernel
theorem d1_3 : decode jdk_52_method_5_code 3 = .ok (.ifCond .ne 25, 3) := by decide +kernel
theorem d1_28 : decode jdk_52_method_5_code 28 = .ok (.iload_n 1, 1) := by decide +kernel
theorem d1_29 : decode jdk_52_method_5_code 29 = .ok (.iconst 1, 1) := by decide +kernel
theorem d1_30 : decode jdk_52_method_5_code 30 = .ok (.ishl, 1) := by decide +kernel
theorem d1_31 : decode jdk_52_method_5_code 31 = .ok (.istore_n 1, 1) := by decide +kernel
theorem d1_32 : decode jdk_52_method_5_code 32 = .ok (.aload_n 0, 1) := by decide +kernel
theorem d1_33 : decode jdk_52_method_5_code 33 = .ok (.iload_n 1, 1) := by decide +kernel
theorem d1_34 : decode jdk_52_method_5_code 34 = .ok (.iinc 1 1, 3) := by decide +kernel
theorem d1_37 : decode jdk_52_method_5_code 37 = .ok (.baload, 1) := by decide +kernel
theorem d1_38 : decode jdk_52_method_5_code 38 = .ok (.sipush 255, 3) := by decide +kernel
theorem d1_41 : decode jdk_52_method_5_code 41 = .ok (.iand, 1) := by decide +kernel
theorem d1_42 : decode jdk_52_method_5_code 42 = .ok (.getstatic 59, 3) := by decide +kernel
theorem d1_45 : decode jdk_52_method_5_code 45 = .ok (.ishl, 1) := by decide +kernel
theorem d1_46 : decode jdk_52_method_5_code 46 = .ok (.aload_n 0, 1) := by decide +kernel
theorem d1_47 : decode jdk_52_method_5_code 47 = .ok (.iload_n 1, 1) := by decide +kernel
theorem d1_48 : decode jdk_52_method_5_code 48 = .ok (.baload, 1) := by decide +kernel
theorem d1_49 : decode jdk_52_method_5_code 49 = .ok (.sipush 255, 3) := by decide +kernel
theorem d1_52 : decode jdk_52_method_5_code 52 = .ok (.iand, 1) := by decide +kernel
theorem d1_53 : decode jdk_52_method_5_code 53 = .ok (.getstatic 63, 3) := by decide +kernel
theorem d1_56 : decode jdk_52_method_5_code 56 = .ok (.ishl, 1) := by decide +kernel
theorem d1_57 : decode jdk_52_method_5_code 57 = .ok (.ior, 1) := by decide +kernel
theorem d1_58 : decode jdk_52_method_5_code 58 = .ok (.i2c, 1) := by decide +kernel
theorem d1_59 : decode jdk_52_method_5_code 59 = .ok (.ireturn, 1) := by decide +kernel
theorem ef_getc (m : MethodId) (s_ : Addr) (i_ : Int32) : entryFrame m #[(rr s_), (.int i_)] 2 = mkF m 0 #[vr s_, vi i_] [] := by first | (simp [entryFrame, mkF, argsToLocals, Value.category]; done) | rfl
def Q_getc (Z : State) (s_ : Addr) (ks_ : ClassId) (n_ : Int32) (vs_ : List Value) (i_ : Int32) (b_ : Int32) (d_ : Int32) (c_ : Int32) (h0 : Heap) (n0 : Nat) (v : Option Value) (h : Heap) (L : List Loc) : Prop := v = some (.int c_) ∧ Fr n0 L ∧ h = h0
set_option maxRecDepth 65536 in
set_option maxHeartbeats 40000000 in
theorem rm_getc (l : Launch) (Z : State) (a0 : Array Value) (hw : HW Z a0) (ws : List Jvm.Cond) (s_ : Addr) (ks_ : ClassId) (n_ : Int32) (vs_ : List Value) (i_ : Int32) (b_ : Int32) (d_ : Int32) (c_ : Int32) (h0 : Heap) (n0 : Nat) (O0 : Old Z n0 h0) (A0_ : Arv Z h0 s_ ks_ .byte n_ vs_ (ii 0)) (ZS1_ : Sta Z Z.heap nm1 "$assertionsDisabled" "Z" (ii 1)) (ZS2_ : Sta Z Z.heap nm1 "HI_BYTE_SHIFT" "I" (ii 0)) (ZS3_ : Sta Z Z.heap nm1 "LO_BYTE_SHIFT" "I" (ii 8)) (h1_ : ¬ ((i_ <<< ((1 : Int32) &&& 31)) < (0 : Int32))) (h2_ : (i_ <<< ((1 : Int32) &&& 31)) < n_) (h3_ : ¬ (((i_ <<< ((1 : Int32) &&& 31)) + (1 : Int32)) < (0 : Int32))) (h4_ : ((i_ <<< ((1 : Int32) &&& 31)) + (1 : Int32)) < n_) (h5_ : vs_.getD ((i_ <<< ((1 : Int32) &&& 31))).toNatClampNeg (ii 0) = (.int b_)) (h6_ : vs_.getD (((i_ <<< ((1 : Int32) &&& 31)) + (1 : Int32))).toNatClampNeg (ii 0) = (.int d_)) (h7_ : (nar .char ((((b_ &&& (255 : Int32)) <<< ((0 : Int32) &&& 31)) ||| ((d_ &&& (255 : Int32)) <<< ((8 : Int32) &&& 31))).toUInt32.toUInt16.toUInt32.toInt32)) = c_) :
  MFP l Z (⟨nm1, "getChar", "([BI)C"⟩ : MethodName) jdk_52_method_5_code 2 (some .char) ({ frames := 0, cells := 0, slots := 0, locals := 0 } : Room) ws #[(rr s_), (.int i_)] h0 (Q_getc Z s_ ks_ n_ vs_ i_ b_ d_ c_ h0 n0) := by
 refine MetFree.of_bodySF (plainFor_of_name pn_java_lang_StringUTF16) hisR ?_
 intro p e s m args below meth c s₁ Bd hml0 hP hK
 obtain ⟨rfl, hZ, hh⟩ := hP
 have hx := Bd.exec
 have hby := Bd.bytes
 have hml : c.maxLocals = 2 := hml0
 have hown : s.vm.findClass nm1 = some m.cls := findClass_of_methodNamed Bd.named
 have hnm := (name_of_methodNamed Bd.named Bd.method).1
 have X0 : Stand p l e ({ frames := 0, cells := 0, slots := 0, locals := 0 } : Room) s m #[(rr s_), (.int i_)] below meth c s₁ [] 0 0 := Stand.of_body Bd
 have e0 : s₁.heap = h0 := by rw [← hh, Bd.state]; rfl
 have N0 := Fr.nil n0
 have kp0 : Keep h0 h0 [] := Keep.refl _ _
 have c0 : ∀ t, S_ p e below s₁ m 0 #[vr s_, vi i_] [] t → Steps p.tables e below (s₁.setTop (entryFrame m #[(rr s_), (.int i_)] 2)) t := fun t k => castTop (ef_getc m s_ i_) k
 generalize s₁.setTop (entryFrame m #[(rr s_), (.int i_)] 2) = st0 at c0 ⊢
 replace c0 : Kt p e below s₁ st0 (mkF m 0 #[vr s_, vi i_] []) := c0
 obtain ⟨T1, X1, e1, c1⟩ := kgetS X0 hx hZ hown (host := "") (Or.inl (w158 hw)) Via.refl e0 (ZS1_.ext O0.2) c0 rfl (hb hby d1_0)
 have c2 : Kt p e below T1 st0 (mkF m 42 #[vr s_, .val (.int ((i_ <<< ((1 : Int32) &&& 31)) + (1 : Int32)))] [(.int (b_ &&& (255 : Int32)))]) := fun t k => by
  refine c1 t ?_
  show S_ p e below T1 m 3 #[vr s_, vi i_] [(ii 1)] t
  refine yI X1.here hx rfl 3 28 rfl (hb hby d1_3) rfl rfl ?_
  refine XS.iloadN X1.here hx rfl (hb hby d1_28) rfl ?_
  refine XS.iconst X1.here hx rfl (hb hby d1_29) ?_
  refine XS.ishl X1.here hx rfl (hb hby d1_30) rfl ?_
  refine XS.istoreN X1.here hx rfl (hb hby d1_31) rfl (l' := #[vr s_, .val (.int (i_ <<< ((1 : Int32) &&& 31)))]) rfl ?_
  refine XS.aloadN X1.here hx rfl (hb hby d1_32) rfl rfl ?_
  refine XS.iloadN X1.here hx rfl (hb hby d1_33) rfl ?_
  refine XS.iinc X1.here hx rfl (hb hby d1_34) rfl (l' := #[vr s_, .val (.int ((i_ <<< ((1 : Int32) &&& 31)) + (1 : Int32)))]) rfl ?_
  show S_ p e below T1 m 37 #[vr s_, .val (.int ((i_ <<< ((1 : Int32) &&& 31)) + (1 : Int32)))] [(.int (i_ <<< ((1 : Int32) &&& 31))), (rr s_)] t
  refine ldB X1 hx hZ e1 A0_ (v := (.int b_)) h1_ h2_ h5_ rfl rfl (hb hby d1_37) ?_
  refine XS.sipush X1.here hx rfl (hb hby d1_38) ?_
  refine XS.iand X1.here hx rfl (hb hby d1_41) rfl ?_
  exact k
 obtain ⟨T3, X3, e3, c3⟩ := kgetS X1 hx hZ hown (host := "") (Or.inl (w159 hw)) Via.refl e1 (ZS2_.ext O0.2) c2 rfl (hb hby d1_42)
 have c4 : Kt p e below T3 st0 (mkF m 53 #[vr s_, .val (.int ((i_ <<< ((1 : Int32) &&& 31)) + (1 : Int32)))] [(.int (d_ &&& (255 : Int32))), (.int ((b_ &&& (255 : Int32)) <<< ((0 : Int32) &&& 31)))]) := fun t k => by
  refine c3 t ?_
  show S_ p e below T3 m 45 #[vr s_, .val (.int ((i_ <<< ((1 : Int32) &&& 31)) + (1 : Int32)))] [(ii 0), (.int (b_ &&& (255 : Int32)))] t
  refine XS.ishl X3.here hx rfl (hb hby d1_45) rfl ?_
  refine XS.aloadN X3.here hx rfl (hb hby d1_46) rfl rfl ?_
  refine XS.iloadN X3.here hx rfl (hb hby d1_47) rfl ?_
  refine ldB X3 hx hZ e3 A0_ (v := (.int d_)) h3_ h4_ h6_ rfl rfl (hb hby d1_48) ?_
  refine XS.sipush X3.here hx rfl (hb hby d1_49) ?_
  refine XS.iand X3.here hx rfl (hb hby d1_52) rfl ?_
  exact k
 obtain ⟨T5, X5, e5, c5⟩ := kgetS X3 hx hZ hown (host := "") (Or.inl (w160 hw)) Via.refl e3 (ZS3_.ext O0.2) c4 rfl (hb hby d1_53)
 obtain ⟨fs, hr, hrun, hended, hW, hsame⟩ := X5.leave (v := some (.int (nar .char ((((b_ &&& (255 : Int32)) <<< ((0 : Int32) &&& 31)) ||| ((d_ &&& (255 : Int32)) <<< ((8 : Int32) &&& 31))).toUInt32.toUInt16.toUInt32.toInt32)))) (fun h => by rw [Bd.returns] at h; cases h)
 refine ⟨_, _, c5 _ ?_, hrun, hended, _, _, rfl, ?_, ⟨_, rfl⟩, hW, hsame.mono (by decide) (by decide)⟩
 ·show S_ p e below T5 m 56 #[vr s_, .val (.int ((i_ <<< ((1 : Int32) &&& 31)) + (1 : Int32)))] [(ii 8), (.int (d_ &&& (255 : Int32))), (.int ((b_ &&& (255 : Int32)) <<< ((0 : Int32) &&& 31)))] _
  refine XS.ishl X5.here hx rfl (hb hby d1_56) rfl ?_
  refine XS.ior X5.here hx rfl (hb hby d1_57) rfl ?_
  refine XS.i2c X5.here hx rfl (hb hby d1_58) rfl ?_
  show S_ p e below T5 m 59 #[vr s_, .val (.int ((i_ <<< ((1 : Int32) &&& 31)) + (1 : Int32)))] [(.int ((((b_ &&& (255 : Int32)) <<< ((0 : Int32) &&& 31)) ||| ((d_ &&& (255 : Int32)) <<< ((8 : Int32) &&& 31))).toUInt32.toUInt16.toUInt32.toInt32))] _
  exact retN X5 hx (t := .char) Bd.returns (by simp) (hb hby d1_59) hr
 ·show Q_getc Z s_ ks_ n_ vs_ i_ b_ d_ c_ h0 n0 _ T5.heap _
  rw [e5]
  exact ⟨(by rw [h7_]), N0, rfl⟩
theorem d2_0 : decode jdk_52_method_21_code 0 = .ok (.iconst 0, 1) := by decide +kernel
theorem d2_1 : decode jdk_52_method_21_code 1 = .ok (.istore 5, 2) := by decide +kernel
theorem d2_3 : decode jdk_52_method_21_code 3 = .ok (.iload 5, 2) := by decide +kernel
theorem d2_5 : decode jdk_52_method_21_code 5 = .ok (.iload 4, 2) := by decide +kernel
theorem d2_7 : decode jdk_52_method_21_code 7 = .ok (.if_icmp .ge 37, 3) := by decide +kernel
theorem d2_10 : decode jdk_52_method_21_code 10 = .ok (.aload_n 0, 1) := by decide +kernel
theorem d2_11 : decode jdk_52_method_21_code 11 = .ok (.iload_n 1, 1) := by decide +kernel
theorem d2_12 : decode jdk_52_method_21_code 12 = .ok (.caload, 1) := by decide +kernel
theorem d2_13 : decode jdk_52_method_21_code 13 = .ok (.istore 6, 2) := by decide +kernel
theorem d2_15 : decode jdk_52_method_21_code 15 = .ok (.iload 6, 2) := by decide +kernel
theorem d2_17 : decode jdk_52_method_21_code 17 = .ok (.sipush 255, 3) := by decide +kernel
theorem d2_20 : decode jdk_52_method_21_code 20 = .ok (.if_icmp .le 6, 3) := by decide +kernel
theorem d2_23 : decode jdk_52_method_21_code 23 = .ok (.iload 5, 2) := by decide +kernel
theorem d2_25 : decode jdk_52_method_21_code 25 = .ok (.ireturn, 1) := by decide +kernel
theorem d2_26 : decode jdk_52_method_21_code 26 = .ok (.aload_n 2, 1) := by decide +kernel
theorem d2_27 : decode jdk_52_method_21_code 27 = .ok (.iload_n 3, 1) := by decide +kernel
theorem d2_28 : decode jdk_52_method_21_code 28 = .ok (.iload 6, 2) := by decide +kernel
theorem d2_30 : decode jdk_52_method_21_code 30 = .ok (.i2b, 1) := by decide +kernel
theorem d2_31 : decode jdk_52_method_21_code 31 = .ok (.bastore, 1) := by decide +kernel
theorem d2_32 : decode jdk_52_method_21_code 32 = .ok (.iinc 1 1, 3) := by decide +kernel
theorem d2_35 : decode jdk_52_method_21_code 35 = .ok (.iinc 3 1, 3) := by decide +kernel
theorem d2_38 : decode jdk_52_method_21_code 38 = .ok (.iinc 5 1, 3) := by decide +kernel
theorem d2_41 : decode jdk_52_method_21_code 41 = .ok (.goto (-38), 3) := by decide +kernel
theorem d2_44 : decode jdk_52_method_21_code 44 = .ok (.iload 4, 2) := by decide +kernel
theorem d2_46 : decode jdk_52_method_21_code 46 = .ok (.ireturn, 1) := by decide +kernel
theorem ef_cmp5a_2 (m : MethodId) (s_ : Addr) (d_ : Addr) : entryFrame m #[(rr s_), (ii 0), (rr d_), (ii 0), (ii 2)] 7 = mkF m 0 #[vr s_, vi 0, vr d_, vi 0, vi 2, u_, u_] [] := by first | (simp [entryFrame, mkF, argsToLocals, Value.category]; done) | rfl
def Q_cmp5a_2 (Z : State) (s_ : Addr) (ks_ : ClassId) (d_ : Addr) (kd_ : ClassId) (c0_ : Int32) (c1_ : Int32) (h0 : Heap) (n0 : Nat) (v : Option Value) (h : Heap) (L : List Loc) : Prop := (v = some (ii 2) ∧ Fr n0 L ∧ Keep h0 h [d_] ∧ Arv Z h d_ kd_ .byte (2 : Int32) [(.int (nar .byte (c0_.toInt8.toInt32))), (.int (nar .byte (c1_.toInt8.toInt32)))] (ii 0) ∧ ¬ ((255 : Int32) < c0_) ∧ ¬ ((255 : Int32) < c1_)) ∨ (v = some (ii 0) ∧ Fr n0 L ∧ Keep h0 h [d_] ∧ (255 : Int32) < c0_) ∨ (v = some (ii 1) ∧ Fr n0 L ∧ Keep h0 h [d_] ∧ (255 : Int32) < c1_)
set_option maxRecDepth 65536 in
set_option maxHeartbeats 40000000 in
theorem rm_cmp5a_2 (l : Launch) (Z : State) (a0 : Array Value) (hw : HW Z a0) (ws : List Jvm.Cond) (s_ : Addr) (ks_ : ClassId) (d_ : Addr) (kd_ : ClassId) (c0_ : Int32) (c1_ : Int32) (h0 : Heap) (n0 : Nat) (O0 : Old Z n0 h0) (A0_ : Arv Z h0 s_ ks_ .char (2 : Int32) [(.int c0_), (.int c1_)] (ii 0)) (A1_ : Arv Z h0 d_ kd_ .byte (2 : Int32) [(ii 0), (ii 0)] (ii 0)) (G2_ : n0 ≤ d_) (NE3_ : s_ ≠ d_) :
  MFP l Z (⟨nm1, "compress", "([CI[BII)I"⟩ : MethodName) jdk_52_method_21_code 7 (some .int) ({ frames := 0, cells := 0, slots := 0, locals := 0 } : Room) ws #[(rr s_), (ii 0), (rr d_), (ii 0), (ii 2)] h0 (Q_cmp5a_2 Z s_ ks_ d_ kd_ c0_ c1_ h0 n0) := by
 refine MetFree.of_bodySF (plainFor_of_name pn_java_lang_StringUTF16) hisR ?_
 intro p e s m args below meth c s₁ Bd hml0 hP hK
 obtain ⟨rfl, hZ, hh⟩ := hP
 have hx := Bd.exec
 have hby := Bd.bytes
 have hml : c.maxLocals = 7 := hml0
 have hown : s.vm.findClass nm1 = some m.cls := findClass_of_methodNamed Bd.named
 have hnm := (name_of_methodNamed Bd.named Bd.method).1
 have X0 : Stand p l e ({ frames := 0, cells := 0, slots := 0, locals := 0 } : Room) s m #[(rr s_), (ii 0), (rr d_), (ii 0), (ii 2)] below meth c s₁ [] 0 0 := Stand.of_body Bd
 have e0 : s₁.heap = h0 := by rw [← hh, Bd.state]; rfl
 have N0 := Fr.nil n0
 have kp0 : Keep h0 h0 [d_] := Keep.refl _ _
 have c0 : ∀ t, S_ p e below s₁ m 0 #[vr s_, vi 0, vr d_, vi 0, vi 2, u_, u_] [] t → Steps p.tables e below (s₁.setTop (entryFrame m #[(rr s_), (ii 0), (rr d_), (ii 0), (ii 2)] 7)) t := fun t k => castTop (ef_cmp5a_2 m s_ d_) k
 generalize s₁.setTop (entryFrame m #[(rr s_), (ii 0), (rr d_), (ii 0), (ii 2)] 7) = st0 at c0 ⊢
 replace c0 : Kt p e below s₁ st0 (mkF m 0 #[vr s_, vi 0, vr d_, vi 0, vi 2, u_, u_] []) := c0
 have c1 : Kt p e below s₁ st0 (mkF m 20 #[vr s_, vi 0, vr d_, vi 0, vi 2, vi 0, vi c0_] [(ii 255), (.int c0_)]) := fun t k => by
  refine c0 t ?_
  show S_ p e below s₁ m 0 #[vr s_, vi 0, vr d_, vi 0, vi 2, u_, u_] [] t
  refine XS.iconst X0.here hx rfl (hb hby d2_0) ?_
  refine XS.istore X0.here hx rfl (hb hby d2_1) rfl (l' := #[vr s_, vi 0, vr d_, vi 0, vi 2, vi 0, u_]) rfl ?_
  refine XS.iload X0.here hx rfl (hb hby d2_3) rfl ?_
  refine XS.iload X0.here hx rfl (hb hby d2_5) rfl ?_
  refine XS.icmpNo X0.here hx rfl (hb hby d2_7) rfl rfl ?_
  refine XS.aloadN X0.here hx rfl (hb hby d2_10) rfl rfl ?_
  refine XS.iloadN X0.here hx rfl (hb hby d2_11) rfl ?_
  refine ldC X0 hx hZ e0 A0_ (v := (.int c0_)) (by decide) (by decide) rfl rfl rfl (hb hby d2_12) ?_
  show S_ p e below s₁ m 13 #[vr s_, vi 0, vr d_, vi 0, vi 2, vi 0, u_] [(.int c0_)] t
  refine XS.istore X0.here hx rfl (hb hby d2_13) rfl (l' := #[vr s_, vi 0, vr d_, vi 0, vi 2, vi 0, vi c0_]) rfl ?_
  refine XS.iload X0.here hx rfl (hb hby d2_15) rfl ?_
  refine XS.sipush X0.here hx rfl (hb hby d2_17) ?_
  exact k
 by_cases hc2 : (255 : Int32) < c0_
 ·obtain ⟨fs, hr, hrun, hended, hW, hsame⟩ := X0.leave (v := some (ii 0)) (fun h => by rw [Bd.returns] at h; cases h)
  refine ⟨_, _, c1 _ ?_, hrun, hended, _, _, rfl, ?_, ⟨_, rfl⟩, hW, hsame.mono (by decide) (by decide)⟩
  ·show S_ p e below s₁ m 20 #[vr s_, vi 0, vr d_, vi 0, vi 2, vi 0, vi c0_] [(ii 255), (.int c0_)] _
   refine XS.icmpNo X0.here hx rfl (hb hby d2_20) rfl (tlt hc2).2.2.2 ?_
   refine XS.iload X0.here hx rfl (hb hby d2_23) rfl ?_
   show S_ p e below s₁ m 25 #[vr s_, vi 0, vr d_, vi 0, vi 2, vi 0, vi c0_] [(ii 0)] _
   exact retOut X0 hx Bd.returns rfl (Or.inl ⟨rfl, Or.inl rfl, _, rfl⟩) (hb hby d2_25) hr
  ·show Q_cmp5a_2 Z s_ ks_ d_ kd_ c0_ c1_ h0 n0 _ s₁.heap _
   rw [e0]
   exact (Or.inr (Or.inl ⟨rfl, N0, kp0, hc2⟩))
 ·have c3 : Kt p e below s₁ st0 (mkF m 31 #[vr s_, vi 0, vr d_, vi 0, vi 2, vi 0, vi c0_] [(.int (c0_.toInt8.toInt32)), (ii 0), (rr d_)]) := fun t k => by
   refine c1 t ?_
   show S_ p e below s₁ m 20 #[vr s_, vi 0, vr d_, vi 0, vi 2, vi 0, vi c0_] [(ii 255), (.int c0_)] t
   refine yC X0.here hx rfl 20 26 rfl (hb hby d2_20) rfl (flt hc2).2.2.2 ?_
   refine XS.aloadN X0.here hx rfl (hb hby d2_26) rfl rfl ?_
   refine XS.iloadN X0.here hx rfl (hb hby d2_27) rfl ?_
   refine XS.iload X0.here hx rfl (hb hby d2_28) rfl ?_
   refine XS.i2b X0.here hx rfl (hb hby d2_30) rfl ?_
   exact k
  obtain ⟨T4, h4, X4, e4, W4, f7, o5, N6, c4⟩ := kstB X0 hx hZ e0 A1_ (j := (0 : Int32)) (by decide) (by decide) 0 rfl (Nat.le_of_ble_eq_true rfl) c3 rfl rfl (hb hby d2_31) O0 N0 G2_
  have f8 : Arv Z h4 d_ kd_ .byte (2 : Int32) [(.int (nar .byte (c0_.toInt8.toInt32))), (ii 0)] (ii 0) := f7
  have kp9 := kp0.wr W4 (Or.inl (List.mem_of_getElem? (i := 0) rfl))
  have c10 : Kt p e below T4 st0 (mkF m 20 #[vr s_, vi 1, vr d_, vi 1, vi 2, vi 1, vi c1_] [(ii 255), (.int c1_)]) := fun t k => by
   refine c4 t ?_
   show S_ p e below T4 m 32 #[vr s_, vi 0, vr d_, vi 0, vi 2, vi 0, vi c0_] [] t
   refine XS.iinc X4.here hx rfl (hb hby d2_32) rfl (l' := #[vr s_, vi 1, vr d_, vi 0, vi 2, vi 0, vi c0_]) rfl ?_
   refine XS.iinc X4.here hx rfl (hb hby d2_35) rfl (l' := #[vr s_, vi 1, vr d_, vi 1, vi 2, vi 0, vi c0_]) rfl ?_
   refine XS.iinc X4.here hx rfl (hb hby d2_38) rfl (l' := #[vr s_, vi 1, vr d_, vi 1, vi 2, vi 1, vi c0_]) rfl ?_
   refine yG X4.here hx rfl 41 3 rfl (hb hby d2_41) ?_
   refine XS.iload X4.here hx rfl (hb hby d2_3) rfl ?_
   refine XS.iload X4.here hx rfl (hb hby d2_5) rfl ?_
   refine XS.icmpNo X4.here hx rfl (hb hby d2_7) rfl rfl ?_
   refine XS.aloadN X4.here hx rfl (hb hby d2_10) rfl rfl ?_
   show S_ p e below T4 m 11 #[vr s_, vi 1, vr d_, vi 1, vi 2, vi 1, vi c0_] [(rr s_)] t
   refine XS.iloadN X4.here hx rfl (hb hby d2_11) rfl ?_
   refine ldC X4 hx hZ e4 (A0_.other W4 NE3_) (v := (.int c1_)) (by decide) (by decide) rfl rfl rfl (hb hby d2_12) ?_
   refine XS.istore X4.here hx rfl (hb hby d2_13) rfl (l' := #[vr s_, vi 1, vr d_, vi 1, vi 2, vi 1, vi c1_]) rfl ?_
   refine XS.iload X4.here hx rfl (hb hby d2_15) rfl ?_
   refine XS.sipush X4.here hx rfl (hb hby d2_17) ?_
   exact k
  by_cases hc11 : (255 : Int32) < c1_
  ·obtain ⟨fs, hr, hrun, hended, hW, hsame⟩ := X4.leave (v := some (ii 1)) (fun h => by rw [Bd.returns] at h; cases h)
   refine ⟨_, _, c10 _ ?_, hrun, hended, _, _, rfl, ?_, ⟨_, rfl⟩, hW, hsame.mono (by decide) (by decide)⟩
   ·show S_ p e below T4 m 20 #[vr s_, vi 1, vr d_, vi 1, vi 2, vi 1, vi c1_] [(ii 255), (.int c1_)] _
    refine XS.icmpNo X4.here hx rfl (hb hby d2_20) rfl (tlt hc11).2.2.2 ?_
    refine XS.iload X4.here hx rfl (hb hby d2_23) rfl ?_
    show S_ p e below T4 m 25 #[vr s_, vi 1, vr d_, vi 1, vi 2, vi 1, vi c1_] [(ii 1)] _
    exact retOut X4 hx Bd.returns rfl (Or.inl ⟨rfl, Or.inl rfl, _, rfl⟩) (hb hby d2_25) hr
   ·show Q_cmp5a_2 Z s_ ks_ d_ kd_ c0_ c1_ h0 n0 _ T4.heap _
    rw [e4]
    exact (Or.inr (Or.inr (⟨rfl, N6, kp9, hc11⟩)))
  ·have c12 : Kt p e below T4 st0 (mkF m 31 #[vr s_, vi 1, vr d_, vi 1, vi 2, vi 1, vi c1_] [(.int (c1_.toInt8.toInt32)), (ii 1), (rr d_)]) := fun t k => by
    refine c10 t ?_
    show S_ p e below T4 m 20 #[vr s_, vi 1, vr d_, vi 1, vi 2, vi 1, vi c1_] [(ii 255), (.int c1_)] t
    refine yC X4.here hx rfl 20 26 rfl (hb hby d2_20) rfl (flt hc11).2.2.2 ?_
    refine XS.aloadN X4.here hx rfl (hb hby d2_26) rfl rfl ?_
    refine XS.iloadN X4.here hx rfl (hb hby d2_27) rfl ?_
    refine XS.iload X4.here hx rfl (hb hby d2_28) rfl ?_
    refine XS.i2b X4.here hx rfl (hb hby d2_30) rfl ?_
    exact k
   obtain ⟨T13, h13, X13, e13, W13, f16, o14, N15, c13⟩ := kstB X4 hx hZ e4 f8 (j := (1 : Int32)) (by decide) (by decide) 1 rfl (Nat.le_of_ble_eq_true rfl) c12 rfl rfl (hb hby d2_31) o5 N6 G2_
   have f17 : Arv Z h13 d_ kd_ .byte (2 : Int32) [(.int (nar .byte (c0_.toInt8.toInt32))), (.int (nar .byte (c1_.toInt8.toInt32)))] (ii 0) := f16
   have kp18 := kp9.wr W13 (Or.inl (List.mem_of_getElem? (i := 0) rfl))
   obtain ⟨fs, hr, hrun, hended, hW, hsame⟩ := X13.leave (v := some (ii 2)) (fun h => by rw [Bd.returns] at h; cases h)
   refine ⟨_, _, c13 _ ?_, hrun, hended, _, _, rfl, ?_, ⟨_, rfl⟩, hW, hsame.mono (by decide) (by decide)⟩
   ·show S_ p e below T13 m 32 #[vr s_, vi 1, vr d_, vi 1, vi 2, vi 1, vi c1_] [] _
    refine XS.iinc X13.here hx rfl (hb hby d2_32) rfl (l' := #[vr s_, vi 2, vr d_, vi 1, vi 2, vi 1, vi c1_]) rfl ?_
    refine XS.iinc X13.here hx rfl (hb hby d2_35) rfl (l' := #[vr s_, vi 2, vr d_, vi 2, vi 2, vi 1, vi c1_]) rfl ?_
    refine XS.iinc X13.here hx rfl (hb hby d2_38) rfl (l' := #[vr s_, vi 2, vr d_, vi 2, vi 2, vi 2, vi c1_]) rfl ?_
    refine yG X13.here hx rfl 41 3 rfl (hb hby d2_41) ?_
    refine XS.iload X13.here hx rfl (hb hby d2_3) rfl ?_
    refine XS.iload X13.here hx rfl (hb hby d2_5) rfl ?_
    refine yC X13.here hx rfl 7 44 rfl (hb hby d2_7) rfl rfl ?_
    refine XS.iload X13.here hx rfl (hb hby d2_44) rfl ?_
    show S_ p e below T13 m 46 #[vr s_, vi 2, vr d_, vi 2, vi 2, vi 2, vi c1_] [(ii 2)] _
    exact retOut X13 hx Bd.returns rfl (Or.inl ⟨rfl, Or.inl rfl, _, rfl⟩) (hb hby d2_46) hr
   ·show Q_cmp5a_2 Z s_ ks_ d_ kd_ c0_ c1_ h0 n0 _ T13.heap _
    rw [e13]
    exact (Or.inl ⟨rfl, N15, kp18, f17, hc2, hc11⟩)
theorem d3_0 : decode jdk_52_method_3_code 0 = .ok (.iload_n 0, 1) := by decide +kernel
theorem d3_1 : decode jdk_52_method_3_code 1 = .ok (.ifCond .ge 11, 3) := by decide +kernel
theorem d3_12 : decode jdk_52_method_3_code 12 = .ok (.iload_n 0, 1) := by decide +kernel
theorem d3_13 : decode jdk_52_method_3_code 13 = .ok (.ldc 20, 2) := by decide +kernel
theorem d3_15 : decode jdk_52_method_3_code 15 = .ok (.if_icmp .lt 40, 3) := by decide +kernel
theorem d3_55 : decode jdk_52_method_3_code 55 = .ok (.iload_n 0, 1) := by decide +kernel
theorem d3_56 : decode jdk_52_method_3_code 56 = .ok (.iconst 1, 1) := by decide +kernel
theorem d3_57 : decode jdk_52_method_3_code 57 = .ok (.ishl, 1) := by decide +kernel
theorem d3_58 : decode jdk_52_method_3_code 58 = .ok (.ireturn, 1) := by decide +kernel
theorem ef_nbl_2 (m : MethodId) : entryFrame m #[(ii 2)] 1 = mkF m 0 #[vi 2] [] := by first | (simp [entryFrame, mkF, argsToLocals, Value.category]; done) | rfl
def Q_nbl_2 (Z : State) (h0 : Heap) (n0 : Nat) (v : Option Value) (h : Heap) (L : List Loc) : Prop := v = some (ii 4) ∧ Fr n0 L ∧ h = h0
set_option maxRecDepth 65536 in
set_option maxHeartbeats 40000000 in
theorem rm_nbl_2 (l : Launch) (Z : State) (a0 : Array Value) (hw : HW Z a0) (ws : List Jvm.Cond) (h0 : Heap) (n0 : Nat) (O0 : Old Z n0 h0) :
  MFP l Z (⟨nm1, "newBytesLength", "(I)I"⟩ : MethodName) jdk_52_method_3_code 1 (some .int) ({ frames := 0, cells := 0, slots := 0, locals := 0 } : Room) ws #[(ii 2)] h0 (Q_nbl_2 Z h0 n0) := by
 refine MetFree.of_bodySF (plainFor_of_name pn_java_lang_StringUTF16) hisR ?_
 intro p e s m args below meth c s₁ Bd hml0 hP hK
 obtain ⟨rfl, hZ, hh⟩ := hP
 have hx := Bd.exec
 have hby := Bd.bytes
 have hml : c.maxLocals = 1 := hml0
 have hown : s.vm.findClass nm1 = some m.cls := findClass_of_methodNamed Bd.named
 have hnm := (name_of_methodNamed Bd.named Bd.method).1
 have X0 : Stand p l e ({ frames := 0, cells := 0, slots := 0, locals := 0 } : Room) s m #[(ii 2)] below meth c s₁ [] 0 0 := Stand.of_body Bd
 have e0 : s₁.heap = h0 := by rw [← hh, Bd.state]; rfl
 have N0 := Fr.nil n0
 have kp0 : Keep h0 h0 [] := Keep.refl _ _
 have c0 : ∀ t, S_ p e below s₁ m 0 #[vi 2] [] t → Steps p.tables e below (s₁.setTop (entryFrame m #[(ii 2)] 1)) t := fun t k => castTop (ef_nbl_2 m) k
 generalize s₁.setTop (entryFrame m #[(ii 2)] 1) = st0 at c0 ⊢
 replace c0 : Kt p e below s₁ st0 (mkF m 0 #[vi 2] []) := c0
 obtain ⟨fs, hr, hrun, hended, hW, hsame⟩ := X0.leave (v := some (ii 4)) (fun h => by rw [Bd.returns] at h; cases h)
 refine ⟨_, _, c0 _ ?_, hrun, hended, _, _, rfl, ?_, ⟨_, rfl⟩, hW, hsame.mono (by decide) (by decide)⟩
 ·show S_ p e below s₁ m 0 #[vi 2] [] _
  refine XS.iloadN X0.here hx rfl (hb hby d3_0) rfl ?_
  refine yI X0.here hx rfl 1 12 rfl (hb hby d3_1) rfl rfl ?_
  refine XS.iloadN X0.here hx rfl (hb hby d3_12) rfl ?_
  show S_ p e below s₁ m 13 #[vi 2] [(ii 2)] _
  refine X0.ldcInt hx hown (mvT hZ (w154 hw)) (g := (mkF m 13 #[vi 2] [(ii 2)])) rfl (hb hby d3_13) _ ?_
  refine yC X0.here hx rfl 15 55 rfl (hb hby d3_15) rfl rfl ?_
  refine XS.iloadN X0.here hx rfl (hb hby d3_55) rfl ?_
  refine XS.iconst X0.here hx rfl (hb hby d3_56) ?_
  refine XS.ishl X0.here hx rfl (hb hby d3_57) rfl ?_
  show S_ p e below s₁ m 58 #[vi 2] [(ii 4)] _
  exact retOut X0 hx Bd.returns rfl (Or.inl ⟨rfl, Or.inl rfl, _, rfl⟩) (hb hby d3_58) hr
 ·show Q_nbl_2 Z h0 n0 _ s₁.heap _
  rw [e0]
  exact ⟨rfl, N0, rfl⟩
theorem d4_0 : decode jdk_52_method_2_code 0 = .ok (.iload_n 0, 1) := by decide +kernel
theorem d4_1 : decode jdk_52_method_2_code 1 = .ok (.invokestatic 11, 3) := by decide +kernel
theorem pd_pIrI : parseMethodDescriptor "(I)I" = some ⟨[.int], some .int⟩ := by decide +kernel
theorem d4_4 : decode jdk_52_method_2_code 4 = .ok (.newarray .byte, 2) := by decide +kernel
theorem d4_6 : decode jdk_52_method_2_code 6 = .ok (.areturn, 1) := by decide +kernel
theorem ef_nbf_2 (m : MethodId) : entryFrame m #[(ii 2)] 1 = mkF m 0 #[vi 2] [] := by first | (simp [entryFrame, mkF, argsToLocals, Value.category]; done) | rfl
def Q_nbf_2 (Z : State) (h0 : Heap) (n0 : Nat) (v : Option Value) (h : Heap) (L : List Loc) : Prop := ∃ (b_ : Addr), ∃ (kb_ : ClassId), v = some (rr b_) ∧ Fr n0 L ∧ Keep h0 h [] ∧ Arv Z h b_ kb_ .byte (4 : Int32) [(ii 0), (ii 0), (ii 0), (ii 0)] (ii 0) ∧ n0 ≤ b_ ∧ h0.size ≤ b_
set_option maxRecDepth 65536 in
set_option maxHeartbeats 40000000 in
theorem rm_nbf_2 (l : Launch) (Z : State) (a0 : Array Value) (hw : HW Z a0) (ws : List Jvm.Cond) (h0 : Heap) (n0 : Nat) (O0 : Old Z n0 h0) :
  MFP l Z (⟨nm1, "newBytesFor", "(I)[B"⟩ : MethodName) jdk_52_method_2_code 1 (some (.array .byte)) ({ frames := 1, cells := 1, slots := 4, locals := 12 } : Room) ws #[(ii 2)] h0 (Q_nbf_2 Z h0 n0) := by
 refine MetFree.of_bodySF (plainFor_of_name pn_java_lang_StringUTF16) hisR ?_
 intro p e s m args below meth c s₁ Bd hml0 hP hK
 obtain ⟨rfl, hZ, hh⟩ := hP
 have hx := Bd.exec
 have hby := Bd.bytes
 have hml : c.maxLocals = 1 := hml0
 have hown : s.vm.findClass nm1 = some m.cls := findClass_of_methodNamed Bd.named
 have hnm := (name_of_methodNamed Bd.named Bd.method).1
 have X0 : Stand p l e ({ frames := 1, cells := 1, slots := 4, locals := 12 } : Room) s m #[(ii 2)] below meth c s₁ [] 0 0 := Stand.of_body Bd
 have e0 : s₁.heap = h0 := by rw [← hh, Bd.state]; rfl
 have N0 := Fr.nil n0
 have kp0 : Keep h0 h0 [] := Keep.refl _ _
 have c0 : ∀ t, S_ p e below s₁ m 0 #[vi 2] [] t → Steps p.tables e below (s₁.setTop (entryFrame m #[(ii 2)] 1)) t := fun t k => castTop (ef_nbf_2 m) k
 generalize s₁.setTop (entryFrame m #[(ii 2)] 1) = st0 at c0 ⊢
 replace c0 : Kt p e below s₁ st0 (mkF m 0 #[vi 2] []) := c0
 have c1 : Kt p e below s₁ st0 (mkF m 1 #[vi 2] [(ii 2)]) := fun t k => by
  refine c0 t ?_
  show S_ p e below s₁ m 0 #[vi 2] [] t
  refine XS.iloadN X0.here hx rfl (hb hby d4_0) rfl ?_
  exact k
 obtain ⟨_, T2, L2, X2, hQ2, c2⟩ := kstat X0 hx hZ hown (w151 hw) (w152 hw) (w127 hw) (w153 hw) (rm_nbl_2 l Z a0 hw []  h0 n0 O0 ) e0 c1 hml pd_pIrI [(ii 2)] [] 0 (hb hby d4_1) rfl rfl rfl rfl rfl rfl
 obtain ⟨rfl, N3q, K4⟩ := hQ2
 have N3 := Fr.app N0 N3q
 obtain ⟨b5, T5, h5, k5, z5, g5, X5, e5, E5, o6, A5, c5⟩ := knewP (aty := .byte) X2 hx hZ (w19 hw) K4 c2 rfl (hb hby d4_4) rfl (by decide) 4 (by decide) (by decide) (by decide) (by decide) O0
 have kp8 := kp0.ext E5
 have z9 := Nat.le_trans kp0.1 z5
 have f7 : Arv Z h5 b5 k5 .byte (4 : Int32) [(ii 0), (ii 0), (ii 0), (ii 0)] (ii 0) := A5.pad (pad_rep [] (ii 0) 4)
 obtain ⟨fs, hr, hrun, hended, hW, hsame⟩ := X5.leave (v := some (rr b5)) (fun h => by rw [Bd.returns] at h; cases h)
 refine ⟨_, _, c5 _ ?_, hrun, hended, _, _, rfl, ?_, ⟨_, rfl⟩, hW, hsame.mono (by decide) (by decide)⟩
 ·show S_ p e below T5 m 6 #[vi 2] [(rr b5)] _
  exact retOut X5 hx Bd.returns rfl (Or.inr (Or.inr (Or.inr (Or.inr ⟨rfl, rfl, rfl⟩)))) (hb hby d4_6) hr
 ·show Q_nbf_2 Z h0 n0 _ T5.heap _
  rw [e5]
  exact ⟨b5, k5, rfl, N3, kp8, f7, g5, z9⟩
theorem d5_0 : decode jdk_52_method_14_code 0 = .ok (.iload_n 2, 1) := by decide +kernel
theorem d5_1 : decode jdk_52_method_14_code 1 = .ok (.invokestatic 107, 3) := by decide +kernel
theorem pd_pIrAB : parseMethodDescriptor "(I)[B" = some ⟨[.int], some (.array .byte)⟩ := by decide +kernel
theorem d5_4 : decode jdk_52_method_14_code 4 = .ok (.astore_n 3, 1) := by decide +kernel
theorem d5_5 : decode jdk_52_method_14_code 5 = .ok (.iconst 0, 1) := by decide +kernel
theorem d5_6 : decode jdk_52_method_14_code 6 = .ok (.istore 4, 2) := by decide +kernel
theorem d5_8 : decode jdk_52_method_14_code 8 = .ok (.iload 4, 2) := by decide +kernel
theorem d5_10 : decode jdk_52_method_14_code 10 = .ok (.iload_n 2, 1) := by decide +kernel
theorem d5_11 : decode jdk_52_method_14_code 11 = .ok (.if_icmp .ge 21, 3) := by decide +kernel
theorem d5_14 : decode jdk_52_method_14_code 14 = .ok (.aload_n 3, 1) := by decide +kernel
theorem d5_15 : decode jdk_52_method_14_code 15 = .ok (.iload 4, 2) := by decide +kernel
theorem d5_17 : decode jdk_52_method_14_code 17 = .ok (.aload_n 0, 1) := by decide +kernel
theorem d5_18 : decode jdk_52_method_14_code 18 = .ok (.iload_n 1, 1) := by decide +kernel
theorem d5_19 : decode jdk_52_method_14_code 19 = .ok (.caload, 1) := by decide +kernel
theorem d5_20 : decode jdk_52_method_14_code 20 = .ok (.invokestatic 111, 3) := by decide +kernel
theorem pd_pABIIrV : parseMethodDescriptor "([BII)V" = some ⟨[(.array .byte), .int, .int], none⟩ := by decide +kernel
theorem d5_23 : decode jdk_52_method_14_code 23 = .ok (.iinc 1 1, 3) := by decide +kernel
theorem d5_26 : decode jdk_52_method_14_code 26 = .ok (.iinc 4 1, 3) := by decide +kernel
theorem d5_29 : decode jdk_52_method_14_code 29 = .ok (.goto (-21), 3) := by decide +kernel
theorem d5_32 : decode jdk_52_method_14_code 32 = .ok (.aload_n 3, 1) := by decide +kernel
theorem d5_33 : decode jdk_52_method_14_code 33 = .ok (.areturn, 1) := by decide +kernel
theorem ef_tob_2 (m : MethodId) (s_ : Addr) : entryFrame m #[(rr s_), (ii 0), (ii 2)] 5 = mkF m 0 #[vr s_, vi 0, vi 2, u_, u_] [] := by first | (simp [entryFrame, mkF, argsToLocals, Value.category]; done) | rfl
def Q_tob_2 (Z : State) (s_ : Addr) (ks_ : ClassId) (c0_ : Int32) (c1_ : Int32) (h0 : Heap) (n0 : Nat) (v : Option Value) (h : Heap) (L : List Loc) : Prop := ∃ (b_ : Addr), ∃ (kb_ : ClassId), v = some (rr b_) ∧ Fr n0 L ∧ Keep h0 h [] ∧ Arv Z h b_ kb_ .byte (4 : Int32) [(.int (nar .byte ((c0_ >>> ((0 : Int32) &&& 31)).toInt8.toInt32))), (.int (nar .byte ((c0_ >>> ((8 : Int32) &&& 31)).toInt8.toInt32))), (.int (nar .byte ((c1_ >>> ((0 : Int32) &&& 31)).toInt8.toInt32))), (.int (nar .byte ((c1_ >>> ((8 : Int32) &&& 31)).toInt8.toInt32)))] (ii 0) ∧ n0 ≤ b_ ∧ h0.size ≤ b_
set_option maxRecDepth 65536 in
set_option maxHeartbeats 40000000 in
theorem rm_tob_2 (l : Launch) (Z : State) (a0 : Array Value) (hw : HW Z a0) (ws : List Jvm.Cond) (s_ : Addr) (ks_ : ClassId) (c0_ : Int32) (c1_ : Int32) (h0 : Heap) (n0 : Nat) (O0 : Old Z n0 h0) (A0_ : Arv Z h0 s_ ks_ .char (2 : Int32) [(.int c0_), (.int c1_)] (ii 0)) (ZS1_ : Sta Z Z.heap nm1 "$assertionsDisabled" "Z" (ii 1)) (ZS2_ : Sta Z Z.heap nm1 "HI_BYTE_SHIFT" "I" (ii 0)) (ZS3_ : Sta Z Z.heap nm1 "LO_BYTE_SHIFT" "I" (ii 8)) :
  MFP l Z (⟨nm1, "toBytes", "([CII)[B"⟩ : MethodName) jdk_52_method_14_code 5 (some (.array .byte)) ({ frames := 2, cells := 1, slots := 4, locals := 24 } : Room) ws #[(rr s_), (ii 0), (ii 2)] h0 (Q_tob_2 Z s_ ks_ c0_ c1_ h0 n0) := by
 refine MetFree.of_bodySF (plainFor_of_name pn_java_lang_StringUTF16) hisR ?_
 intro p e s m args below meth c s₁ Bd hml0 hP hK
 obtain ⟨rfl, hZ, hh⟩ := hP
 have hx := Bd.exec
 have hby := Bd.bytes
 have hml : c.maxLocals = 5 := hml0
 have hown : s.vm.findClass nm1 = some m.cls := findClass_of_methodNamed Bd.named
 have hnm := (name_of_methodNamed Bd.named Bd.method).1
 have X0 : Stand p l e ({ frames := 2, cells := 1, slots := 4, locals := 24 } : Room) s m #[(rr s_), (ii 0), (ii 2)] below meth c s₁ [] 0 0 := Stand.of_body Bd
 have e0 : s₁.heap = h0 := by rw [← hh, Bd.state]; rfl
 have N0 := Fr.nil n0
 have kp0 : Keep h0 h0 [] := Keep.refl _ _
 have c0 : ∀ t, S_ p e below s₁ m 0 #[vr s_, vi 0, vi 2, u_, u_] [] t → Steps p.tables e below (s₁.setTop (entryFrame m #[(rr s_), (ii 0), (ii 2)] 5)) t := fun t k => castTop (ef_tob_2 m s_) k
 generalize s₁.setTop (entryFrame m #[(rr s_), (ii 0), (ii 2)] 5) = st0 at c0 ⊢
 replace c0 : Kt p e below s₁ st0 (mkF m 0 #[vr s_, vi 0, vi 2, u_, u_] []) := c0
 have c1 : Kt p e below s₁ st0 (mkF m 1 #[vr s_, vi 0, vi 2, u_, u_] [(ii 2)]) := fun t k => by
  refine c0 t ?_
  show S_ p e below s₁ m 0 #[vr s_, vi 0, vi 2, u_, u_] [] t
  refine XS.iloadN X0.here hx rfl (hb hby d5_0) rfl ?_
  exact k
 obtain ⟨_, T2, L2, X2, hQ2, c2⟩ := kstat X0 hx hZ hown (w148 hw) (w149 hw) (w127 hw) (w150 hw) (rm_nbf_2 l Z a0 hw []  h0 n0 O0 ) e0 c1 hml pd_pIrAB [(ii 2)] [] 0 (hb hby d5_1) rfl rfl rfl rfl rfl rfl
 obtain ⟨b3, k4, rfl, N5q, K6, p7, p8, p9⟩ := hQ2
 have N5 := Fr.app N0 N5q
 have o10 := O0.keep K6 all0
 have kp11 := kp0.trans K6 all0
 have z12 := Nat.le_trans kp0.1 p9
 have g13 := Nat.le_trans (Nat.le_trans (Nat.le_of_eq O0.1.symm) O0.2.1) p9
 have c14 : Kt p e below T2 st0 (mkF m 20 #[vr s_, vi 0, vi 2, vr b3, vi 0] [(.int c0_), (ii 0), (rr b3)]) := fun t k => by
  refine c2 t ?_
  show S_ p e below T2 m 4 #[vr s_, vi 0, vi 2, u_, u_] [(rr b3)] t
  refine XS.astoreN X2.here hx rfl (hb hby d5_4) rfl rfl (l' := #[vr s_, vi 0, vi 2, vr b3, u_]) rfl ?_
  refine XS.iconst X2.here hx rfl (hb hby d5_5) ?_
  refine XS.istore X2.here hx rfl (hb hby d5_6) rfl (l' := #[vr s_, vi 0, vi 2, vr b3, vi 0]) rfl ?_
  refine XS.iload X2.here hx rfl (hb hby d5_8) rfl ?_
  refine XS.iloadN X2.here hx rfl (hb hby d5_10) rfl ?_
  refine XS.icmpNo X2.here hx rfl (hb hby d5_11) rfl rfl ?_
  refine XS.aloadN X2.here hx rfl (hb hby d5_14) rfl rfl ?_
  refine XS.iload X2.here hx rfl (hb hby d5_15) rfl ?_
  show S_ p e below T2 m 17 #[vr s_, vi 0, vi 2, vr b3, vi 0] [(ii 0), (rr b3)] t
  refine XS.aloadN X2.here hx rfl (hb hby d5_17) rfl rfl ?_
  refine XS.iloadN X2.here hx rfl (hb hby d5_18) rfl ?_
  refine ldC X2 hx hZ rfl (A0_.keep K6 nin0) (v := (.int c0_)) (by decide) (by decide) rfl rfl rfl (hb hby d5_19) ?_
  exact k
 obtain ⟨_, T15, L15, X15, hQ15, c15⟩ := kstat X2 hx hZ hown (w155 hw) (w156 hw) (w127 hw) (w157 hw) (rm_putc l Z a0 hw [] b3 k4 (4 : Int32) [(ii 0), (ii 0), (ii 0), (ii 0)] (0 : Int32) c0_ T2.heap n0 o10 p7 g13 ZS1_ ZS2_ ZS3_ (by decide) (by decide) (by decide) (by decide) (Nat.le_of_ble_eq_true rfl) (Nat.le_of_ble_eq_true rfl)) rfl c14 hml pd_pABIIrV [(rr b3), (ii 0), (.int c0_)] [] 0 (hb hby d5_20) rfl rfl rfl rfl rfl rfl
 obtain ⟨rfl, N16q, K17, p18⟩ := hQ15
 have N16 := Fr.app N5 N16q
 have o19 := o10.keep K17 (allS g13 all0)
 have kp20 := kp11.trans K17 (allS (Or.inr z12) all0)
 have f21 : Arv Z T15.heap b3 k4 .byte (4 : Int32) [(.int (nar .byte ((c0_ >>> ((0 : Int32) &&& 31)).toInt8.toInt32))), (.int (nar .byte ((c0_ >>> ((8 : Int32) &&& 31)).toInt8.toInt32))), (ii 0), (ii 0)] (ii 0) := p18
 have q22 := Nat.ne_of_lt (Nat.lt_of_lt_of_le A0_.lt p9)
 have c23 : Kt p e below T15 st0 (mkF m 20 #[vr s_, vi 1, vi 2, vr b3, vi 1] [(.int c1_), (ii 1), (rr b3)]) := fun t k => by
  refine c15 t ?_
  show S_ p e below T15 m 23 #[vr s_, vi 0, vi 2, vr b3, vi 0] [] t
  refine XS.iinc X15.here hx rfl (hb hby d5_23) rfl (l' := #[vr s_, vi 1, vi 2, vr b3, vi 0]) rfl ?_
  refine XS.iinc X15.here hx rfl (hb hby d5_26) rfl (l' := #[vr s_, vi 1, vi 2, vr b3, vi 1]) rfl ?_
  refine yG X15.here hx rfl 29 8 rfl (hb hby d5_29) ?_
  refine XS.iload X15.here hx rfl (hb hby d5_8) rfl ?_
  refine XS.iloadN X15.here hx rfl (hb hby d5_10) rfl ?_
  refine XS.icmpNo X15.here hx rfl (hb hby d5_11) rfl rfl ?_
  refine XS.aloadN X15.here hx rfl (hb hby d5_14) rfl rfl ?_
  refine XS.iload X15.here hx rfl (hb hby d5_15) rfl ?_
  show S_ p e below T15 m 17 #[vr s_, vi 1, vi 2, vr b3, vi 1] [(ii 1), (rr b3)] t
  refine XS.aloadN X15.here hx rfl (hb hby d5_17) rfl rfl ?_
  refine XS.iloadN X15.here hx rfl (hb hby d5_18) rfl ?_
  refine ldC X15 hx hZ rfl ((A0_.keep K6 nin0).keep K17 (ninS q22 nin0)) (v := (.int c1_)) (by decide) (by decide) rfl rfl rfl (hb hby d5_19) ?_
  exact k
 obtain ⟨_, T24, L24, X24, hQ24, c24⟩ := kstat X15 hx hZ hown (w155 hw) (w156 hw) (w127 hw) (w157 hw) (rm_putc l Z a0 hw [] b3 k4 (4 : Int32) [(.int (nar .byte ((c0_ >>> ((0 : Int32) &&& 31)).toInt8.toInt32))), (.int (nar .byte ((c0_ >>> ((8 : Int32) &&& 31)).toInt8.toInt32))), (ii 0), (ii 0)] (1 : Int32) c1_ T15.heap n0 o19 f21 g13 ZS1_ ZS2_ ZS3_ (by decide) (by decide) (by decide) (by decide) (Nat.le_of_ble_eq_true rfl) (Nat.le_of_ble_eq_true rfl)) rfl c23 hml pd_pABIIrV [(rr b3), (ii 1), (.int c1_)] [] 0 (hb hby d5_20) rfl rfl rfl rfl rfl rfl
 obtain ⟨rfl, N25q, K26, p27⟩ := hQ24
 have N25 := Fr.app N16 N25q
 have o28 := o19.keep K26 (allS g13 all0)
 have kp29 := kp20.trans K26 (allS (Or.inr z12) all0)
 have f30 : Arv Z T24.heap b3 k4 .byte (4 : Int32) [(.int (nar .byte ((c0_ >>> ((0 : Int32) &&& 31)).toInt8.toInt32))), (.int (nar .byte ((c0_ >>> ((8 : Int32) &&& 31)).toInt8.toInt32))), (.int (nar .byte ((c1_ >>> ((0 : Int32) &&& 31)).toInt8.toInt32))), (.int (nar .byte ((c1_ >>> ((8 : Int32) &&& 31)).toInt8.toInt32)))] (ii 0) := p27
 obtain ⟨fs, hr, hrun, hended, hW, hsame⟩ := X24.leave (v := some (rr b3)) (fun h => by rw [Bd.returns] at h; cases h)
 refine ⟨_, _, c24 _ ?_, hrun, hended, _, _, rfl, ?_, ⟨_, rfl⟩, hW, hsame.mono (by decide) (by decide)⟩
 ·show S_ p e below T24 m 23 #[vr s_, vi 1, vi 2, vr b3, vi 1] [] _
  refine XS.iinc X24.here hx rfl (hb hby d5_23) rfl (l' := #[vr s_, vi 2, vi 2, vr b3, vi 1]) rfl ?_
  refine XS.iinc X24.here hx rfl (hb hby d5_26) rfl (l' := #[vr s_, vi 2, vi 2, vr b3, vi 2]) rfl ?_
  refine yG X24.here hx rfl 29 8 rfl (hb hby d5_29) ?_
  refine XS.iload X24.here hx rfl (hb hby d5_8) rfl ?_
  refine XS.iloadN X24.here hx rfl (hb hby d5_10) rfl ?_
  refine yC X24.here hx rfl 11 32 rfl (hb hby d5_11) rfl rfl ?_
  refine XS.aloadN X24.here hx rfl (hb hby d5_32) rfl rfl ?_
  show S_ p e below T24 m 33 #[vr s_, vi 2, vi 2, vr b3, vi 2] [(rr b3)] _
  exact retOut X24 hx Bd.returns rfl (Or.inr (Or.inr (Or.inr (Or.inr ⟨rfl, rfl, rfl⟩)))) (hb hby d5_33) hr
 ·show Q_tob_2 Z s_ ks_ c0_ c1_ h0 n0 _ T24.heap _
  exact ⟨b3, k4, rfl, N25, kp29, f30, g13, z12⟩
theorem d6_0 : decode jdk_52_method_16_code 0 = .ok (.iload_n 2, 1) := by decide +kernel
theorem d6_1 : decode jdk_52_method_16_code 1 = .ok (.newarray .byte, 2) := by decide +kernel
theorem d6_3 : decode jdk_52_method_16_code 3 = .ok (.astore_n 3, 1) := by decide +kernel
theorem d6_4 : decode jdk_52_method_16_code 4 = .ok (.aload_n 0, 1) := by decide +kernel
theorem d6_5 : decode jdk_52_method_16_code 5 = .ok (.iload_n 1, 1) := by decide +kernel
theorem d6_6 : decode jdk_52_method_16_code 6 = .ok (.aload_n 3, 1) := by decide +kernel
theorem d6_7 : decode jdk_52_method_16_code 7 = .ok (.iconst 0, 1) := by decide +kernel
theorem d6_8 : decode jdk_52_method_16_code 8 = .ok (.iload_n 2, 1) := by decide +kernel
theorem d6_9 : decode jdk_52_method_16_code 9 = .ok (.invokestatic 115, 3) := by decide +kernel
theorem pd_pACIABIIrI : parseMethodDescriptor "([CI[BII)I" = some ⟨[(.array .char), .int, (.array .byte), .int, .int], some .int⟩ := by decide +kernel
theorem d6_12 : decode jdk_52_method_16_code 12 = .ok (.istore 4, 2) := by decide +kernel
theorem d6_14 : decode jdk_52_method_16_code 14 = .ok (.iload 4, 2) := by decide +kernel
theorem d6_16 : decode jdk_52_method_16_code 16 = .ok (.iload_n 2, 1) := by decide +kernel
theorem d6_17 : decode jdk_52_method_16_code 17 = .ok (.if_icmp .eq 40, 3) := by decide +kernel
theorem d6_57 : decode jdk_52_method_16_code 57 = .ok (.aload_n 3, 1) := by decide +kernel
theorem d6_58 : decode jdk_52_method_16_code 58 = .ok (.areturn, 1) := by decide +kernel
theorem d6_20 : decode jdk_52_method_16_code 20 = .ok (.aload_n 0, 1) := by decide +kernel
theorem d6_21 : decode jdk_52_method_16_code 21 = .ok (.iload_n 1, 1) := by decide +kernel
theorem d6_22 : decode jdk_52_method_16_code 22 = .ok (.iload_n 2, 1) := by decide +kernel
theorem d6_23 : decode jdk_52_method_16_code 23 = .ok (.invokestatic 119, 3) := by decide +kernel
theorem pd_pACIIrAB : parseMethodDescriptor "([CII)[B" = some ⟨[(.array .char), .int, .int], some (.array .byte)⟩ := by decide +kernel
theorem d6_26 : decode jdk_52_method_16_code 26 = .ok (.astore 5, 2) := by decide +kernel
theorem d6_28 : decode jdk_52_method_16_code 28 = .ok (.aload 5, 2) := by decide +kernel
theorem d6_30 : decode jdk_52_method_16_code 30 = .ok (.iload 4, 2) := by decide +kernel
theorem d6_32 : decode jdk_52_method_16_code 32 = .ok (.invokestatic 71, 3) := by decide +kernel
theorem pd_pABIrC : parseMethodDescriptor "([BI)C" = some ⟨[(.array .byte), .int], some .char⟩ := by decide +kernel
theorem d6_35 : decode jdk_52_method_16_code 35 = .ok (.sipush 255, 3) := by decide +kernel
theorem d6_38 : decode jdk_52_method_16_code 38 = .ok (.if_icmp .gt 16, 3) := by decide +kernel
theorem d6_54 : decode jdk_52_method_16_code 54 = .ok (.aload 5, 2) := by decide +kernel
theorem d6_56 : decode jdk_52_method_16_code 56 = .ok (.areturn, 1) := by decide +kernel
theorem ef_cmp3a_2 (m : MethodId) (s_ : Addr) : entryFrame m #[(rr s_), (ii 0), (ii 2)] 6 = mkF m 0 #[vr s_, vi 0, vi 2, u_, u_, u_] [] := by first | (simp [entryFrame, mkF, argsToLocals, Value.category]; done) | rfl
def Q_cmp3a_2 (Z : State) (s_ : Addr) (ks_ : ClassId) (c0_ : Int32) (c1_ : Int32) (h0 : Heap) (n0 : Nat) (v : Option Value) (h : Heap) (L : List Loc) : Prop := (∃ (b_ : Addr), ∃ (kb_ : ClassId), v = some (rr b_) ∧ Fr n0 L ∧ Keep h0 h [] ∧ Arv Z h b_ kb_ .byte (2 : Int32) [(.int (nar .byte (c0_.toInt8.toInt32))), (.int (nar .byte (c1_.toInt8.toInt32)))] (ii 0) ∧ n0 ≤ b_ ∧ h0.size ≤ b_ ∧ ¬ ((255 : Int32) < c0_) ∧ ¬ ((255 : Int32) < c1_)) ∨ (∃ (b_ : Addr), ∃ (kb_ : ClassId), v = some (rr b_) ∧ Fr n0 L ∧ Keep h0 h [] ∧ Arv Z h b_ kb_ .byte (4 : Int32) [(.int (nar .byte ((c0_ >>> ((0 : Int32) &&& 31)).toInt8.toInt32))), (.int (nar .byte ((c0_ >>> ((8 : Int32) &&& 31)).toInt8.toInt32))), (.int (nar .byte ((c1_ >>> ((0 : Int32) &&& 31)).toInt8.toInt32))), (.int (nar .byte ((c1_ >>> ((8 : Int32) &&& 31)).toInt8.toInt32)))] (ii 0) ∧ n0 ≤ b_ ∧ h0.size ≤ b_)
set_option maxRecDepth 65536 in
set_option maxHeartbeats 40000000 in
theorem rm_cmp3a_2 (l : Launch) (Z : State) (a0 : Array Value) (hw : HW Z a0) (ws : List Jvm.Cond) (s_ : Addr) (ks_ : ClassId) (c0_ : Int32) (c1_ : Int32) (h0 : Heap) (n0 : Nat) (O0 : Old Z n0 h0) (A0_ : Arv Z h0 s_ ks_ .char (2 : Int32) [(.int c0_), (.int c1_)] (ii 0)) (ZS1_ : Sta Z Z.heap nm1 "$assertionsDisabled" "Z" (ii 1)) (ZS2_ : Sta Z Z.heap nm1 "HI_BYTE_SHIFT" "I" (ii 0)) (ZS3_ : Sta Z Z.heap nm1 "LO_BYTE_SHIFT" "I" (ii 8)) (hc0_ : nar .char c0_ = c0_) (hc1_ : nar .char c1_ = c1_) :
  MFP l Z (⟨nm1, "compress", "([CII)[B"⟩ : MethodName) jdk_52_method_16_code 6 (some (.array .byte)) ({ frames := 3, cells := 2, slots := 6, locals := 40 } : Room) ws #[(rr s_), (ii 0), (ii 2)] h0 (Q_cmp3a_2 Z s_ ks_ c0_ c1_ h0 n0) := by
 refine MetFree.of_bodySF (plainFor_of_name pn_java_lang_StringUTF16) hisR ?_
 intro p e s m args below meth c s₁ Bd hml0 hP hK
 obtain ⟨rfl, hZ, hh⟩ := hP
 have hx := Bd.exec
 have hby := Bd.bytes
 have hml : c.maxLocals = 6 := hml0
 have hown : s.vm.findClass nm1 = some m.cls := findClass_of_methodNamed Bd.named
 have hnm := (name_of_methodNamed Bd.named Bd.method).1
 have X0 : Stand p l e ({ frames := 3, cells := 2, slots := 6, locals := 40 } : Room) s m #[(rr s_), (ii 0), (ii 2)] below meth c s₁ [] 0 0 := Stand.of_body Bd
 have e0 : s₁.heap = h0 := by rw [← hh, Bd.state]; rfl
 have N0 := Fr.nil n0
 have kp0 : Keep h0 h0 [] := Keep.refl _ _
 have c0 : ∀ t, S_ p e below s₁ m 0 #[vr s_, vi 0, vi 2, u_, u_, u_] [] t → Steps p.tables e below (s₁.setTop (entryFrame m #[(rr s_), (ii 0), (ii 2)] 6)) t := fun t k => castTop (ef_cmp3a_2 m s_) k
 generalize s₁.setTop (entryFrame m #[(rr s_), (ii 0), (ii 2)] 6) = st0 at c0 ⊢
 replace c0 : Kt p e below s₁ st0 (mkF m 0 #[vr s_, vi 0, vi 2, u_, u_, u_] []) := c0
 have c1 : Kt p e below s₁ st0 (mkF m 1 #[vr s_, vi 0, vi 2, u_, u_, u_] [(ii 2)]) := fun t k => by
  refine c0 t ?_
  show S_ p e below s₁ m 0 #[vr s_, vi 0, vi 2, u_, u_, u_] [] t
  refine XS.iloadN X0.here hx rfl (hb hby d6_0) rfl ?_
  exact k
 obtain ⟨b2, T2, h2, k2, z2, g2, X2, e2, E2, o3, A2, c2⟩ := knewP (aty := .byte) X0 hx hZ (w19 hw) e0 c1 rfl (hb hby d6_1) rfl (by decide) 2 (by decide) (by decide) (by decide) (by decide) O0
 have kp5 := kp0.ext E2
 have z6 := Nat.le_trans kp0.1 z2
 have f4 : Arv Z h2 b2 k2 .byte (2 : Int32) [(ii 0), (ii 0)] (ii 0) := A2.pad (pad_rep [] (ii 0) 2)
 have q7 := Nat.ne_of_lt (Nat.lt_of_lt_of_le A0_.lt z2)
 have c8 : Kt p e below T2 st0 (mkF m 9 #[vr s_, vi 0, vi 2, vr b2, u_, u_] [(ii 2), (ii 0), (rr b2), (ii 0), (rr s_)]) := fun t k => by
  refine c2 t ?_
  show S_ p e below T2 m 3 #[vr s_, vi 0, vi 2, u_, u_, u_] [(rr b2)] t
  refine XS.astoreN X2.here hx rfl (hb hby d6_3) rfl rfl (l' := #[vr s_, vi 0, vi 2, vr b2, u_, u_]) rfl ?_
  refine XS.aloadN X2.here hx rfl (hb hby d6_4) rfl rfl ?_
  refine XS.iloadN X2.here hx rfl (hb hby d6_5) rfl ?_
  refine XS.aloadN X2.here hx rfl (hb hby d6_6) rfl rfl ?_
  refine XS.iconst X2.here hx rfl (hb hby d6_7) ?_
  refine XS.iloadN X2.here hx rfl (hb hby d6_8) rfl ?_
  exact k
 obtain ⟨_, T9, L9, X9, hQ9, c9⟩ := kstat X2 hx hZ hown (w129 hw) (w130 hw) (w127 hw) (w131 hw) (rm_cmp5a_2 l Z a0 hw [] s_ ks_ b2 k2 c0_ c1_ h2 n0 o3 (A0_.ext E2) f4 g2 q7) e2 c8 hml pd_pACIABIIrI [(rr s_), (ii 0), (rr b2), (ii 0), (ii 2)] [] 0 (hb hby d6_9) rfl rfl rfl rfl rfl rfl
 rcases hQ9 with hQ9 | hQ9 | hQ9
 ·obtain ⟨rfl, N10q, K11, p12, p13, p14⟩ := hQ9
  have N10 := Fr.app N0 N10q
  have o15 := o3.keep K11 (allS g2 all0)
  have kp16 := kp5.trans K11 (allS (Or.inr z6) all0)
  obtain ⟨fs, hr, hrun, hended, hW, hsame⟩ := X9.leave (v := some (rr b2)) (fun h => by rw [Bd.returns] at h; cases h)
  refine ⟨_, _, c9 _ ?_, hrun, hended, _, _, rfl, ?_, ⟨_, rfl⟩, hW, hsame.mono (by decide) (by decide)⟩
  ·show S_ p e below T9 m 12 #[vr s_, vi 0, vi 2, vr b2, u_, u_] [(ii 2)] _
   refine XS.istore X9.here hx rfl (hb hby d6_12) rfl (l' := #[vr s_, vi 0, vi 2, vr b2, vi 2, u_]) rfl ?_
   refine XS.iload X9.here hx rfl (hb hby d6_14) rfl ?_
   refine XS.iloadN X9.here hx rfl (hb hby d6_16) rfl ?_
   refine yC X9.here hx rfl 17 57 rfl (hb hby d6_17) rfl rfl ?_
   refine XS.aloadN X9.here hx rfl (hb hby d6_57) rfl rfl ?_
   show S_ p e below T9 m 58 #[vr s_, vi 0, vi 2, vr b2, vi 2, u_] [(rr b2)] _
   exact retOut X9 hx Bd.returns rfl (Or.inr (Or.inr (Or.inr (Or.inr ⟨rfl, rfl, rfl⟩)))) (hb hby d6_58) hr
  ·show Q_cmp3a_2 Z s_ ks_ c0_ c1_ h0 n0 _ T9.heap _
   exact (Or.inl ⟨b2, k2, rfl, N10, kp16, p12, g2, z6, p13, p14⟩)
 ·obtain ⟨rfl, N17q, K18, p19⟩ := hQ9
  have N17 := Fr.app N0 N17q
  have o20 := o3.keep K18 (allS g2 all0)
  have kp21 := kp5.trans K18 (allS (Or.inr z6) all0)
  have c22 : Kt p e below T9 st0 (mkF m 23 #[vr s_, vi 0, vi 2, vr b2, vi 0, u_] [(ii 2), (ii 0), (rr s_)]) := fun t k => by
   refine c9 t ?_
   show S_ p e below T9 m 12 #[vr s_, vi 0, vi 2, vr b2, u_, u_] [(ii 0)] t
   refine XS.istore X9.here hx rfl (hb hby d6_12) rfl (l' := #[vr s_, vi 0, vi 2, vr b2, vi 0, u_]) rfl ?_
   refine XS.iload X9.here hx rfl (hb hby d6_14) rfl ?_
   refine XS.iloadN X9.here hx rfl (hb hby d6_16) rfl ?_
   refine XS.icmpNo X9.here hx rfl (hb hby d6_17) rfl rfl ?_
   refine XS.aloadN X9.here hx rfl (hb hby d6_20) rfl rfl ?_
   refine XS.iloadN X9.here hx rfl (hb hby d6_21) rfl ?_
   refine XS.iloadN X9.here hx rfl (hb hby d6_22) rfl ?_
   exact k
  obtain ⟨_, T23, L23, X23, hQ23, c23⟩ := kstat X9 hx hZ hown (w145 hw) (w146 hw) (w127 hw) (w147 hw) (rm_tob_2 l Z a0 hw [] s_ ks_ c0_ c1_ T9.heap n0 o20 ((A0_.ext E2).keep K18 (ninS q7 nin0)) ZS1_ ZS2_ ZS3_) rfl c22 hml pd_pACIIrAB [(rr s_), (ii 0), (ii 2)] [] 0 (hb hby d6_23) rfl rfl rfl rfl rfl rfl
  obtain ⟨b24, k25, rfl, N26q, K27, p28, p29, p30⟩ := hQ23
  have N26 := Fr.app N17 N26q
  have o31 := o20.keep K27 all0
  have kp32 := kp21.trans K27 all0
  have z33 := Nat.le_trans kp21.1 p30
  have g34 := Nat.le_trans (Nat.le_trans (Nat.le_of_eq o20.1.symm) o20.2.1) p30
  have c35 : Kt p e below T23 st0 (mkF m 32 #[vr s_, vi 0, vi 2, vr b2, vi 0, vr b24] [(ii 0), (rr b24)]) := fun t k => by
   refine c23 t ?_
   show S_ p e below T23 m 26 #[vr s_, vi 0, vi 2, vr b2, vi 0, u_] [(rr b24)] t
   refine XS.astore X23.here hx rfl (hb hby d6_26) rfl rfl (l' := #[vr s_, vi 0, vi 2, vr b2, vi 0, vr b24]) rfl ?_
   refine XS.aload X23.here hx rfl (hb hby d6_28) rfl rfl ?_
   refine XS.iload X23.here hx rfl (hb hby d6_30) rfl ?_
   exact k
  obtain ⟨_, T36, L36, X36, hQ36, c36⟩ := kstat X23 hx hZ hown (w161 hw) (w162 hw) (w127 hw) (w163 hw) (rm_getc l Z a0 hw [] b24 k25 (4 : Int32) [(.int (nar .byte ((c0_ >>> ((0 : Int32) &&& 31)).toInt8.toInt32))), (.int (nar .byte ((c0_ >>> ((8 : Int32) &&& 31)).toInt8.toInt32))), (.int (nar .byte ((c1_ >>> ((0 : Int32) &&& 31)).toInt8.toInt32))), (.int (nar .byte ((c1_ >>> ((8 : Int32) &&& 31)).toInt8.toInt32)))] (0 : Int32) ((nar .byte ((c0_ >>> ((0 : Int32) &&& 31)).toInt8.toInt32))) ((nar .byte ((c0_ >>> ((8 : Int32) &&& 31)).toInt8.toInt32))) c0_ T23.heap n0 o31 p28 ZS1_ ZS2_ ZS3_ (by decide) (by decide) (by decide) (by decide) rfl rfl (own_get16 hc0_)) rfl c35 hml pd_pABIrC [(rr b24), (ii 0)] [] 0 (hb hby d6_32) rfl rfl rfl rfl rfl rfl
  obtain ⟨rfl, N37q, K38⟩ := hQ36
  have N37 := Fr.app N26 N37q
  obtain ⟨fs, hr, hrun, hended, hW, hsame⟩ := X36.leave (v := some (rr b24)) (fun h => by rw [Bd.returns] at h; cases h)
  refine ⟨_, _, c36 _ ?_, hrun, hended, _, _, rfl, ?_, ⟨_, rfl⟩, hW, hsame.mono (by decide) (by decide)⟩
  ·show S_ p e below T36 m 35 #[vr s_, vi 0, vi 2, vr b2, vi 0, vr b24] [(.int c0_)] _
   refine XS.sipush X36.here hx rfl (hb hby d6_35) ?_
   refine yC X36.here hx rfl 38 54 rfl (hb hby d6_38) rfl (tlt p19).2.2.1 ?_
   refine XS.aload X36.here hx rfl (hb hby d6_54) rfl rfl ?_
   show S_ p e below T36 m 56 #[vr s_, vi 0, vi 2, vr b2, vi 0, vr b24] [(rr b24)] _
   exact retOut X36 hx Bd.returns rfl (Or.inr (Or.inr (Or.inr (Or.inr ⟨rfl, rfl, rfl⟩)))) (hb hby d6_56) hr
  ·show Q_cmp3a_2 Z s_ ks_ c0_ c1_ h0 n0 _ T36.heap _
   rw [K38]
   exact (Or.inr (⟨b24, k25, rfl, N37, kp32, p28, g34, z33⟩))
 ·obtain ⟨rfl, N39q, K40, p41⟩ := hQ9
  have N39 := Fr.app N0 N39q
  have o42 := o3.keep K40 (allS g2 all0)
  have kp43 := kp5.trans K40 (allS (Or.inr z6) all0)
  have c44 : Kt p e below T9 st0 (mkF m 23 #[vr s_, vi 0, vi 2, vr b2, vi 1, u_] [(ii 2), (ii 0), (rr s_)]) := fun t k => by
   refine c9 t ?_
   show S_ p e below T9 m 12 #[vr s_, vi 0, vi 2, vr b2, u_, u_] [(ii 1)] t
   refine XS.istore X9.here hx rfl (hb hby d6_12) rfl (l' := #[vr s_, vi 0, vi 2, vr b2, vi 1, u_]) rfl ?_
   refine XS.iload X9.here hx rfl (hb hby d6_14) rfl ?_
   refine XS.iloadN X9.here hx rfl (hb hby d6_16) rfl ?_
   refine XS.icmpNo X9.here hx rfl (hb hby d6_17) rfl rfl ?_
   refine XS.aloadN X9.here hx rfl (hb hby d6_20) rfl rfl ?_
   refine XS.iloadN X9.here hx rfl (hb hby d6_21) rfl ?_
   refine XS.iloadN X9.here hx rfl (hb hby d6_22) rfl ?_
   exact k
  obtain ⟨_, T45, L45, X45, hQ45, c45⟩ := kstat X9 hx hZ hown (w145 hw) (w146 hw) (w127 hw) (w147 hw) (rm_tob_2 l Z a0 hw [] s_ ks_ c0_ c1_ T9.heap n0 o42 ((A0_.ext E2).keep K40 (ninS q7 nin0)) ZS1_ ZS2_ ZS3_) rfl c44 hml pd_pACIIrAB [(rr s_), (ii 0), (ii 2)] [] 0 (hb hby d6_23) rfl rfl rfl rfl rfl rfl
  obtain ⟨b46, k47, rfl, N48q, K49, p50, p51, p52⟩ := hQ45
  have N48 := Fr.app N39 N48q
  have o53 := o42.keep K49 all0
  have kp54 := kp43.trans K49 all0
  have z55 := Nat.le_trans kp43.1 p52
  have g56 := Nat.le_trans (Nat.le_trans (Nat.le_of_eq o42.1.symm) o42.2.1) p52
  have c57 : Kt p e below T45 st0 (mkF m 32 #[vr s_, vi 0, vi 2, vr b2, vi 1, vr b46] [(ii 1), (rr b46)]) := fun t k => by
   refine c45 t ?_
   show S_ p e below T45 m 26 #[vr s_, vi 0, vi 2, vr b2, vi 1, u_] [(rr b46)] t
   refine XS.astore X45.here hx rfl (hb hby d6_26) rfl rfl (l' := #[vr s_, vi 0, vi 2, vr b2, vi 1, vr b46]) rfl ?_
   refine XS.aload X45.here hx rfl (hb hby d6_28) rfl rfl ?_
   refine XS.iload X45.here hx rfl (hb hby d6_30) rfl ?_
   exact k
  obtain ⟨_, T58, L58, X58, hQ58, c58⟩ := kstat X45 hx hZ hown (w161 hw) (w162 hw) (w127 hw) (w163 hw) (rm_getc l Z a0 hw [] b46 k47 (4 : Int32) [(.int (nar .byte ((c0_ >>> ((0 : Int32) &&& 31)).toInt8.toInt32))), (.int (nar .byte ((c0_ >>> ((8 : Int32) &&& 31)).toInt8.toInt32))), (.int (nar .byte ((c1_ >>> ((0 : Int32) &&& 31)).toInt8.toInt32))), (.int (nar .byte ((c1_ >>> ((8 : Int32) &&& 31)).toInt8.toInt32)))] (1 : Int32) ((nar .byte ((c1_ >>> ((0 : Int32) &&& 31)).toInt8.toInt32))) ((nar .byte ((c1_ >>> ((8 : Int32) &&& 31)).toInt8.toInt32))) c1_ T45.heap n0 o53 p50 ZS1_ ZS2_ ZS3_ (by decide) (by decide) (by decide) (by decide) rfl rfl (own_get16 hc1_)) rfl c57 hml pd_pABIrC [(rr b46), (ii 1)] [] 0 (hb hby d6_32) rfl rfl rfl rfl rfl rfl
  obtain ⟨rfl, N59q, K60⟩ := hQ58
  have N59 := Fr.app N48 N59q
  obtain ⟨fs, hr, hrun, hended, hW, hsame⟩ := X58.leave (v := some (rr b46)) (fun h => by rw [Bd.returns] at h; cases h)
  refine ⟨_, _, c58 _ ?_, hrun, hended, _, _, rfl, ?_, ⟨_, rfl⟩, hW, hsame.mono (by decide) (by decide)⟩
  ·show S_ p e below T58 m 35 #[vr s_, vi 0, vi 2, vr b2, vi 1, vr b46] [(.int c1_)] _
   refine XS.sipush X58.here hx rfl (hb hby d6_35) ?_
   refine yC X58.here hx rfl 38 54 rfl (hb hby d6_38) rfl (tlt p41).2.2.1 ?_
   refine XS.aload X58.here hx rfl (hb hby d6_54) rfl rfl ?_
   show S_ p e below T58 m 56 #[vr s_, vi 0, vi 2, vr b2, vi 1, vr b46] [(rr b46)] _
   exact retOut X58 hx Bd.returns rfl (Or.inr (Or.inr (Or.inr (Or.inr ⟨rfl, rfl, rfl⟩)))) (hb hby d6_56) hr
  ·show Q_cmp3a_2 Z s_ ks_ c0_ c1_ h0 n0 _ T58.heap _
   rw [K60]
   exact (Or.inr (⟨b46, k47, rfl, N59, kp54, p50, g56, z55⟩))
theorem d7_0 : decode jdk_52_method_15_code 0 = .ok (.iload_n 1, 1) := by decide +kernel
theorem d7_1 : decode jdk_52_method_15_code 1 = .ok (.aload_n 0, 1) := by decide +kernel
theorem d7_2 : decode jdk_52_method_15_code 2 = .ok (.arraylength, 1) := by decide +kernel
theorem d7_3 : decode jdk_52_method_15_code 3 = .ok (.isub, 1) := by decide +kernel
theorem d7_4 : decode jdk_52_method_15_code 4 = .ok (.bipush 31, 2) := by decide +kernel
theorem d7_6 : decode jdk_52_method_15_code 6 = .ok (.iushr, 1) := by decide +kernel
theorem d7_7 : decode jdk_52_method_15_code 7 = .ok (.i2b, 1) := by decide +kernel
theorem d7_8 : decode jdk_52_method_15_code 8 = .ok (.ireturn, 1) := by decide +kernel
theorem ef_codl_2 (m : MethodId) (s_ : Addr) : entryFrame m #[(rr s_), (ii 2)] 2 = mkF m 0 #[vr s_, vi 2] [] := by first | (simp [entryFrame, mkF, argsToLocals, Value.category]; done) | rfl
def Q_codl_2 (Z : State) (s_ : Addr) (ks_ : ClassId) (vs_ : List Value) (h0 : Heap) (n0 : Nat) (v : Option Value) (h : Heap) (L : List Loc) : Prop := v = some (ii 0) ∧ Fr n0 L ∧ h = h0
set_option maxRecDepth 65536 in
set_option maxHeartbeats 40000000 in
theorem rm_codl_2 (l : Launch) (Z : State) (a0 : Array Value) (hw : HW Z a0) (ws : List Jvm.Cond) (s_ : Addr) (ks_ : ClassId) (vs_ : List Value) (h0 : Heap) (n0 : Nat) (O0 : Old Z n0 h0) (A0_ : Arv Z h0 s_ ks_ .byte (2 : Int32) vs_ (ii 0)) :
  MFP l Z (⟨nm1, "coderFromArrayLen", "([BI)B"⟩ : MethodName) jdk_52_method_15_code 2 (some .byte) ({ frames := 0, cells := 0, slots := 0, locals := 0 } : Room) ws #[(rr s_), (ii 2)] h0 (Q_codl_2 Z s_ ks_ vs_ h0 n0) := by
 refine MetFree.of_bodySF (plainFor_of_name pn_java_lang_StringUTF16) hisR ?_
 intro p e s m args below meth c s₁ Bd hml0 hP hK
 obtain ⟨rfl, hZ, hh⟩ := hP
 have hx := Bd.exec
 have hby := Bd.bytes
 have hml : c.maxLocals = 2 := hml0
 have hown : s.vm.findClass nm1 = some m.cls := findClass_of_methodNamed Bd.named
 have hnm := (name_of_methodNamed Bd.named Bd.method).1
 have X0 : Stand p l e ({ frames := 0, cells := 0, slots := 0, locals := 0 } : Room) s m #[(rr s_), (ii 2)] below meth c s₁ [] 0 0 := Stand.of_body Bd
 have e0 : s₁.heap = h0 := by rw [← hh, Bd.state]; rfl
 have N0 := Fr.nil n0
 have kp0 : Keep h0 h0 [] := Keep.refl _ _
 have c0 : ∀ t, S_ p e below s₁ m 0 #[vr s_, vi 2] [] t → Steps p.tables e below (s₁.setTop (entryFrame m #[(rr s_), (ii 2)] 2)) t := fun t k => castTop (ef_codl_2 m s_) k
 generalize s₁.setTop (entryFrame m #[(rr s_), (ii 2)] 2) = st0 at c0 ⊢
 replace c0 : Kt p e below s₁ st0 (mkF m 0 #[vr s_, vi 2] []) := c0
 obtain ⟨fs, hr, hrun, hended, hW, hsame⟩ := X0.leave (v := some (ii 0)) (fun h => by rw [Bd.returns] at h; cases h)
 refine ⟨_, _, c0 _ ?_, hrun, hended, _, _, rfl, ?_, ⟨_, rfl⟩, hW, hsame.mono (by decide) (by decide)⟩
 ·show S_ p e below s₁ m 0 #[vr s_, vi 2] [] _
  refine XS.iloadN X0.here hx rfl (hb hby d7_0) rfl ?_
  refine XS.aloadN X0.here hx rfl (hb hby d7_1) rfl rfl ?_
  refine ldLen X0 hx hZ e0 A0_ rfl rfl (hb hby d7_2) ?_
  refine XS.isub X0.here hx rfl (hb hby d7_3) rfl ?_
  refine XS.bipush X0.here hx rfl (hb hby d7_4) ?_
  refine XS.iushr X0.here hx rfl (hb hby d7_6) rfl ?_
  refine XS.i2b X0.here hx rfl (hb hby d7_7) rfl ?_
  show S_ p e below s₁ m 8 #[vr s_, vi 2] [(ii 0)] _
  exact retN X0 hx (t := .byte) Bd.returns (by simp) (hb hby d7_8) hr
 ·show Q_codl_2 Z s_ ks_ vs_ h0 n0 _ s₁.heap _
  rw [e0]
  exact ⟨rfl, N0, rfl⟩
theorem ef_codu_2 (m : MethodId) (s_ : Addr) : entryFrame m #[(rr s_), (ii 2)] 2 = mkF m 0 #[vr s_, vi 2] [] := by first | (simp [entryFrame, mkF, argsToLocals, Value.category]; done) | rfl
def Q_codu_2 (Z : State) (s_ : Addr) (ks_ : ClassId) (vs_ : List Value) (h0 : Heap) (n0 : Nat) (v : Option Value) (h : Heap) (L : List Loc) : Prop := v = some (ii 1) ∧ Fr n0 L ∧ h = h0
set_option maxRecDepth 65536 in
set_option maxHeartbeats 40000000 in
theorem rm_codu_2 (l : Launch) (Z : State) (a0 : Array Value) (hw : HW Z a0) (ws : List Jvm.Cond) (s_ : Addr) (ks_ : ClassId) (vs_ : List Value) (h0 : Heap) (n0 : Nat) (O0 : Old Z n0 h0) (A0_ : Arv Z h0 s_ ks_ .byte (4 : Int32) vs_ (ii 0)) :
  MFP l Z (⟨nm1, "coderFromArrayLen", "([BI)B"⟩ : MethodName) jdk_52_method_15_code 2 (some .byte) ({ frames := 0, cells := 0, slots := 0, locals := 0 } : Room) ws #[(rr s_), (ii 2)] h0 (Q_codu_2 Z s_ ks_ vs_ h0 n0) := by
 refine MetFree.of_bodySF (plainFor_of_name pn_java_lang_StringUTF16) hisR ?_
 intro p e s m args below meth c s₁ Bd hml0 hP hK
 obtain ⟨rfl, hZ, hh⟩ := hP
 have hx := Bd.exec
 have hby := Bd.bytes
 have hml : c.maxLocals = 2 := hml0
 have hown : s.vm.findClass nm1 = some m.cls := findClass_of_methodNamed Bd.named
 have hnm := (name_of_methodNamed Bd.named Bd.method).1
 have X0 : Stand p l e ({ frames := 0, cells := 0, slots := 0, locals := 0 } : Room) s m #[(rr s_), (ii 2)] below meth c s₁ [] 0 0 := Stand.of_body Bd
 have e0 : s₁.heap = h0 := by rw [← hh, Bd.state]; rfl
 have N0 := Fr.nil n0
 have kp0 : Keep h0 h0 [] := Keep.refl _ _
 have c0 : ∀ t, S_ p e below s₁ m 0 #[vr s_, vi 2] [] t → Steps p.tables e below (s₁.setTop (entryFrame m #[(rr s_), (ii 2)] 2)) t := fun t k => castTop (ef_codu_2 m s_) k
 generalize s₁.setTop (entryFrame m #[(rr s_), (ii 2)] 2) = st0 at c0 ⊢
 replace c0 : Kt p e below s₁ st0 (mkF m 0 #[vr s_, vi 2] []) := c0
 obtain ⟨fs, hr, hrun, hended, hW, hsame⟩ := X0.leave (v := some (ii 1)) (fun h => by rw [Bd.returns] at h; cases h)
 refine ⟨_, _, c0 _ ?_, hrun, hended, _, _, rfl, ?_, ⟨_, rfl⟩, hW, hsame.mono (by decide) (by decide)⟩
 ·show S_ p e below s₁ m 0 #[vr s_, vi 2] [] _
  refine XS.iloadN X0.here hx rfl (hb hby d7_0) rfl ?_
  refine XS.aloadN X0.here hx rfl (hb hby d7_1) rfl rfl ?_
  refine ldLen X0 hx hZ e0 A0_ rfl rfl (hb hby d7_2) ?_
  refine XS.isub X0.here hx rfl (hb hby d7_3) rfl ?_
  refine XS.bipush X0.here hx rfl (hb hby d7_4) ?_
  refine XS.iushr X0.here hx rfl (hb hby d7_6) rfl ?_
  refine XS.i2b X0.here hx rfl (hb hby d7_7) rfl ?_
  show S_ p e below s₁ m 8 #[vr s_, vi 2] [(ii 1)] _
  exact retN X0 hx (t := .byte) Bd.returns (by simp) (hb hby d7_8) hr
 ·show Q_codu_2 Z s_ ks_ vs_ h0 n0 _ s₁.heap _
  rw [e0]
  exact ⟨rfl, N0, rfl⟩
theorem pn_java_lang_String : plainName nm0 = true := by first | (simp [plainName, overriddenIn]; done) | decide +kernel
theorem d8_0 : decode jdk_42_method_149_code 0 = .ok (.aload_n 0, 1) := by decide +kernel
theorem d8_1 : decode jdk_42_method_149_code 1 = .ok (.invokespecial 1, 3) := by decide +kernel
theorem d8_4 : decode jdk_42_method_149_code 4 = .ok (.iload_n 3, 1) := by decide +kernel
theorem d8_5 : decode jdk_42_method_149_code 5 = .ok (.ifCond .ne 22, 3) := by decide +kernel
theorem d8_27 : decode jdk_42_method_149_code 27 = .ok (.getstatic 38, 3) := by decide +kernel
theorem d8_30 : decode jdk_42_method_149_code 30 = .ok (.ifCond .eq 28, 3) := by decide +kernel
theorem d8_33 : decode jdk_42_method_149_code 33 = .ok (.aload_n 1, 1) := by decide +kernel
theorem d8_34 : decode jdk_42_method_149_code 34 = .ok (.iload_n 2, 1) := by decide +kernel
theorem d8_35 : decode jdk_42_method_149_code 35 = .ok (.iload_n 3, 1) := by decide +kernel
theorem d8_36 : decode jdk_42_method_149_code 36 = .ok (.invokestatic 177, 3) := by decide +kernel
theorem d8_39 : decode jdk_42_method_149_code 39 = .ok (.astore 5, 2) := by decide +kernel
theorem d8_41 : decode jdk_42_method_149_code 41 = .ok (.aload_n 0, 1) := by decide +kernel
theorem d8_42 : decode jdk_42_method_149_code 42 = .ok (.aload 5, 2) := by decide +kernel
theorem d8_44 : decode jdk_42_method_149_code 44 = .ok (.iload_n 3, 1) := by decide +kernel
theorem d8_45 : decode jdk_42_method_149_code 45 = .ok (.invokestatic 47, 3) := by decide +kernel
theorem pd_pABIrB : parseMethodDescriptor "([BI)B" = some ⟨[(.array .byte), .int], some .byte⟩ := by decide +kernel
theorem d8_48 : decode jdk_42_method_149_code 48 = .ok (.putfield 15, 3) := by decide +kernel
theorem d8_51 : decode jdk_42_method_149_code 51 = .ok (.aload_n 0, 1) := by decide +kernel
theorem d8_52 : decode jdk_42_method_149_code 52 = .ok (.aload 5, 2) := by decide +kernel
theorem d8_54 : decode jdk_42_method_149_code 54 = .ok (.putfield 9, 3) := by decide +kernel
theorem d8_57 : decode jdk_42_method_149_code 57 = .ok (.return_, 1) := by decide +kernel
theorem ef_str4a_2 (m : MethodId) (x_ : Addr) (s_ : Addr) : entryFrame m #[(rr x_), (rr s_), (ii 0), (ii 2), .null] 6 = mkF m 0 #[vr x_, vr s_, vi 0, vi 2, .val .null, u_] [] := by first | (simp [entryFrame, mkF, argsToLocals, Value.category]; done) | rfl
def Q_str4a_2 (Z : State) (x_ : Addr) (s_ : Addr) (ks_ : ClassId) (z_ : Int32) (c0_ : Int32) (c1_ : Int32) (h0 : Heap) (n0 : Nat) (v : Option Value) (h : Heap) (L : List Loc) : Prop := (v = none ∧ Fr n0 L ∧ Keep h0 h [x_] ∧ Exa Z h x_ nm0 ∧ Fld Z h x_ nm0 "coder" "B" (ii 0) ∧ ∃ (b_ : Addr), ∃ (kb_ : ClassId), Fld Z h x_ nm0 "value" "[B" (rr b_) ∧ Arv Z h b_ kb_ .byte (2 : Int32) [(.int (nar .byte (c0_.toInt8.toInt32))), (.int (nar .byte (c1_.toInt8.toInt32)))] (ii 0) ∧ n0 ≤ b_ ∧ h0.size ≤ b_ ∧ ¬ ((255 : Int32) < c0_) ∧ ¬ ((255 : Int32) < c1_)) ∨ (v = none ∧ Fr n0 L ∧ Keep h0 h [x_] ∧ Exa Z h x_ nm0 ∧ Fld Z h x_ nm0 "coder" "B" (ii 1) ∧ ∃ (b_ : Addr), ∃ (kb_ : ClassId), Fld Z h x_ nm0 "value" "[B" (rr b_) ∧ Arv Z h b_ kb_ .byte (4 : Int32) [(.int (nar .byte ((c0_ >>> ((0 : Int32) &&& 31)).toInt8.toInt32))), (.int (nar .byte ((c0_ >>> ((8 : Int32) &&& 31)).toInt8.toInt32))), (.int (nar .byte ((c1_ >>> ((0 : Int32) &&& 31)).toInt8.toInt32))), (.int (nar .byte ((c1_ >>> ((8 : Int32) &&& 31)).toInt8.toInt32)))] (ii 0) ∧ n0 ≤ b_ ∧ h0.size ≤ b_)
set_option maxRecDepth 65536 in
set_option maxHeartbeats 40000000 in
theorem rm_str4a_2 (l : Launch) (Z : State) (a0 : Array Value) (hw : HW Z a0) (ws : List Jvm.Cond) (x_ : Addr) (s_ : Addr) (ks_ : ClassId) (z_ : Int32) (c0_ : Int32) (c1_ : Int32) (h0 : Heap) (n0 : Nat) (O0 : Old Z n0 h0) (E0_ : Exa Z h0 x_ nm0) (F1_ : Fld Z h0 x_ nm0 "value" "[B" .null) (F2_ : Fld Z h0 x_ nm0 "coder" "B" (ii 0)) (G3_ : n0 ≤ x_) (A4_ : Arv Z h0 s_ ks_ .char (2 : Int32) [(.int c0_), (.int c1_)] (ii 0)) (ZS5_ : Sta Z Z.heap nm0 "COMPACT_STRINGS" "Z" (.int z_)) (hz_ : ¬ (z_ = (0 : Int32))) (ZS7_ : Sta Z Z.heap nm1 "$assertionsDisabled" "Z" (ii 1)) (ZS8_ : Sta Z Z.heap nm1 "HI_BYTE_SHIFT" "I" (ii 0)) (ZS9_ : Sta Z Z.heap nm1 "LO_BYTE_SHIFT" "I" (ii 8)) (hc0_ : nar .char c0_ = c0_) (hc1_ : nar .char c1_ = c1_) :
  MFP l Z (⟨nm0, "<init>", "([CIILjava/lang/Void;)V"⟩ : MethodName) jdk_42_method_149_code 6 none ({ frames := 4, cells := 2, slots := 6, locals := 57 } : Room) ws #[(rr x_), (rr s_), (ii 0), (ii 2), .null] h0 (Q_str4a_2 Z x_ s_ ks_ z_ c0_ c1_ h0 n0) := by
 refine MetFree.of_bodySF (plainFor_of_name pn_java_lang_String) hisR ?_
 intro p e s m args below meth c s₁ Bd hml0 hP hK
 obtain ⟨rfl, hZ, hh⟩ := hP
 have hx := Bd.exec
 have hby := Bd.bytes
 have hml : c.maxLocals = 6 := hml0
 have hown : s.vm.findClass nm0 = some m.cls := findClass_of_methodNamed Bd.named
 have hnm := (name_of_methodNamed Bd.named Bd.method).1
 have X0 : Stand p l e ({ frames := 4, cells := 2, slots := 6, locals := 57 } : Room) s m #[(rr x_), (rr s_), (ii 0), (ii 2), .null] below meth c s₁ [] 0 0 := Stand.of_body Bd
 have e0 : s₁.heap = h0 := by rw [← hh, Bd.state]; rfl
 have N0 := Fr.nil n0
 have kp0 : Keep h0 h0 [x_] := Keep.refl _ _
 have c0 : ∀ t, S_ p e below s₁ m 0 #[vr x_, vr s_, vi 0, vi 2, .val .null, u_] [] t → Steps p.tables e below (s₁.setTop (entryFrame m #[(rr x_), (rr s_), (ii 0), (ii 2), .null] 6)) t := fun t k => castTop (ef_str4a_2 m x_ s_) k
 generalize s₁.setTop (entryFrame m #[(rr x_), (rr s_), (ii 0), (ii 2), .null] 6) = st0 at c0 ⊢
 replace c0 : Kt p e below s₁ st0 (mkF m 0 #[vr x_, vr s_, vi 0, vi 2, .val .null, u_] []) := c0
 have c1 : Kt p e below s₁ st0 (mkF m 1 #[vr x_, vr s_, vi 0, vi 2, .val .null, u_] [(rr x_)]) := fun t k => by
  refine c0 t ?_
  show S_ p e below s₁ m 0 #[vr x_, vr s_, vi 0, vi 2, .val .null, u_] [] t
  refine XS.aloadN X0.here hx rfl (hb hby d8_0) rfl rfl ?_
  exact k
 obtain ⟨T2, X2, e2, c2⟩ := kinit X0 hx hZ hown (w15 hw) (w16 hw) (w17 hw) e0 c1 rfl hml rfl rfl (hb hby d8_1) 0 (own_w rfl) (by decide) (by decide)
 have c3 : Kt p e below T2 st0 (mkF m 27 #[vr x_, vr s_, vi 0, vi 2, .val .null, u_] []) := fun t k => by
  refine c2 t ?_
  show S_ p e below T2 m 4 #[vr x_, vr s_, vi 0, vi 2, .val .null, u_] [] t
  refine XS.iloadN X2.here hx rfl (hb hby d8_4) rfl ?_
  refine yI X2.here hx rfl 5 27 rfl (hb hby d8_5) rfl rfl ?_
  exact k
 obtain ⟨T4, X4, e4, c4⟩ := kgetS X2 hx hZ hown (host := "") (Or.inl (w46 hw)) Via.refl e2 (ZS5_.ext O0.2) c3 rfl (hb hby d8_27)
 have c5 : Kt p e below T4 st0 (mkF m 36 #[vr x_, vr s_, vi 0, vi 2, .val .null, u_] [(ii 2), (ii 0), (rr s_)]) := fun t k => by
  refine c4 t ?_
  show S_ p e below T4 m 30 #[vr x_, vr s_, vi 0, vi 2, .val .null, u_] [(.int z_)] t
  refine XS.ifNo X4.here hx rfl (hb hby d8_30) rfl ((if0 _ _).trans (feq hz_).1) ?_
  refine XS.aloadN X4.here hx rfl (hb hby d8_33) rfl rfl ?_
  refine XS.iloadN X4.here hx rfl (hb hby d8_34) rfl ?_
  refine XS.iloadN X4.here hx rfl (hb hby d8_35) rfl ?_
  exact k
 obtain ⟨_, T6, L6, X6, hQ6, c6⟩ := kstat X4 hx hZ hown (w125 hw) (w126 hw) (w127 hw) (w128 hw) (rm_cmp3a_2 l Z a0 hw [] s_ ks_ c0_ c1_ h0 n0 O0 A4_ ZS7_ ZS8_ ZS9_ hc0_ hc1_) e4 c5 hml pd_pACIIrAB [(rr s_), (ii 0), (ii 2)] [] 0 (hb hby d8_36) rfl rfl rfl rfl rfl rfl
 rcases hQ6 with hQ6 | hQ6
 ·obtain ⟨b7, k8, rfl, N9q, K10, p11, p12, p13, p14, p15⟩ := hQ6
  have N9 := Fr.app N0 N9q
  have o16 := O0.keep K10 all0
  have kp17 := kp0.trans K10 all0
  have z18 := Nat.le_trans kp0.1 p13
  have g19 := Nat.le_trans (Nat.le_trans (Nat.le_of_eq O0.1.symm) O0.2.1) p13
  have c20 : Kt p e below T6 st0 (mkF m 45 #[vr x_, vr s_, vi 0, vi 2, .val .null, vr b7] [(ii 2), (rr b7), (rr x_)]) := fun t k => by
   refine c6 t ?_
   show S_ p e below T6 m 39 #[vr x_, vr s_, vi 0, vi 2, .val .null, u_] [(rr b7)] t
   refine XS.astore X6.here hx rfl (hb hby d8_39) rfl rfl (l' := #[vr x_, vr s_, vi 0, vi 2, .val .null, vr b7]) rfl ?_
   refine XS.aloadN X6.here hx rfl (hb hby d8_41) rfl rfl ?_
   refine XS.aload X6.here hx rfl (hb hby d8_42) rfl rfl ?_
   refine XS.iloadN X6.here hx rfl (hb hby d8_44) rfl ?_
   exact k
  obtain ⟨_, T21, L21, X21, hQ21, c21⟩ := kstat X6 hx hZ hown (w132 hw) (w133 hw) (w127 hw) (w134 hw) (rm_codl_2 l Z a0 hw [] b7 k8 [(.int (nar .byte (c0_.toInt8.toInt32))), (.int (nar .byte (c1_.toInt8.toInt32)))] T6.heap n0 o16 p11) rfl c20 hml pd_pABIrB [(rr b7), (ii 2)] [(rr x_)] 1 (hb hby d8_45) rfl rfl rfl rfl rfl rfl
  obtain ⟨rfl, N22q, K23⟩ := hQ21
  have N22 := Fr.app N9 N22q
  obtain ⟨T24, h24, X24, e24, W24, f25, o27, N26, c24⟩ := kput X21 hx hZ .byte hown (host := "") (Or.inl (w25 hw)) Via.refl K23 (F2_.keep K10 nin0) (E0_.keep K10) (Or.inr ⟨(w21 hw), rfl, hnm⟩) (w5 hw) c21 rfl rfl (hb hby d8_48) (by decide) rfl rfl o16 N22 G3_
  have kp28 := kp17.wr W24 (Or.inl (List.mem_of_getElem? (i := 0) rfl))
  have f29 := (F1_.keep K10 nin0).other W24 (Or.inr (slot_ne (Or.inr (w20 hw)) (Or.inr (w21 hw)) (by decide) (t := (.array .byte)) (t' := .byte) (by decide) (by decide)))
  have c30 : Kt p e below T24 st0 (mkF m 54 #[vr x_, vr s_, vi 0, vi 2, .val .null, vr b7] [(rr b7), (rr x_)]) := fun t k => by
   refine c24 t ?_
   show S_ p e below T24 m 51 #[vr x_, vr s_, vi 0, vi 2, .val .null, vr b7] [] t
   refine XS.aloadN X24.here hx rfl (hb hby d8_51) rfl rfl ?_
   refine XS.aload X24.here hx rfl (hb hby d8_52) rfl rfl ?_
   exact k
  obtain ⟨T31, h31, X31, e31, W31, f32, o34, N33, c31⟩ := kput X24 hx hZ (.array .byte) hown (host := "") (Or.inl (w24 hw)) Via.refl e24 f29 ((E0_.keep K10).wr W24) (Or.inr ⟨(w20 hw), rfl, hnm⟩) (w5 hw) c30 rfl rfl (hb hby d8_54) (by decide) rfl rfl o27 N26 G3_
  have kp35 := kp28.wr W31 (Or.inl (List.mem_of_getElem? (i := 0) rfl))
  have f36 := f25.other W31 (Or.inr (slot_ne (Or.inr (w21 hw)) (Or.inr (w20 hw)) (by decide) (t := .byte) (t' := (.array .byte)) (by decide) (by decide)))
  have q37 := Ne.symm (Nat.ne_of_lt (Nat.lt_of_lt_of_le E0_.lt p13))
  obtain ⟨fs, hr, hrun, hended, hW, hsame⟩ := X31.leave (v := none) (fun _ => rfl)
  refine ⟨_, _, c31 _ ?_, hrun, hended, _, _, rfl, ?_, ⟨_, rfl⟩, hW, hsame.mono (by decide) (by decide)⟩
  ·show S_ p e below T31 m 57 #[vr x_, vr s_, vi 0, vi 2, .val .null, vr b7] [] _
   exact X31.returnOut hx Bd.returns (hb hby d8_57) hr
  ·show Q_str4a_2 Z x_ s_ ks_ z_ c0_ c1_ h0 n0 _ T31.heap _
   rw [e31]
   exact (Or.inl ⟨rfl, N33, kp35, (((E0_.keep K10).wr W24).wr W31), f36, b7, k8, f32, ((p11.other W24 q37).other W31 q37), g19, z18, p14, p15⟩)
 ·obtain ⟨b38, k39, rfl, N40q, K41, p42, p43, p44⟩ := hQ6
  have N40 := Fr.app N0 N40q
  have o45 := O0.keep K41 all0
  have kp46 := kp0.trans K41 all0
  have z47 := Nat.le_trans kp0.1 p44
  have g48 := Nat.le_trans (Nat.le_trans (Nat.le_of_eq O0.1.symm) O0.2.1) p44
  have c49 : Kt p e below T6 st0 (mkF m 45 #[vr x_, vr s_, vi 0, vi 2, .val .null, vr b38] [(ii 2), (rr b38), (rr x_)]) := fun t k => by
   refine c6 t ?_
   show S_ p e below T6 m 39 #[vr x_, vr s_, vi 0, vi 2, .val .null, u_] [(rr b38)] t
   refine XS.astore X6.here hx rfl (hb hby d8_39) rfl rfl (l' := #[vr x_, vr s_, vi 0, vi 2, .val .null, vr b38]) rfl ?_
   refine XS.aloadN X6.here hx rfl (hb hby d8_41) rfl rfl ?_
   refine XS.aload X6.here hx rfl (hb hby d8_42) rfl rfl ?_
   refine XS.iloadN X6.here hx rfl (hb hby d8_44) rfl ?_
   exact k
  obtain ⟨_, T50, L50, X50, hQ50, c50⟩ := kstat X6 hx hZ hown (w132 hw) (w133 hw) (w127 hw) (w134 hw) (rm_codu_2 l Z a0 hw [] b38 k39 [(.int (nar .byte ((c0_ >>> ((0 : Int32) &&& 31)).toInt8.toInt32))), (.int (nar .byte ((c0_ >>> ((8 : Int32) &&& 31)).toInt8.toInt32))), (.int (nar .byte ((c1_ >>> ((0 : Int32) &&& 31)).toInt8.toInt32))), (.int (nar .byte ((c1_ >>> ((8 : Int32) &&& 31)).toInt8.toInt32)))] T6.heap n0 o45 p42) rfl c49 hml pd_pABIrB [(rr b38), (ii 2)] [(rr x_)] 1 (hb hby d8_45) rfl rfl rfl rfl rfl rfl
  obtain ⟨rfl, N51q, K52⟩ := hQ50
  have N51 := Fr.app N40 N51q
  obtain ⟨T53, h53, X53, e53, W53, f54, o56, N55, c53⟩ := kput X50 hx hZ .byte hown (host := "") (Or.inl (w25 hw)) Via.refl K52 (F2_.keep K41 nin0) (E0_.keep K41) (Or.inr ⟨(w21 hw), rfl, hnm⟩) (w5 hw) c50 rfl rfl (hb hby d8_48) (by decide) rfl rfl o45 N51 G3_
  have kp57 := kp46.wr W53 (Or.inl (List.mem_of_getElem? (i := 0) rfl))
  have f58 := (F1_.keep K41 nin0).other W53 (Or.inr (slot_ne (Or.inr (w20 hw)) (Or.inr (w21 hw)) (by decide) (t := (.array .byte)) (t' := .byte) (by decide) (by decide)))
  have c59 : Kt p e below T53 st0 (mkF m 54 #[vr x_, vr s_, vi 0, vi 2, .val .null, vr b38] [(rr b38), (rr x_)]) := fun t k => by
   refine c53 t ?_
   show S_ p e below T53 m 51 #[vr x_, vr s_, vi 0, vi 2, .val .null, vr b38] [] t
   refine XS.aloadN X53.here hx rfl (hb hby d8_51) rfl rfl ?_
   refine XS.aload X53.here hx rfl (hb hby d8_52) rfl rfl ?_
   exact k
  obtain ⟨T60, h60, X60, e60, W60, f61, o63, N62, c60⟩ := kput X53 hx hZ (.array .byte) hown (host := "") (Or.inl (w24 hw)) Via.refl e53 f58 ((E0_.keep K41).wr W53) (Or.inr ⟨(w20 hw), rfl, hnm⟩) (w5 hw) c59 rfl rfl (hb hby d8_54) (by decide) rfl rfl o56 N55 G3_
  have kp64 := kp57.wr W60 (Or.inl (List.mem_of_getElem? (i := 0) rfl))
  have f65 := f54.other W60 (Or.inr (slot_ne (Or.inr (w21 hw)) (Or.inr (w20 hw)) (by decide) (t := .byte) (t' := (.array .byte)) (by decide) (by decide)))
  have q66 := Ne.symm (Nat.ne_of_lt (Nat.lt_of_lt_of_le E0_.lt p44))
  obtain ⟨fs, hr, hrun, hended, hW, hsame⟩ := X60.leave (v := none) (fun _ => rfl)
  refine ⟨_, _, c60 _ ?_, hrun, hended, _, _, rfl, ?_, ⟨_, rfl⟩, hW, hsame.mono (by decide) (by decide)⟩
  ·show S_ p e below T60 m 57 #[vr x_, vr s_, vi 0, vi 2, .val .null, vr b38] [] _
   exact X60.returnOut hx Bd.returns (hb hby d8_57) hr
  ·show Q_str4a_2 Z x_ s_ ks_ z_ c0_ c1_ h0 n0 _ T60.heap _
   rw [e60]
   exact (Or.inr (⟨rfl, N62, kp64, (((E0_.keep K41).wr W53).wr W60), f65, b38, k39, f61, ((p42.other W53 q66).other W60 q66), g48, z47⟩))
theorem d9_0 : decode jdk_42_method_3_code 0 = .ok (.aload_n 0, 1) := by decide +kernel
theorem d9_1 : decode jdk_42_method_3_code 1 = .ok (.aload_n 1, 1) := by decide +kernel
theorem d9_2 : decode jdk_42_method_3_code 2 = .ok (.iconst 0, 1) := by decide +kernel
theorem d9_3 : decode jdk_42_method_3_code 3 = .ok (.aload_n 1, 1) := by decide +kernel
theorem d9_4 : decode jdk_42_method_3_code 4 = .ok (.arraylength, 1) := by decide +kernel
theorem d9_5 : decode jdk_42_method_3_code 5 = .ok (.aconst_null, 1) := by decide +kernel
theorem d9_6 : decode jdk_42_method_3_code 6 = .ok (.invokespecial 27, 3) := by decide +kernel
theorem pd_pACIILjava_lang_Void_rV : parseMethodDescriptor "([CIILjava/lang/Void;)V" = some ⟨[(.array .char), .int, .int, (.object "java/lang/Void")], none⟩ := by decide +kernel
theorem d9_9 : decode jdk_42_method_3_code 9 = .ok (.return_, 1) := by decide +kernel
theorem ef_str1a_2 (m : MethodId) (x_ : Addr) (s_ : Addr) : entryFrame m #[(rr x_), (rr s_)] 2 = mkF m 0 #[vr x_, vr s_] [] := by first | (simp [entryFrame, mkF, argsToLocals, Value.category]; done) | rfl
def Q_str1a_2 (Z : State) (x_ : Addr) (s_ : Addr) (ks_ : ClassId) (z_ : Int32) (c0_ : Int32) (c1_ : Int32) (h0 : Heap) (n0 : Nat) (v : Option Value) (h : Heap) (L : List Loc) : Prop := (v = none ∧ Fr n0 L ∧ Keep h0 h [x_] ∧ Exa Z h x_ nm0 ∧ Fld Z h x_ nm0 "coder" "B" (ii 0) ∧ ∃ (b_ : Addr), ∃ (kb_ : ClassId), Fld Z h x_ nm0 "value" "[B" (rr b_) ∧ Arv Z h b_ kb_ .byte (2 : Int32) [(.int (nar .byte (c0_.toInt8.toInt32))), (.int (nar .byte (c1_.toInt8.toInt32)))] (ii 0) ∧ n0 ≤ b_ ∧ h0.size ≤ b_ ∧ ¬ ((255 : Int32) < c0_) ∧ ¬ ((255 : Int32) < c1_)) ∨ (v = none ∧ Fr n0 L ∧ Keep h0 h [x_] ∧ Exa Z h x_ nm0 ∧ Fld Z h x_ nm0 "coder" "B" (ii 1) ∧ ∃ (b_ : Addr), ∃ (kb_ : ClassId), Fld Z h x_ nm0 "value" "[B" (rr b_) ∧ Arv Z h b_ kb_ .byte (4 : Int32) [(.int (nar .byte ((c0_ >>> ((0 : Int32) &&& 31)).toInt8.toInt32))), (.int (nar .byte ((c0_ >>> ((8 : Int32) &&& 31)).toInt8.toInt32))), (.int (nar .byte ((c1_ >>> ((0 : Int32) &&& 31)).toInt8.toInt32))), (.int (nar .byte ((c1_ >>> ((8 : Int32) &&& 31)).toInt8.toInt32)))] (ii 0) ∧ n0 ≤ b_ ∧ h0.size ≤ b_)
set_option maxRecDepth 65536 in
set_option maxHeartbeats 40000000 in
theorem rm_str1a_2 (l : Launch) (Z : State) (a0 : Array Value) (hw : HW Z a0) (ws : List Jvm.Cond) (x_ : Addr) (s_ : Addr) (ks_ : ClassId) (z_ : Int32) (c0_ : Int32) (c1_ : Int32) (h0 : Heap) (n0 : Nat) (O0 : Old Z n0 h0) (E0_ : Exa Z h0 x_ nm0) (F1_ : Fld Z h0 x_ nm0 "value" "[B" .null) (F2_ : Fld Z h0 x_ nm0 "coder" "B" (ii 0)) (G3_ : n0 ≤ x_) (A4_ : Arv Z h0 s_ ks_ .char (2 : Int32) [(.int c0_), (.int c1_)] (ii 0)) (ZS5_ : Sta Z Z.heap nm0 "COMPACT_STRINGS" "Z" (.int z_)) (hz_ : ¬ (z_ = (0 : Int32))) (ZS7_ : Sta Z Z.heap nm1 "$assertionsDisabled" "Z" (ii 1)) (ZS8_ : Sta Z Z.heap nm1 "HI_BYTE_SHIFT" "I" (ii 0)) (ZS9_ : Sta Z Z.heap nm1 "LO_BYTE_SHIFT" "I" (ii 8)) (hc0_ : nar .char c0_ = c0_) (hc1_ : nar .char c1_ = c1_) :
  MFP l Z (⟨nm0, "<init>", "([C)V"⟩ : MethodName) jdk_42_method_3_code 2 none ({ frames := 5, cells := 2, slots := 6, locals := 74 } : Room) ws #[(rr x_), (rr s_)] h0 (Q_str1a_2 Z x_ s_ ks_ z_ c0_ c1_ h0 n0) := by
 refine MetFree.of_bodySF (plainFor_of_name pn_java_lang_String) hisR ?_
 intro p e s m args below meth c s₁ Bd hml0 hP hK
 obtain ⟨rfl, hZ, hh⟩ := hP
 have hx := Bd.exec
 have hby := Bd.bytes
 have hml : c.maxLocals = 2 := hml0
 have hown : s.vm.findClass nm0 = some m.cls := findClass_of_methodNamed Bd.named
 have hnm := (name_of_methodNamed Bd.named Bd.method).1
 have X0 : Stand p l e ({ frames := 5, cells := 2, slots := 6, locals := 74 } : Room) s m #[(rr x_), (rr s_)] below meth c s₁ [] 0 0 := Stand.of_body Bd
 have e0 : s₁.heap = h0 := by rw [← hh, Bd.state]; rfl
 have N0 := Fr.nil n0
 have kp0 : Keep h0 h0 [x_] := Keep.refl _ _
 have c0 : ∀ t, S_ p e below s₁ m 0 #[vr x_, vr s_] [] t → Steps p.tables e below (s₁.setTop (entryFrame m #[(rr x_), (rr s_)] 2)) t := fun t k => castTop (ef_str1a_2 m x_ s_) k
 generalize s₁.setTop (entryFrame m #[(rr x_), (rr s_)] 2) = st0 at c0 ⊢
 replace c0 : Kt p e below s₁ st0 (mkF m 0 #[vr x_, vr s_] []) := c0
 have c1 : Kt p e below s₁ st0 (mkF m 6 #[vr x_, vr s_] [.null, (ii 2), (ii 0), (rr s_), (rr x_)]) := fun t k => by
  refine c0 t ?_
  show S_ p e below s₁ m 0 #[vr x_, vr s_] [] t
  refine XS.aloadN X0.here hx rfl (hb hby d9_0) rfl rfl ?_
  refine XS.aloadN X0.here hx rfl (hb hby d9_1) rfl rfl ?_
  refine XS.iconst X0.here hx rfl (hb hby d9_2) ?_
  refine XS.aloadN X0.here hx rfl (hb hby d9_3) rfl rfl ?_
  refine ldLen X0 hx hZ e0 A4_ rfl rfl (hb hby d9_4) ?_
  refine XS.aconstNull X0.here hx rfl (hb hby d9_5) ?_
  exact k
 obtain ⟨_, T2, L2, X2, hQ2, c2⟩ := kspec X0 hx hZ hown (w11 hw) (w12 hw) (w6 hw) (w14 hw) (rm_str4a_2 l Z a0 hw [] x_ s_ ks_ z_ c0_ c1_ h0 n0 O0 E0_ F1_ F2_ G3_ A4_ ZS5_ hz_ ZS7_ ZS8_ ZS9_ hc0_ hc1_) e0 c1 hml pd_pACIILjava_lang_Void_rV x_ [(rr s_), (ii 0), (ii 2), .null] [] 0 (hb hby d9_6) rfl rfl rfl rfl rfl rfl
 rcases hQ2 with hQ2 | hQ2
 ·obtain ⟨rfl, N3q, K4, p5, p6, b7, k8, p9, p10, p11, p12, p13, p14⟩ := hQ2
  have N3 := Fr.app N0 N3q
  have o15 := O0.keep K4 (allS G3_ all0)
  have kp16 := kp0.trans K4 (allS (Or.inl (List.mem_of_getElem? (i := 0) rfl)) all0)
  have z17 := Nat.le_trans kp0.1 p12
  have g18 := Nat.le_trans (Nat.le_trans (Nat.le_of_eq O0.1.symm) O0.2.1) p12
  obtain ⟨fs, hr, hrun, hended, hW, hsame⟩ := X2.leave (v := none) (fun _ => rfl)
  refine ⟨_, _, c2 _ ?_, hrun, hended, _, _, rfl, ?_, ⟨_, rfl⟩, hW, hsame.mono (by decide) (by decide)⟩
  ·show S_ p e below T2 m 9 #[vr x_, vr s_] [] _
   exact X2.returnOut hx Bd.returns (hb hby d9_9) hr
  ·show Q_str1a_2 Z x_ s_ ks_ z_ c0_ c1_ h0 n0 _ T2.heap _
   exact (Or.inl ⟨rfl, N3, kp16, p5, p6, b7, k8, p9, p10, g18, z17, p13, p14⟩)
 ·obtain ⟨rfl, N19q, K20, p21, p22, b23, k24, p25, p26, p27, p28⟩ := hQ2
  have N19 := Fr.app N0 N19q
  have o29 := O0.keep K20 (allS G3_ all0)
  have kp30 := kp0.trans K20 (allS (Or.inl (List.mem_of_getElem? (i := 0) rfl)) all0)
  have z31 := Nat.le_trans kp0.1 p28
  have g32 := Nat.le_trans (Nat.le_trans (Nat.le_of_eq O0.1.symm) O0.2.1) p28
  obtain ⟨fs, hr, hrun, hended, hW, hsame⟩ := X2.leave (v := none) (fun _ => rfl)
  refine ⟨_, _, c2 _ ?_, hrun, hended, _, _, rfl, ?_, ⟨_, rfl⟩, hW, hsame.mono (by decide) (by decide)⟩
  ·show S_ p e below T2 m 9 #[vr x_, vr s_] [] _
   exact X2.returnOut hx Bd.returns (hb hby d9_9) hr
  ·show Q_str1a_2 Z x_ s_ ks_ z_ c0_ c1_ h0 n0 _ T2.heap _
   exact (Or.inr (⟨rfl, N19, kp30, p21, p22, b23, k24, p25, p26, g32, z31⟩))
theorem ef_cmp5a_3 (m : MethodId) (s_ : Addr) (d_ : Addr) : entryFrame m #[(rr s_), (ii 0), (rr d_), (ii 0), (ii 3)] 7 = mkF m 0 #[vr s_, vi 0, vr d_, vi 0, vi 3, u_, u_] [] := by first | (simp [entryFrame, mkF, argsToLocals, Value.category]; done) | rfl
def Q_cmp5a_3 (Z : State) (s_ : Addr) (ks_ : ClassId) (d_ : Addr) (kd_ : ClassId) (c0_ : Int32) (c1_ : Int32) (c2_ : Int32) (h0 : Heap) (n0 : Nat) (v : Option Value) (h : Heap) (L : List Loc) : Prop := (v = some (ii 3) ∧ Fr n0 L ∧ Keep h0 h [d_] ∧ Arv Z h d_ kd_ .byte (3 : Int32) [(.int (nar .byte (c0_.toInt8.toInt32))), (.int (nar .byte (c1_.toInt8.toInt32))), (.int (nar .byte (c2_.toInt8.toInt32)))] (ii 0) ∧ ¬ ((255 : Int32) < c0_) ∧ ¬ ((255 : Int32) < c1_) ∧ ¬ ((255 : Int32) < c2_)) ∨ (v = some (ii 0) ∧ Fr n0 L ∧ Keep h0 h [d_] ∧ (255 : Int32) < c0_) ∨ (v = some (ii 1) ∧ Fr n0 L ∧ Keep h0 h [d_] ∧ (255 : Int32) < c1_) ∨ (v = some (ii 2) ∧ Fr n0 L ∧ Keep h0 h [d_] ∧ (255 : Int32) < c2_)
set_option maxRecDepth 65536 in
set_option maxHeartbeats 40000000 in
theorem rm_cmp5a_3 (l : Launch) (Z : State) (a0 : Array Value) (hw : HW Z a0) (ws : List Jvm.Cond) (s_ : Addr) (ks_ : ClassId) (d_ : Addr) (kd_ : ClassId) (c0_ : Int32) (c1_ : Int32) (c2_ : Int32) (h0 : Heap) (n0 : Nat) (O0 : Old Z n0 h0) (A0_ : Arv Z h0 s_ ks_ .char (3 : Int32) [(.int c0_), (.int c1_), (.int c2_)] (ii 0)) (A1_ : Arv Z h0 d_ kd_ .byte (3 : Int32) [(ii 0), (ii 0), (ii 0)] (ii 0)) (G2_ : n0 ≤ d_) (NE3_ : s_ ≠ d_) :
  MFP l Z (⟨nm1, "compress", "([CI[BII)I"⟩ : MethodName) jdk_52_method_21_code 7 (some .int) ({ frames := 0, cells := 0, slots := 0, locals := 0 } : Room) ws #[(rr s_), (ii 0), (rr d_), (ii 0), (ii 3)] h0 (Q_cmp5a_3 Z s_ ks_ d_ kd_ c0_ c1_ c2_ h0 n0) := by
 refine MetFree.of_bodySF (plainFor_of_name pn_java_lang_StringUTF16) hisR ?_
 intro p e s m args below meth c s₁ Bd hml0 hP hK
 obtain ⟨rfl, hZ, hh⟩ := hP
 have hx := Bd.exec
 have hby := Bd.bytes
 have hml : c.maxLocals = 7 := hml0
 have hown : s.vm.findClass nm1 = some m.cls := findClass_of_methodNamed Bd.named
 have hnm := (name_of_methodNamed Bd.named Bd.method).1
 have X0 : Stand p l e ({ frames := 0, cells := 0, slots := 0, locals := 0 } : Room) s m #[(rr s_), (ii 0), (rr d_), (ii 0), (ii 3)] below meth c s₁ [] 0 0 := Stand.of_body Bd
 have e0 : s₁.heap = h0 := by rw [← hh, Bd.state]; rfl
 have N0 := Fr.nil n0
 have kp0 : Keep h0 h0 [d_] := Keep.refl _ _
 have c0 : ∀ t, S_ p e below s₁ m 0 #[vr s_, vi 0, vr d_, vi 0, vi 3, u_, u_] [] t → Steps p.tables e below (s₁.setTop (entryFrame m #[(rr s_), (ii 0), (rr d_), (ii 0), (ii 3)] 7)) t := fun t k => castTop (ef_cmp5a_3 m s_ d_) k
 generalize s₁.setTop (entryFrame m #[(rr s_), (ii 0), (rr d_), (ii 0), (ii 3)] 7) = st0 at c0 ⊢
 replace c0 : Kt p e below s₁ st0 (mkF m 0 #[vr s_, vi 0, vr d_, vi 0, vi 3, u_, u_] []) := c0
 have c1 : Kt p e below s₁ st0 (mkF m 20 #[vr s_, vi 0, vr d_, vi 0, vi 3, vi 0, vi c0_] [(ii 255), (.int c0_)]) := fun t k => by
  refine c0 t ?_
  show S_ p e below s₁ m 0 #[vr s_, vi 0, vr d_, vi 0, vi 3, u_, u_] [] t
  refine XS.iconst X0.here hx rfl (hb hby d2_0) ?_
  refine XS.istore X0.here hx rfl (hb hby d2_1) rfl (l' := #[vr s_, vi 0, vr d_, vi 0, vi 3, vi 0, u_]) rfl ?_
  refine XS.iload X0.here hx rfl (hb hby d2_3) rfl ?_
  refine XS.iload X0.here hx rfl (hb hby d2_5) rfl ?_
  refine XS.icmpNo X0.here hx rfl (hb hby d2_7) rfl rfl ?_
  refine XS.aloadN X0.here hx rfl (hb hby d2_10) rfl rfl ?_
  refine XS.iloadN X0.here hx rfl (hb hby d2_11) rfl ?_
  refine ldC X0 hx hZ e0 A0_ (v := (.int c0_)) (by decide) (by decide) rfl rfl rfl (hb hby d2_12) ?_
  show S_ p e below s₁ m 13 #[vr s_, vi 0, vr d_, vi 0, vi 3, vi 0, u_] [(.int c0_)] t
  refine XS.istore X0.here hx rfl (hb hby d2_13) rfl (l' := #[vr s_, vi 0, vr d_, vi 0, vi 3, vi 0, vi c0_]) rfl ?_
  refine XS.iload X0.here hx rfl (hb hby d2_15) rfl ?_
  refine XS.sipush X0.here hx rfl (hb hby d2_17) ?_
  exact k
 by_cases hc2 : (255 : Int32) < c0_
 ·obtain ⟨fs, hr, hrun, hended, hW, hsame⟩ := X0.leave (v := some (ii 0)) (fun h => by rw [Bd.returns] at h; cases h)
  refine ⟨_, _, c1 _ ?_, hrun, hended, _, _, rfl, ?_, ⟨_, rfl⟩, hW, hsame.mono (by decide) (by decide)⟩
  ·show S_ p e below s₁ m 20 #[vr s_, vi 0, vr d_, vi 0, vi 3, vi 0, vi c0_] [(ii 255), (.int c0_)] _
   refine XS.icmpNo X0.here hx rfl (hb hby d2_20) rfl (tlt hc2).2.2.2 ?_
   refine XS.iload X0.here hx rfl (hb hby d2_23) rfl ?_
   show S_ p e below s₁ m 25 #[vr s_, vi 0, vr d_, vi 0, vi 3, vi 0, vi c0_] [(ii 0)] _
   exact retOut X0 hx Bd.returns rfl (Or.inl ⟨rfl, Or.inl rfl, _, rfl⟩) (hb hby d2_25) hr
  ·show Q_cmp5a_3 Z s_ ks_ d_ kd_ c0_ c1_ c2_ h0 n0 _ s₁.heap _
   rw [e0]
   exact (Or.inr (Or.inl ⟨rfl, N0, kp0, hc2⟩))
 ·have c3 : Kt p e below s₁ st0 (mkF m 31 #[vr s_, vi 0, vr d_, vi 0, vi 3, vi 0, vi c0_] [(.int (c0_.toInt8.toInt32)), (ii 0), (rr d_)]) := fun t k => by
   refine c1 t ?_
   show S_ p e below s₁ m 20 #[vr s_, vi 0, vr d_, vi 0, vi 3, vi 0, vi c0_] [(ii 255), (.int c0_)] t
   refine yC X0.here hx rfl 20 26 rfl (hb hby d2_20) rfl (flt hc2).2.2.2 ?_
   refine XS.aloadN X0.here hx rfl (hb hby d2_26) rfl rfl ?_
   refine XS.iloadN X0.here hx rfl (hb hby d2_27) rfl ?_
   refine XS.iload X0.here hx rfl (hb hby d2_28) rfl ?_
   refine XS.i2b X0.here hx rfl (hb hby d2_30) rfl ?_
   exact k
  obtain ⟨T4, h4, X4, e4, W4, f7, o5, N6, c4⟩ := kstB X0 hx hZ e0 A1_ (j := (0 : Int32)) (by decide) (by decide) 0 rfl (Nat.le_of_ble_eq_true rfl) c3 rfl rfl (hb hby d2_31) O0 N0 G2_
  have f8 : Arv Z h4 d_ kd_ .byte (3 : Int32) [(.int (nar .byte (c0_.toInt8.toInt32))), (ii 0), (ii 0)] (ii 0) := f7
  have kp9 := kp0.wr W4 (Or.inl (List.mem_of_getElem? (i := 0) rfl))
  have c10 : Kt p e below T4 st0 (mkF m 20 #[vr s_, vi 1, vr d_, vi 1, vi 3, vi 1, vi c1_] [(ii 255), (.int c1_)]) := fun t k => by
   refine c4 t ?_
   show S_ p e below T4 m 32 #[vr s_, vi 0, vr d_, vi 0, vi 3, vi 0, vi c0_] [] t
   refine XS.iinc X4.here hx rfl (hb hby d2_32) rfl (l' := #[vr s_, vi 1, vr d_, vi 0, vi 3, vi 0, vi c0_]) rfl ?_
   refine XS.iinc X4.here hx rfl (hb hby d2_35) rfl (l' := #[vr s_, vi 1, vr d_, vi 1, vi 3, vi 0, vi c0_]) rfl ?_
   refine XS.iinc X4.here hx rfl (hb hby d2_38) rfl (l' := #[vr s_, vi 1, vr d_, vi 1, vi 3, vi 1, vi c0_]) rfl ?_
   refine yG X4.here hx rfl 41 3 rfl (hb hby d2_41) ?_
   refine XS.iload X4.here hx rfl (hb hby d2_3) rfl ?_
   refine XS.iload X4.here hx rfl (hb hby d2_5) rfl ?_
   refine XS.icmpNo X4.here hx rfl (hb hby d2_7) rfl rfl ?_
   refine XS.aloadN X4.here hx rfl (hb hby d2_10) rfl rfl ?_
   show S_ p e below T4 m 11 #[vr s_, vi 1, vr d_, vi 1, vi 3, vi 1, vi c0_] [(rr s_)] t
   refine XS.iloadN X4.here hx rfl (hb hby d2_11) rfl ?_
   refine ldC X4 hx hZ e4 (A0_.other W4 NE3_) (v := (.int c1_)) (by decide) (by decide) rfl rfl rfl (hb hby d2_12) ?_
   refine XS.istore X4.here hx rfl (hb hby d2_13) rfl (l' := #[vr s_, vi 1, vr d_, vi 1, vi 3, vi 1, vi c1_]) rfl ?_
   refine XS.iload X4.here hx rfl (hb hby d2_15) rfl ?_
   refine XS.sipush X4.here hx rfl (hb hby d2_17) ?_
   exact k
  by_cases hc11 : (255 : Int32) < c1_
  ·obtain ⟨fs, hr, hrun, hended, hW, hsame⟩ := X4.leave (v := some (ii 1)) (fun h => by rw [Bd.returns] at h; cases h)
   refine ⟨_, _, c10 _ ?_, hrun, hended, _, _, rfl, ?_, ⟨_, rfl⟩, hW, hsame.mono (by decide) (by decide)⟩
   ·show S_ p e below T4 m 20 #[vr s_, vi 1, vr d_, vi 1, vi 3, vi 1, vi c1_] [(ii 255), (.int c1_)] _
    refine XS.icmpNo X4.here hx rfl (hb hby d2_20) rfl (tlt hc11).2.2.2 ?_
    refine XS.iload X4.here hx rfl (hb hby d2_23) rfl ?_
    show S_ p e below T4 m 25 #[vr s_, vi 1, vr d_, vi 1, vi 3, vi 1, vi c1_] [(ii 1)] _
    exact retOut X4 hx Bd.returns rfl (Or.inl ⟨rfl, Or.inl rfl, _, rfl⟩) (hb hby d2_25) hr
   ·show Q_cmp5a_3 Z s_ ks_ d_ kd_ c0_ c1_ c2_ h0 n0 _ T4.heap _
    rw [e4]
    exact (Or.inr (Or.inr (Or.inl ⟨rfl, N6, kp9, hc11⟩)))
  ·have c12 : Kt p e below T4 st0 (mkF m 31 #[vr s_, vi 1, vr d_, vi 1, vi 3, vi 1, vi c1_] [(.int (c1_.toInt8.toInt32)), (ii 1), (rr d_)]) := fun t k => by
    refine c10 t ?_
    show S_ p e below T4 m 20 #[vr s_, vi 1, vr d_, vi 1, vi 3, vi 1, vi c1_] [(ii 255), (.int c1_)] t
    refine yC X4.here hx rfl 20 26 rfl (hb hby d2_20) rfl (flt hc11).2.2.2 ?_
    refine XS.aloadN X4.here hx rfl (hb hby d2_26) rfl rfl ?_
    refine XS.iloadN X4.here hx rfl (hb hby d2_27) rfl ?_
    refine XS.iload X4.here hx rfl (hb hby d2_28) rfl ?_
    refine XS.i2b X4.here hx rfl (hb hby d2_30) rfl ?_
    exact k
   obtain ⟨T13, h13, X13, e13, W13, f16, o14, N15, c13⟩ := kstB X4 hx hZ e4 f8 (j := (1 : Int32)) (by decide) (by decide) 1 rfl (Nat.le_of_ble_eq_true rfl) c12 rfl rfl (hb hby d2_31) o5 N6 G2_
   have f17 : Arv Z h13 d_ kd_ .byte (3 : Int32) [(.int (nar .byte (c0_.toInt8.toInt32))), (.int (nar .byte (c1_.toInt8.toInt32))), (ii 0)] (ii 0) := f16
   have kp18 := kp9.wr W13 (Or.inl (List.mem_of_getElem? (i := 0) rfl))
   have c19 : Kt p e below T13 st0 (mkF m 20 #[vr s_, vi 2, vr d_, vi 2, vi 3, vi 2, vi c2_] [(ii 255), (.int c2_)]) := fun t k => by
    refine c13 t ?_
    show S_ p e below T13 m 32 #[vr s_, vi 1, vr d_, vi 1, vi 3, vi 1, vi c1_] [] t
    refine XS.iinc X13.here hx rfl (hb hby d2_32) rfl (l' := #[vr s_, vi 2, vr d_, vi 1, vi 3, vi 1, vi c1_]) rfl ?_
    refine XS.iinc X13.here hx rfl (hb hby d2_35) rfl (l' := #[vr s_, vi 2, vr d_, vi 2, vi 3, vi 1, vi c1_]) rfl ?_
    refine XS.iinc X13.here hx rfl (hb hby d2_38) rfl (l' := #[vr s_, vi 2, vr d_, vi 2, vi 3, vi 2, vi c1_]) rfl ?_
    refine yG X13.here hx rfl 41 3 rfl (hb hby d2_41) ?_
    refine XS.iload X13.here hx rfl (hb hby d2_3) rfl ?_
    refine XS.iload X13.here hx rfl (hb hby d2_5) rfl ?_
    refine XS.icmpNo X13.here hx rfl (hb hby d2_7) rfl rfl ?_
    refine XS.aloadN X13.here hx rfl (hb hby d2_10) rfl rfl ?_
    show S_ p e below T13 m 11 #[vr s_, vi 2, vr d_, vi 2, vi 3, vi 2, vi c1_] [(rr s_)] t
    refine XS.iloadN X13.here hx rfl (hb hby d2_11) rfl ?_
    refine ldC X13 hx hZ e13 ((A0_.other W4 NE3_).other W13 NE3_) (v := (.int c2_)) (by decide) (by decide) rfl rfl rfl (hb hby d2_12) ?_
    refine XS.istore X13.here hx rfl (hb hby d2_13) rfl (l' := #[vr s_, vi 2, vr d_, vi 2, vi 3, vi 2, vi c2_]) rfl ?_
    refine XS.iload X13.here hx rfl (hb hby d2_15) rfl ?_
    refine XS.sipush X13.here hx rfl (hb hby d2_17) ?_
    exact k
   by_cases hc20 : (255 : Int32) < c2_
   ·obtain ⟨fs, hr, hrun, hended, hW, hsame⟩ := X13.leave (v := some (ii 2)) (fun h => by rw [Bd.returns] at h; cases h)
    refine ⟨_, _, c19 _ ?_, hrun, hended, _, _, rfl, ?_, ⟨_, rfl⟩, hW, hsame.mono (by decide) (by decide)⟩
    ·show S_ p e below T13 m 20 #[vr s_, vi 2, vr d_, vi 2, vi 3, vi 2, vi c2_] [(ii 255), (.int c2_)] _
     refine XS.icmpNo X13.here hx rfl (hb hby d2_20) rfl (tlt hc20).2.2.2 ?_
     refine XS.iload X13.here hx rfl (hb hby d2_23) rfl ?_
     show S_ p e below T13 m 25 #[vr s_, vi 2, vr d_, vi 2, vi 3, vi 2, vi c2_] [(ii 2)] _
     exact retOut X13 hx Bd.returns rfl (Or.inl ⟨rfl, Or.inl rfl, _, rfl⟩) (hb hby d2_25) hr
    ·show Q_cmp5a_3 Z s_ ks_ d_ kd_ c0_ c1_ c2_ h0 n0 _ T13.heap _
     rw [e13]
     exact (Or.inr (Or.inr (Or.inr (⟨rfl, N15, kp18, hc20⟩))))
   ·have c21 : Kt p e below T13 st0 (mkF m 31 #[vr s_, vi 2, vr d_, vi 2, vi 3, vi 2, vi c2_] [(.int (c2_.toInt8.toInt32)), (ii 2), (rr d_)]) := fun t k => by
     refine c19 t ?_
     show S_ p e below T13 m 20 #[vr s_, vi 2, vr d_, vi 2, vi 3, vi 2, vi c2_] [(ii 255), (.int c2_)] t
     refine yC X13.here hx rfl 20 26 rfl (hb hby d2_20) rfl (flt hc20).2.2.2 ?_
     refine XS.aloadN X13.here hx rfl (hb hby d2_26) rfl rfl ?_
     refine XS.iloadN X13.here hx rfl (hb hby d2_27) rfl ?_
     refine XS.iload X13.here hx rfl (hb hby d2_28) rfl ?_
     refine XS.i2b X13.here hx rfl (hb hby d2_30) rfl ?_
     exact k
    obtain ⟨T22, h22, X22, e22, W22, f25, o23, N24, c22⟩ := kstB X13 hx hZ e13 f17 (j := (2 : Int32)) (by decide) (by decide) 2 rfl (Nat.le_of_ble_eq_true rfl) c21 rfl rfl (hb hby d2_31) o14 N15 G2_
    have f26 : Arv Z h22 d_ kd_ .byte (3 : Int32) [(.int (nar .byte (c0_.toInt8.toInt32))), (.int (nar .byte (c1_.toInt8.toInt32))), (.int (nar .byte (c2_.toInt8.toInt32)))] (ii 0) := f25
    have kp27 := kp18.wr W22 (Or.inl (List.mem_of_getElem? (i := 0) rfl))
    obtain ⟨fs, hr, hrun, hended, hW, hsame⟩ := X22.leave (v := some (ii 3)) (fun h => by rw [Bd.returns] at h; cases h)
    refine ⟨_, _, c22 _ ?_, hrun, hended, _, _, rfl, ?_, ⟨_, rfl⟩, hW, hsame.mono (by decide) (by decide)⟩
    ·show S_ p e below T22 m 32 #[vr s_, vi 2, vr d_, vi 2, vi 3, vi 2, vi c2_] [] _
     refine XS.iinc X22.here hx rfl (hb hby d2_32) rfl (l' := #[vr s_, vi 3, vr d_, vi 2, vi 3, vi 2, vi c2_]) rfl ?_
     refine XS.iinc X22.here hx rfl (hb hby d2_35) rfl (l' := #[vr s_, vi 3, vr d_, vi 3, vi 3, vi 2, vi c2_]) rfl ?_
     refine XS.iinc X22.here hx rfl (hb hby d2_38) rfl (l' := #[vr s_, vi 3, vr d_, vi 3, vi 3, vi 3, vi c2_]) rfl ?_
     refine yG X22.here hx rfl 41 3 rfl (hb hby d2_41) ?_
     refine XS.iload X22.here hx rfl (hb hby d2_3) rfl ?_
     refine XS.iload X22.here hx rfl (hb hby d2_5) rfl ?_
     refine yC X22.here hx rfl 7 44 rfl (hb hby d2_7) rfl rfl ?_
     refine XS.iload X22.here hx rfl (hb hby d2_44) rfl ?_
     show S_ p e below T22 m 46 #[vr s_, vi 3, vr d_, vi 3, vi 3, vi 3, vi c2_] [(ii 3)] _
     exact retOut X22 hx Bd.returns rfl (Or.inl ⟨rfl, Or.inl rfl, _, rfl⟩) (hb hby d2_46) hr
    ·show Q_cmp5a_3 Z s_ ks_ d_ kd_ c0_ c1_ c2_ h0 n0 _ T22.heap _
     rw [e22]
     exact (Or.inl ⟨rfl, N24, kp27, f26, hc2, hc11, hc20⟩)
theorem ef_nbl_3 (m : MethodId) : entryFrame m #[(ii 3)] 1 = mkF m 0 #[vi 3] [] := by first | (simp [entryFrame, mkF, argsToLocals, Value.category]; done) | rfl
def Q_nbl_3 (Z : State) (h0 : Heap) (n0 : Nat) (v : Option Value) (h : Heap) (L : List Loc) : Prop := v = some (ii 6) ∧ Fr n0 L ∧ h = h0
set_option maxRecDepth 65536 in
set_option maxHeartbeats 40000000 in
theorem rm_nbl_3 (l : Launch) (Z : State) (a0 : Array Value) (hw : HW Z a0) (ws : List Jvm.Cond) (h0 : Heap) (n0 : Nat) (O0 : Old Z n0 h0) :
  MFP l Z (⟨nm1, "newBytesLength", "(I)I"⟩ : MethodName) jdk_52_method_3_code 1 (some .int) ({ frames := 0, cells := 0, slots := 0, locals := 0 } : Room) ws #[(ii 3)] h0 (Q_nbl_3 Z h0 n0) := by
 refine MetFree.of_bodySF (plainFor_of_name pn_java_lang_StringUTF16) hisR ?_
 intro p e s m args below meth c s₁ Bd hml0 hP hK
 obtain ⟨rfl, hZ, hh⟩ := hP
 have hx := Bd.exec
 have hby := Bd.bytes
 have hml : c.maxLocals = 1 := hml0
 have hown : s.vm.findClass nm1 = some m.cls := findClass_of_methodNamed Bd.named
 have hnm := (name_of_methodNamed Bd.named Bd.method).1
 have X0 : Stand p l e ({ frames := 0, cells := 0, slots := 0, locals := 0 } : Room) s m #[(ii 3)] below meth c s₁ [] 0 0 := Stand.of_body Bd
 have e0 : s₁.heap = h0 := by rw [← hh, Bd.state]; rfl
 have N0 := Fr.nil n0
 have kp0 : Keep h0 h0 [] := Keep.refl _ _
 have c0 : ∀ t, S_ p e below s₁ m 0 #[vi 3] [] t → Steps p.tables e below (s₁.setTop (entryFrame m #[(ii 3)] 1)) t := fun t k => castTop (ef_nbl_3 m) k
 generalize s₁.setTop (entryFrame m #[(ii 3)] 1) = st0 at c0 ⊢
 replace c0 : Kt p e below s₁ st0 (mkF m 0 #[vi 3] []) := c0
 obtain ⟨fs, hr, hrun, hended, hW, hsame⟩ := X0.leave (v := some (ii 6)) (fun h => by rw [Bd.returns] at h; cases h)
 refine ⟨_, _, c0 _ ?_, hrun, hended, _, _, rfl, ?_, ⟨_, rfl⟩, hW, hsame.mono (by decide) (by decide)⟩
 ·show S_ p e below s₁ m 0 #[vi 3] [] _
  refine XS.iloadN X0.here hx rfl (hb hby d3_0) rfl ?_
  refine yI X0.here hx rfl 1 12 rfl (hb hby d3_1) rfl rfl ?_
  refine XS.iloadN X0.here hx rfl (hb hby d3_12) rfl ?_
  show S_ p e below s₁ m 13 #[vi 3] [(ii 3)] _
  refine X0.ldcInt hx hown (mvT hZ (w154 hw)) (g := (mkF m 13 #[vi 3] [(ii 3)])) rfl (hb hby d3_13) _ ?_
  refine yC X0.here hx rfl 15 55 rfl (hb hby d3_15) rfl rfl ?_
  refine XS.iloadN X0.here hx rfl (hb hby d3_55) rfl ?_
  refine XS.iconst X0.here hx rfl (hb hby d3_56) ?_
  refine XS.ishl X0.here hx rfl (hb hby d3_57) rfl ?_
  show S_ p e below s₁ m 58 #[vi 3] [(ii 6)] _
  exact retOut X0 hx Bd.returns rfl (Or.inl ⟨rfl, Or.inl rfl, _, rfl⟩) (hb hby d3_58) hr
 ·show Q_nbl_3 Z h0 n0 _ s₁.heap _
  rw [e0]
  exact ⟨rfl, N0, rfl⟩
theorem ef_nbf_3 (m : MethodId) : entryFrame m #[(ii 3)] 1 = mkF m 0 #[vi 3] [] := by first | (simp [entryFrame, mkF, argsToLocals, Value.category]; done) | rfl
def Q_nbf_3 (Z : State) (h0 : Heap) (n0 : Nat) (v : Option Value) (h : Heap) (L : List Loc) : Prop := ∃ (b_ : Addr), ∃ (kb_ : ClassId), v = some (rr b_) ∧ Fr n0 L ∧ Keep h0 h [] ∧ Arv Z h b_ kb_ .byte (6 : Int32) [(ii 0), (ii 0), (ii 0), (ii 0), (ii 0), (ii 0)] (ii 0) ∧ n0 ≤ b_ ∧ h0.size ≤ b_
set_option maxRecDepth 65536 in
set_option maxHeartbeats 40000000 in
theorem rm_nbf_3 (l : Launch) (Z : State) (a0 : Array Value) (hw : HW Z a0) (ws : List Jvm.Cond) (h0 : Heap) (n0 : Nat) (O0 : Old Z n0 h0) :
  MFP l Z (⟨nm1, "newBytesFor", "(I)[B"⟩ : MethodName) jdk_52_method_2_code 1 (some (.array .byte)) ({ frames := 1, cells := 1, slots := 6, locals := 12 } : Room) ws #[(ii 3)] h0 (Q_nbf_3 Z h0 n0) := by
 refine MetFree.of_bodySF (plainFor_of_name pn_java_lang_StringUTF16) hisR ?_
 intro p e s m args below meth c s₁ Bd hml0 hP hK
 obtain ⟨rfl, hZ, hh⟩ := hP
 have hx := Bd.exec
 have hby := Bd.bytes
 have hml : c.maxLocals = 1 := hml0
 have hown : s.vm.findClass nm1 = some m.cls := findClass_of_methodNamed Bd.named
 have hnm := (name_of_methodNamed Bd.named Bd.method).1
 have X0 : Stand p l e ({ frames := 1, cells := 1, slots := 6, locals := 12 } : Room) s m #[(ii 3)] below meth c s₁ [] 0 0 := Stand.of_body Bd
 have e0 : s₁.heap = h0 := by rw [← hh, Bd.state]; rfl
 have N0 := Fr.nil n0
 have kp0 : Keep h0 h0 [] := Keep.refl _ _
 have c0 : ∀ t, S_ p e below s₁ m 0 #[vi 3] [] t → Steps p.tables e below (s₁.setTop (entryFrame m #[(ii 3)] 1)) t := fun t k => castTop (ef_nbf_3 m) k
 generalize s₁.setTop (entryFrame m #[(ii 3)] 1) = st0 at c0 ⊢
 replace c0 : Kt p e below s₁ st0 (mkF m 0 #[vi 3] []) := c0
 have c1 : Kt p e below s₁ st0 (mkF m 1 #[vi 3] [(ii 3)]) := fun t k => by
  refine c0 t ?_
  show S_ p e below s₁ m 0 #[vi 3] [] t
  refine XS.iloadN X0.here hx rfl (hb hby d4_0) rfl ?_
  exact k
 obtain ⟨_, T2, L2, X2, hQ2, c2⟩ := kstat X0 hx hZ hown (w151 hw) (w152 hw) (w127 hw) (w153 hw) (rm_nbl_3 l Z a0 hw []  h0 n0 O0 ) e0 c1 hml pd_pIrI [(ii 3)] [] 0 (hb hby d4_1) rfl rfl rfl rfl rfl rfl
 obtain ⟨rfl, N3q, K4⟩ := hQ2
 have N3 := Fr.app N0 N3q
 obtain ⟨b5, T5, h5, k5, z5, g5, X5, e5, E5, o6, A5, c5⟩ := knewP (aty := .byte) X2 hx hZ (w19 hw) K4 c2 rfl (hb hby d4_4) rfl (by decide) 6 (by decide) (by decide) (by decide) (by decide) O0
 have kp8 := kp0.ext E5
 have z9 := Nat.le_trans kp0.1 z5
 have f7 : Arv Z h5 b5 k5 .byte (6 : Int32) [(ii 0), (ii 0), (ii 0), (ii 0), (ii 0), (ii 0)] (ii 0) := A5.pad (pad_rep [] (ii 0) 6)
 obtain ⟨fs, hr, hrun, hended, hW, hsame⟩ := X5.leave (v := some (rr b5)) (fun h => by rw [Bd.returns] at h; cases h)
 refine ⟨_, _, c5 _ ?_, hrun, hended, _, _, rfl, ?_, ⟨_, rfl⟩, hW, hsame.mono (by decide) (by decide)⟩
 ·show S_ p e below T5 m 6 #[vi 3] [(rr b5)] _
  exact retOut X5 hx Bd.returns rfl (Or.inr (Or.inr (Or.inr (Or.inr ⟨rfl, rfl, rfl⟩)))) (hb hby d4_6) hr
 ·show Q_nbf_3 Z h0 n0 _ T5.heap _
  rw [e5]
  exact ⟨b5, k5, rfl, N3, kp8, f7, g5, z9⟩
theorem ef_tob_3 (m : MethodId) (s_ : Addr) : entryFrame m #[(rr s_), (ii 0), (ii 3)] 5 = mkF m 0 #[vr s_, vi 0, vi 3, u_, u_] [] := by first | (simp [entryFrame, mkF, argsToLocals, Value.category]; done) | rfl
def Q_tob_3 (Z : State) (s_ : Addr) (ks_ : ClassId) (c0_ : Int32) (c1_ : Int32) (c2_ : Int32) (h0 : Heap) (n0 : Nat) (v : Option Value) (h : Heap) (L : List Loc) : Prop := ∃ (b_ : Addr), ∃ (kb_ : ClassId), v = some (rr b_) ∧ Fr n0 L ∧ Keep h0 h [] ∧ Arv Z h b_ kb_ .byte (6 : Int32) [(.int (nar .byte ((c0_ >>> ((0 : Int32) &&& 31)).toInt8.toInt32))), (.int (nar .byte ((c0_ >>> ((8 : Int32) &&& 31)).toInt8.toInt32))), (.int (nar .byte ((c1_ >>> ((0 : Int32) &&& 31)).toInt8.toInt32))), (.int (nar .byte ((c1_ >>> ((8 : Int32) &&& 31)).toInt8.toInt32))), (.int (nar .byte ((c2_ >>> ((0 : Int32) &&& 31)).toInt8.toInt32))), (.int (nar .byte ((c2_ >>> ((8 : Int32) &&& 31)).toInt8.toInt32)))] (ii 0) ∧ n0 ≤ b_ ∧ h0.size ≤ b_
set_option maxRecDepth 65536 in
set_option maxHeartbeats 40000000 in
theorem rm_tob_3 (l : Launch) (Z : State) (a0 : Array Value) (hw : HW Z a0) (ws : List Jvm.Cond) (s_ : Addr) (ks_ : ClassId) (c0_ : Int32) (c1_ : Int32) (c2_ : Int32) (h0 : Heap) (n0 : Nat) (O0 : Old Z n0 h0) (A0_ : Arv Z h0 s_ ks_ .char (3 : Int32) [(.int c0_), (.int c1_), (.int c2_)] (ii 0)) (ZS1_ : Sta Z Z.heap nm1 "$assertionsDisabled" "Z" (ii 1)) (ZS2_ : Sta Z Z.heap nm1 "HI_BYTE_SHIFT" "I" (ii 0)) (ZS3_ : Sta Z Z.heap nm1 "LO_BYTE_SHIFT" "I" (ii 8)) :
  MFP l Z (⟨nm1, "toBytes", "([CII)[B"⟩ : MethodName) jdk_52_method_14_code 5 (some (.array .byte)) ({ frames := 2, cells := 1, slots := 6, locals := 24 } : Room) ws #[(rr s_), (ii 0), (ii 3)] h0 (Q_tob_3 Z s_ ks_ c0_ c1_ c2_ h0 n0) := by
 refine MetFree.of_bodySF (plainFor_of_name pn_java_lang_StringUTF16) hisR ?_
 intro p e s m args below meth c s₁ Bd hml0 hP hK
 obtain ⟨rfl, hZ, hh⟩ := hP
 have hx := Bd.exec
 have hby := Bd.bytes
 have hml : c.maxLocals = 5 := hml0
 have hown : s.vm.findClass nm1 = some m.cls := findClass_of_methodNamed Bd.named
 have hnm := (name_of_methodNamed Bd.named Bd.method).1
 have X0 : Stand p l e ({ frames := 2, cells := 1, slots := 6, locals := 24 } : Room) s m #[(rr s_), (ii 0), (ii 3)] below meth c s₁ [] 0 0 := Stand.of_body Bd
 have e0 : s₁.heap = h0 := by rw [← hh, Bd.state]; rfl
 have N0 := Fr.nil n0
 have kp0 : Keep h0 h0 [] := Keep.refl _ _
 have c0 : ∀ t, S_ p e below s₁ m 0 #[vr s_, vi 0, vi 3, u_, u_] [] t → Steps p.tables e below (s₁.setTop (entryFrame m #[(rr s_), (ii 0), (ii 3)] 5)) t := fun t k => castTop (ef_tob_3 m s_) k
 generalize s₁.setTop (entryFrame m #[(rr s_), (ii 0), (ii 3)] 5) = st0 at c0 ⊢
 replace c0 : Kt p e below s₁ st0 (mkF m 0 #[vr s_, vi 0, vi 3, u_, u_] []) := c0
 have c1 : Kt p e below s₁ st0 (mkF m 1 #[vr s_, vi 0, vi 3, u_, u_] [(ii 3)]) := fun t k => by
  refine c0 t ?_
  show S_ p e below s₁ m 0 #[vr s_, vi 0, vi 3, u_, u_] [] t
  refine XS.iloadN X0.here hx rfl (hb hby d5_0) rfl ?_
  exact k
 obtain ⟨_, T2, L2, X2, hQ2, c2⟩ := kstat X0 hx hZ hown (w148 hw) (w149 hw) (w127 hw) (w150 hw) (rm_nbf_3 l Z a0 hw []  h0 n0 O0 ) e0 c1 hml pd_pIrAB [(ii 3)] [] 0 (hb hby d5_1) rfl rfl rfl rfl rfl rfl
 obtain ⟨b3, k4, rfl, N5q, K6, p7, p8, p9⟩ := hQ2
 have N5 := Fr.app N0 N5q
 have o10 := O0.keep K6 all0
 have kp11 := kp0.trans K6 all0
 have z12 := Nat.le_trans kp0.1 p9
 have g13 := Nat.le_trans (Nat.le_trans (Nat.le_of_eq O0.1.symm) O0.2.1) p9
 have c14 : Kt p e below T2 st0 (mkF m 20 #[vr s_, vi 0, vi 3, vr b3, vi 0] [(.int c0_), (ii 0), (rr b3)]) := fun t k => by
  refine c2 t ?_
  show S_ p e below T2 m 4 #[vr s_, vi 0, vi 3, u_, u_] [(rr b3)] t
  refine XS.astoreN X2.here hx rfl (hb hby d5_4) rfl rfl (l' := #[vr s_, vi 0, vi 3, vr b3, u_]) rfl ?_
  refine XS.iconst X2.here hx rfl (hb hby d5_5) ?_
  refine XS.istore X2.here hx rfl (hb hby d5_6) rfl (l' := #[vr s_, vi 0, vi 3, vr b3, vi 0]) rfl ?_
  refine XS.iload X2.here hx rfl (hb hby d5_8) rfl ?_
  refine XS.iloadN X2.here hx rfl (hb hby d5_10) rfl ?_
  refine XS.icmpNo X2.here hx rfl (hb hby d5_11) rfl rfl ?_
  refine XS.aloadN X2.here hx rfl (hb hby d5_14) rfl rfl ?_
  refine XS.iload X2.here hx rfl (hb hby d5_15) rfl ?_
  show S_ p e below T2 m 17 #[vr s_, vi 0, vi 3, vr b3, vi 0] [(ii 0), (rr b3)] t
  refine XS.aloadN X2.here hx rfl (hb hby d5_17) rfl rfl ?_
  refine XS.iloadN X2.here hx rfl (hb hby d5_18) rfl ?_
  refine ldC X2 hx hZ rfl (A0_.keep K6 nin0) (v := (.int c0_)) (by decide) (by decide) rfl rfl rfl (hb hby d5_19) ?_
  exact k
 obtain ⟨_, T15, L15, X15, hQ15, c15⟩ := kstat X2 hx hZ hown (w155 hw) (w156 hw) (w127 hw) (w157 hw) (rm_putc l Z a0 hw [] b3 k4 (6 : Int32) [(ii 0), (ii 0), (ii 0), (ii 0), (ii 0), (ii 0)] (0 : Int32) c0_ T2.heap n0 o10 p7 g13 ZS1_ ZS2_ ZS3_ (by decide) (by decide) (by decide) (by decide) (Nat.le_of_ble_eq_true rfl) (Nat.le_of_ble_eq_true rfl)) rfl c14 hml pd_pABIIrV [(rr b3), (ii 0), (.int c0_)] [] 0 (hb hby d5_20) rfl rfl rfl rfl rfl rfl
 obtain ⟨rfl, N16q, K17, p18⟩ := hQ15
 have N16 := Fr.app N5 N16q
 have o19 := o10.keep K17 (allS g13 all0)
 have kp20 := kp11.trans K17 (allS (Or.inr z12) all0)
 have f21 : Arv Z T15.heap b3 k4 .byte (6 : Int32) [(.int (nar .byte ((c0_ >>> ((0 : Int32) &&& 31)).toInt8.toInt32))), (.int (nar .byte ((c0_ >>> ((8 : Int32) &&& 31)).toInt8.toInt32))), (ii 0), (ii 0), (ii 0), (ii 0)] (ii 0) := p18
 have q22 := Nat.ne_of_lt (Nat.lt_of_lt_of_le A0_.lt p9)
 have c23 : Kt p e below T15 st0 (mkF m 20 #[vr s_, vi 1, vi 3, vr b3, vi 1] [(.int c1_), (ii 1), (rr b3)]) := fun t k => by
  refine c15 t ?_
  show S_ p e below T15 m 23 #[vr s_, vi 0, vi 3, vr b3, vi 0] [] t
  refine XS.iinc X15.here hx rfl (hb hby d5_23) rfl (l' := #[vr s_, vi 1, vi 3, vr b3, vi 0]) rfl ?_
  refine XS.iinc X15.here hx rfl (hb hby d5_26) rfl (l' := #[vr s_, vi 1, vi 3, vr b3, vi 1]) rfl ?_
  refine yG X15.here hx rfl 29 8 rfl (hb hby d5_29) ?_
  refine XS.iload X15.here hx rfl (hb hby d5_8) rfl ?_
  refine XS.iloadN X15.here hx rfl (hb hby d5_10) rfl ?_
  refine XS.icmpNo X15.here hx rfl (hb hby d5_11) rfl rfl ?_
  refine XS.aloadN X15.here hx rfl (hb hby d5_14) rfl rfl ?_
  refine XS.iload X15.here hx rfl (hb hby d5_15) rfl ?_
  show S_ p e below T15 m 17 #[vr s_, vi 1, vi 3, vr b3, vi 1] [(ii 1), (rr b3)] t
  refine XS.aloadN X15.here hx rfl (hb hby d5_17) rfl rfl ?_
  refine XS.iloadN X15.here hx rfl (hb hby d5_18) rfl ?_
  refine ldC X15 hx hZ rfl ((A0_.keep K6 nin0).keep K17 (ninS q22 nin0)) (v := (.int c1_)) (by decide) (by decide) rfl rfl rfl (hb hby d5_19) ?_
  exact k
 obtain ⟨_, T24, L24, X24, hQ24, c24⟩ := kstat X15 hx hZ hown (w155 hw) (w156 hw) (w127 hw) (w157 hw) (rm_putc l Z a0 hw [] b3 k4 (6 : Int32) [(.int (nar .byte ((c0_ >>> ((0 : Int32) &&& 31)).toInt8.toInt32))), (.int (nar .byte ((c0_ >>> ((8 : Int32) &&& 31)).toInt8.toInt32))), (ii 0), (ii 0), (ii 0), (ii 0)] (1 : Int32) c1_ T15.heap n0 o19 f21 g13 ZS1_ ZS2_ ZS3_ (by decide) (by decide) (by decide) (by decide) (Nat.le_of_ble_eq_true rfl) (Nat.le_of_ble_eq_true rfl)) rfl c23 hml pd_pABIIrV [(rr b3), (ii 1), (.int c1_)] [] 0 (hb hby d5_20) rfl rfl rfl rfl rfl rfl
 obtain ⟨rfl, N25q, K26, p27⟩ := hQ24
 have N25 := Fr.app N16 N25q
 have o28 := o19.keep K26 (allS g13 all0)
 have kp29 := kp20.trans K26 (allS (Or.inr z12) all0)
 have f30 : Arv Z T24.heap b3 k4 .byte (6 : Int32) [(.int (nar .byte ((c0_ >>> ((0 : Int32) &&& 31)).toInt8.toInt32))), (.int (nar .byte ((c0_ >>> ((8 : Int32) &&& 31)).toInt8.toInt32))), (.int (nar .byte ((c1_ >>> ((0 : Int32) &&& 31)).toInt8.toInt32))), (.int (nar .byte ((c1_ >>> ((8 : Int32) &&& 31)).toInt8.toInt32))), (ii 0), (ii 0)] (ii 0) := p27
 have c31 : Kt p e below T24 st0 (mkF m 20 #[vr s_, vi 2, vi 3, vr b3, vi 2] [(.int c2_), (ii 2), (rr b3)]) := fun t k => by
  refine c24 t ?_
  show S_ p e below T24 m 23 #[vr s_, vi 1, vi 3, vr b3, vi 1] [] t
  refine XS.iinc X24.here hx rfl (hb hby d5_23) rfl (l' := #[vr s_, vi 2, vi 3, vr b3, vi 1]) rfl ?_
  refine XS.iinc X24.here hx rfl (hb hby d5_26) rfl (l' := #[vr s_, vi 2, vi 3, vr b3, vi 2]) rfl ?_
  refine yG X24.here hx rfl 29 8 rfl (hb hby d5_29) ?_
  refine XS.iload X24.here hx rfl (hb hby d5_8) rfl ?_
  refine XS.iloadN X24.here hx rfl (hb hby d5_10) rfl ?_
  refine XS.icmpNo X24.here hx rfl (hb hby d5_11) rfl rfl ?_
  refine XS.aloadN X24.here hx rfl (hb hby d5_14) rfl rfl ?_
  refine XS.iload X24.here hx rfl (hb hby d5_15) rfl ?_
  show S_ p e below T24 m 17 #[vr s_, vi 2, vi 3, vr b3, vi 2] [(ii 2), (rr b3)] t
  refine XS.aloadN X24.here hx rfl (hb hby d5_17) rfl rfl ?_
  refine XS.iloadN X24.here hx rfl (hb hby d5_18) rfl ?_
  refine ldC X24 hx hZ rfl (((A0_.keep K6 nin0).keep K17 (ninS q22 nin0)).keep K26 (ninS q22 nin0)) (v := (.int c2_)) (by decide) (by decide) rfl rfl rfl (hb hby d5_19) ?_
  exact k
 obtain ⟨_, T32, L32, X32, hQ32, c32⟩ := kstat X24 hx hZ hown (w155 hw) (w156 hw) (w127 hw) (w157 hw) (rm_putc l Z a0 hw [] b3 k4 (6 : Int32) [(.int (nar .byte ((c0_ >>> ((0 : Int32) &&& 31)).toInt8.toInt32))), (.int (nar .byte ((c0_ >>> ((8 : Int32) &&& 31)).toInt8.toInt32))), (.int (nar .byte ((c1_ >>> ((0 : Int32) &&& 31)).toInt8.toInt32))), (.int (nar .byte ((c1_ >>> ((8 : Int32) &&& 31)).toInt8.toInt32))), (ii 0), (ii 0)] (2 : Int32) c2_ T24.heap n0 o28 f30 g13 ZS1_ ZS2_ ZS3_ (by decide) (by decide) (by decide) (by decide) (Nat.le_of_ble_eq_true rfl) (Nat.le_of_ble_eq_true rfl)) rfl c31 hml pd_pABIIrV [(rr b3), (ii 2), (.int c2_)] [] 0 (hb hby d5_20) rfl rfl rfl rfl rfl rfl
 obtain ⟨rfl, N33q, K34, p35⟩ := hQ32
 have N33 := Fr.app N25 N33q
 have o36 := o28.keep K34 (allS g13 all0)
 have kp37 := kp29.trans K34 (allS (Or.inr z12) all0)
 have f38 : Arv Z T32.heap b3 k4 .byte (6 : Int32) [(.int (nar .byte ((c0_ >>> ((0 : Int32) &&& 31)).toInt8.toInt32))), (.int (nar .byte ((c0_ >>> ((8 : Int32) &&& 31)).toInt8.toInt32))), (.int (nar .byte ((c1_ >>> ((0 : Int32) &&& 31)).toInt8.toInt32))), (.int (nar .byte ((c1_ >>> ((8 : Int32) &&& 31)).toInt8.toInt32))), (.int (nar .byte ((c2_ >>> ((0 : Int32) &&& 31)).toInt8.toInt32))), (.int (nar .byte ((c2_ >>> ((8 : Int32) &&& 31)).toInt8.toInt32)))] (ii 0) := p35
 obtain ⟨fs, hr, hrun, hended, hW, hsame⟩ := X32.leave (v := some (rr b3)) (fun h => by rw [Bd.returns] at h; cases h)
 refine ⟨_, _, c32 _ ?_, hrun, hended, _, _, rfl, ?_, ⟨_, rfl⟩, hW, hsame.mono (by decide) (by decide)⟩
 ·show S_ p e below T32 m 23 #[vr s_, vi 2, vi 3, vr b3, vi 2] [] _
  refine XS.iinc X32.here hx rfl (hb hby d5_23) rfl (l' := #[vr s_, vi 3, vi 3, vr b3, vi 2]) rfl ?_
  refine XS.iinc X32.here hx rfl (hb hby d5_26) rfl (l' := #[vr s_, vi 3, vi 3, vr b3, vi 3]) rfl ?_
  refine yG X32.here hx rfl 29 8 rfl (hb hby d5_29) ?_
  refine XS.iload X32.here hx rfl (hb hby d5_8) rfl ?_
  refine XS.iloadN X32.here hx rfl (hb hby d5_10) rfl ?_
  refine yC X32.here hx rfl 11 32 rfl (hb hby d5_11) rfl rfl ?_
  refine XS.aloadN X32.here hx rfl (hb hby d5_32) rfl rfl ?_
  show S_ p e below T32 m 33 #[vr s_, vi 3, vi 3, vr b3, vi 3] [(rr b3)] _
  exact retOut X32 hx Bd.returns rfl (Or.inr (Or.inr (Or.inr (Or.inr ⟨rfl, rfl, rfl⟩)))) (hb hby d5_33) hr
 ·show Q_tob_3 Z s_ ks_ c0_ c1_ c2_ h0 n0 _ T32.heap _
  exact ⟨b3, k4, rfl, N33, kp37, f38, g13, z12⟩
theorem ef_cmp3a_3 (m : MethodId) (s_ : Addr) : entryFrame m #[(rr s_), (ii 0), (ii 3)] 6 = mkF m 0 #[vr s_, vi 0, vi 3, u_, u_, u_] [] := by first | (simp [entryFrame, mkF, argsToLocals, Value.category]; done) | rfl
def Q_cmp3a_3 (Z : State) (s_ : Addr) (ks_ : ClassId) (c0_ : Int32) (c1_ : Int32) (c2_ : Int32) (h0 : Heap) (n0 : Nat) (v : Option Value) (h : Heap) (L : List Loc) : Prop := (∃ (b_ : Addr), ∃ (kb_ : ClassId), v = some (rr b_) ∧ Fr n0 L ∧ Keep h0 h [] ∧ Arv Z h b_ kb_ .byte (3 : Int32) [(.int (nar .byte (c0_.toInt8.toInt32))), (.int (nar .byte (c1_.toInt8.toInt32))), (.int (nar .byte (c2_.toInt8.toInt32)))] (ii 0) ∧ n0 ≤ b_ ∧ h0.size ≤ b_ ∧ ¬ ((255 : Int32) < c0_) ∧ ¬ ((255 : Int32) < c1_) ∧ ¬ ((255 : Int32) < c2_)) ∨ (∃ (b_ : Addr), ∃ (kb_ : ClassId), v = some (rr b_) ∧ Fr n0 L ∧ Keep h0 h [] ∧ Arv Z h b_ kb_ .byte (6 : Int32) [(.int (nar .byte ((c0_ >>> ((0 : Int32) &&& 31)).toInt8.toInt32))), (.int (nar .byte ((c0_ >>> ((8 : Int32) &&& 31)).toInt8.toInt32))), (.int (nar .byte ((c1_ >>> ((0 : Int32) &&& 31)).toInt8.toInt32))), (.int (nar .byte ((c1_ >>> ((8 : Int32) &&& 31)).toInt8.toInt32))), (.int (nar .byte ((c2_ >>> ((0 : Int32) &&& 31)).toInt8.toInt32))), (.int (nar .byte ((c2_ >>> ((8 : Int32) &&& 31)).toInt8.toInt32)))] (ii 0) ∧ n0 ≤ b_ ∧ h0.size ≤ b_)
set_option maxRecDepth 65536 in
set_option maxHeartbeats 40000000 in
theorem rm_cmp3a_3 (l : Launch) (Z : State) (a0 : Array Value) (hw : HW Z a0) (ws : List Jvm.Cond) (s_ : Addr) (ks_ : ClassId) (c0_ : Int32) (c1_ : Int32) (c2_ : Int32) (h0 : Heap) (n0 : Nat) (O0 : Old Z n0 h0) (A0_ : Arv Z h0 s_ ks_ .char (3 : Int32) [(.int c0_), (.int c1_), (.int c2_)] (ii 0)) (ZS1_ : Sta Z Z.heap nm1 "$assertionsDisabled" "Z" (ii 1)) (ZS2_ : Sta Z Z.heap nm1 "HI_BYTE_SHIFT" "I" (ii 0)) (ZS3_ : Sta Z Z.heap nm1 "LO_BYTE_SHIFT" "I" (ii 8)) (hc0_ : nar .char c0_ = c0_) (hc1_ : nar .char c1_ = c1_) (hc2_ : nar .char c2_ = c2_) :
  MFP l Z (⟨nm1, "compress", "([CII)[B"⟩ : MethodName) jdk_52_method_16_code 6 (some (.array .byte)) ({ frames := 3, cells := 2, slots := 9, locals := 40 } : Room) ws #[(rr s_), (ii 0), (ii 3)] h0 (Q_cmp3a_3 Z s_ ks_ c0_ c1_ c2_ h0 n0) := by
 refine MetFree.of_bodySF (plainFor_of_name pn_java_lang_StringUTF16) hisR ?_
 intro p e s m args below meth c s₁ Bd hml0 hP hK
 obtain ⟨rfl, hZ, hh⟩ := hP
 have hx := Bd.exec
 have hby := Bd.bytes
 have hml : c.maxLocals = 6 := hml0
 have hown : s.vm.findClass nm1 = some m.cls := findClass_of_methodNamed Bd.named
 have hnm := (name_of_methodNamed Bd.named Bd.method).1
 have X0 : Stand p l e ({ frames := 3, cells := 2, slots := 9, locals := 40 } : Room) s m #[(rr s_), (ii 0), (ii 3)] below meth c s₁ [] 0 0 := Stand.of_body Bd
 have e0 : s₁.heap = h0 := by rw [← hh, Bd.state]; rfl
 have N0 := Fr.nil n0
 have kp0 : Keep h0 h0 [] := Keep.refl _ _
 have c0 : ∀ t, S_ p e below s₁ m 0 #[vr s_, vi 0, vi 3, u_, u_, u_] [] t → Steps p.tables e below (s₁.setTop (entryFrame m #[(rr s_), (ii 0), (ii 3)] 6)) t := fun t k => castTop (ef_cmp3a_3 m s_) k
 generalize s₁.setTop (entryFrame m #[(rr s_), (ii 0), (ii 3)] 6) = st0 at c0 ⊢
 replace c0 : Kt p e below s₁ st0 (mkF m 0 #[vr s_, vi 0, vi 3, u_, u_, u_] []) := c0
 have c1 : Kt p e below s₁ st0 (mkF m 1 #[vr s_, vi 0, vi 3, u_, u_, u_] [(ii 3)]) := fun t k => by
  refine c0 t ?_
  show S_ p e below s₁ m 0 #[vr s_, vi 0, vi 3, u_, u_, u_] [] t
  refine XS.iloadN X0.here hx rfl (hb hby d6_0) rfl ?_
  exact k
 obtain ⟨b2, T2, h2, k2, z2, g2, X2, e2, E2, o3, A2, c2⟩ := knewP (aty := .byte) X0 hx hZ (w19 hw) e0 c1 rfl (hb hby d6_1) rfl (by decide) 3 (by decide) (by decide) (by decide) (by decide) O0
 have kp5 := kp0.ext E2
 have z6 := Nat.le_trans kp0.1 z2
 have f4 : Arv Z h2 b2 k2 .byte (3 : Int32) [(ii 0), (ii 0), (ii 0)] (ii 0) := A2.pad (pad_rep [] (ii 0) 3)
 have q7 := Nat.ne_of_lt (Nat.lt_of_lt_of_le A0_.lt z2)
 have c8 : Kt p e below T2 st0 (mkF m 9 #[vr s_, vi 0, vi 3, vr b2, u_, u_] [(ii 3), (ii 0), (rr b2), (ii 0), (rr s_)]) := fun t k => by
  refine c2 t ?_
  show S_ p e below T2 m 3 #[vr s_, vi 0, vi 3, u_, u_, u_] [(rr b2)] t
  refine XS.astoreN X2.here hx rfl (hb hby d6_3) rfl rfl (l' := #[vr s_, vi 0, vi 3, vr b2, u_, u_]) rfl ?_
  refine XS.aloadN X2.here hx rfl (hb hby d6_4) rfl rfl ?_
  refine XS.iloadN X2.here hx rfl (hb hby d6_5) rfl ?_
  refine XS.aloadN X2.here hx rfl (hb hby d6_6) rfl rfl ?_
  refine XS.iconst X2.here hx rfl (hb hby d6_7) ?_
  refine XS.iloadN X2.here hx rfl (hb hby d6_8) rfl ?_
  exact k
 obtain ⟨_, T9, L9, X9, hQ9, c9⟩ := kstat X2 hx hZ hown (w129 hw) (w130 hw) (w127 hw) (w131 hw) (rm_cmp5a_3 l Z a0 hw [] s_ ks_ b2 k2 c0_ c1_ c2_ h2 n0 o3 (A0_.ext E2) f4 g2 q7) e2 c8 hml pd_pACIABIIrI [(rr s_), (ii 0), (rr b2), (ii 0), (ii 3)] [] 0 (hb hby d6_9) rfl rfl rfl rfl rfl rfl
 rcases hQ9 with hQ9 | hQ9 | hQ9 | hQ9
 ·obtain ⟨rfl, N10q, K11, p12, p13, p14, p15⟩ := hQ9
  have N10 := Fr.app N0 N10q
  have o16 := o3.keep K11 (allS g2 all0)
  have kp17 := kp5.trans K11 (allS (Or.inr z6) all0)
  obtain ⟨fs, hr, hrun, hended, hW, hsame⟩ := X9.leave (v := some (rr b2)) (fun h => by rw [Bd.returns] at h; cases h)
  refine ⟨_, _, c9 _ ?_, hrun, hended, _, _, rfl, ?_, ⟨_, rfl⟩, hW, hsame.mono (by decide) (by decide)⟩
  ·show S_ p e below T9 m 12 #[vr s_, vi 0, vi 3, vr b2, u_, u_] [(ii 3)] _
   refine XS.istore X9.here hx rfl (hb hby d6_12) rfl (l' := #[vr s_, vi 0, vi 3, vr b2, vi 3, u_]) rfl ?_
   refine XS.iload X9.here hx rfl (hb hby d6_14) rfl ?_
   refine XS.iloadN X9.here hx rfl (hb hby d6_16) rfl ?_
   refine yC X9.here hx rfl 17 57 rfl (hb hby d6_17) rfl rfl ?_
   refine XS.aloadN X9.here hx rfl (hb hby d6_57) rfl rfl ?_
   show S_ p e below T9 m 58 #[vr s_, vi 0, vi 3, vr b2, vi 3, u_] [(rr b2)] _
   exact retOut X9 hx Bd.returns rfl (Or.inr (Or.inr (Or.inr (Or.inr ⟨rfl, rfl, rfl⟩)))) (hb hby d6_58) hr
  ·show Q_cmp3a_3 Z s_ ks_ c0_ c1_ c2_ h0 n0 _ T9.heap _
   exact (Or.inl ⟨b2, k2, rfl, N10, kp17, p12, g2, z6, p13, p14, p15⟩)
 ·obtain ⟨rfl, N18q, K19, p20⟩ := hQ9
  have N18 := Fr.app N0 N18q
  have o21 := o3.keep K19 (allS g2 all0)
  have kp22 := kp5.trans K19 (allS (Or.inr z6) all0)
  have c23 : Kt p e below T9 st0 (mkF m 23 #[vr s_, vi 0, vi 3, vr b2, vi 0, u_] [(ii 3), (ii 0), (rr s_)]) := fun t k => by
   refine c9 t ?_
   show S_ p e below T9 m 12 #[vr s_, vi 0, vi 3, vr b2, u_, u_] [(ii 0)] t
   refine XS.istore X9.here hx rfl (hb hby d6_12) rfl (l' := #[vr s_, vi 0, vi 3, vr b2, vi 0, u_]) rfl ?_
   refine XS.iload X9.here hx rfl (hb hby d6_14) rfl ?_
   refine XS.iloadN X9.here hx rfl (hb hby d6_16) rfl ?_
   refine XS.icmpNo X9.here hx rfl (hb hby d6_17) rfl rfl ?_
   refine XS.aloadN X9.here hx rfl (hb hby d6_20) rfl rfl ?_
   refine XS.iloadN X9.here hx rfl (hb hby d6_21) rfl ?_
   refine XS.iloadN X9.here hx rfl (hb hby d6_22) rfl ?_
   exact k
  obtain ⟨_, T24, L24, X24, hQ24, c24⟩ := kstat X9 hx hZ hown (w145 hw) (w146 hw) (w127 hw) (w147 hw) (rm_tob_3 l Z a0 hw [] s_ ks_ c0_ c1_ c2_ T9.heap n0 o21 ((A0_.ext E2).keep K19 (ninS q7 nin0)) ZS1_ ZS2_ ZS3_) rfl c23 hml pd_pACIIrAB [(rr s_), (ii 0), (ii 3)] [] 0 (hb hby d6_23) rfl rfl rfl rfl rfl rfl
  obtain ⟨b25, k26, rfl, N27q, K28, p29, p30, p31⟩ := hQ24
  have N27 := Fr.app N18 N27q
  have o32 := o21.keep K28 all0
  have kp33 := kp22.trans K28 all0
  have z34 := Nat.le_trans kp22.1 p31
  have g35 := Nat.le_trans (Nat.le_trans (Nat.le_of_eq o21.1.symm) o21.2.1) p31
  have c36 : Kt p e below T24 st0 (mkF m 32 #[vr s_, vi 0, vi 3, vr b2, vi 0, vr b25] [(ii 0), (rr b25)]) := fun t k => by
   refine c24 t ?_
   show S_ p e below T24 m 26 #[vr s_, vi 0, vi 3, vr b2, vi 0, u_] [(rr b25)] t
   refine XS.astore X24.here hx rfl (hb hby d6_26) rfl rfl (l' := #[vr s_, vi 0, vi 3, vr b2, vi 0, vr b25]) rfl ?_
   refine XS.aload X24.here hx rfl (hb hby d6_28) rfl rfl ?_
   refine XS.iload X24.here hx rfl (hb hby d6_30) rfl ?_
   exact k
  obtain ⟨_, T37, L37, X37, hQ37, c37⟩ := kstat X24 hx hZ hown (w161 hw) (w162 hw) (w127 hw) (w163 hw) (rm_getc l Z a0 hw [] b25 k26 (6 : Int32) [(.int (nar .byte ((c0_ >>> ((0 : Int32) &&& 31)).toInt8.toInt32))), (.int (nar .byte ((c0_ >>> ((8 : Int32) &&& 31)).toInt8.toInt32))), (.int (nar .byte ((c1_ >>> ((0 : Int32) &&& 31)).toInt8.toInt32))), (.int (nar .byte ((c1_ >>> ((8 : Int32) &&& 31)).toInt8.toInt32))), (.int (nar .byte ((c2_ >>> ((0 : Int32) &&& 31)).toInt8.toInt32))), (.int (nar .byte ((c2_ >>> ((8 : Int32) &&& 31)).toInt8.toInt32)))] (0 : Int32) ((nar .byte ((c0_ >>> ((0 : Int32) &&& 31)).toInt8.toInt32))) ((nar .byte ((c0_ >>> ((8 : Int32) &&& 31)).toInt8.toInt32))) c0_ T24.heap n0 o32 p29 ZS1_ ZS2_ ZS3_ (by decide) (by decide) (by decide) (by decide) rfl rfl (own_get16 hc0_)) rfl c36 hml pd_pABIrC [(rr b25), (ii 0)] [] 0 (hb hby d6_32) rfl rfl rfl rfl rfl rfl
  obtain ⟨rfl, N38q, K39⟩ := hQ37
  have N38 := Fr.app N27 N38q
  obtain ⟨fs, hr, hrun, hended, hW, hsame⟩ := X37.leave (v := some (rr b25)) (fun h => by rw [Bd.returns] at h; cases h)
  refine ⟨_, _, c37 _ ?_, hrun, hended, _, _, rfl, ?_, ⟨_, rfl⟩, hW, hsame.mono (by decide) (by decide)⟩
  ·show S_ p e below T37 m 35 #[vr s_, vi 0, vi 3, vr b2, vi 0, vr b25] [(.int c0_)] _
   refine XS.sipush X37.here hx rfl (hb hby d6_35) ?_
   refine yC X37.here hx rfl 38 54 rfl (hb hby d6_38) rfl (tlt p20).2.2.1 ?_
   refine XS.aload X37.here hx rfl (hb hby d6_54) rfl rfl ?_
   show S_ p e below T37 m 56 #[vr s_, vi 0, vi 3, vr b2, vi 0, vr b25] [(rr b25)] _
   exact retOut X37 hx Bd.returns rfl (Or.inr (Or.inr (Or.inr (Or.inr ⟨rfl, rfl, rfl⟩)))) (hb hby d6_56) hr
  ·show Q_cmp3a_3 Z s_ ks_ c0_ c1_ c2_ h0 n0 _ T37.heap _
   rw [K39]
   exact (Or.inr (⟨b25, k26, rfl, N38, kp33, p29, g35, z34⟩))
 ·obtain ⟨rfl, N40q, K41, p42⟩ := hQ9
  have N40 := Fr.app N0 N40q
  have o43 := o3.keep K41 (allS g2 all0)
  have kp44 := kp5.trans K41 (allS (Or.inr z6) all0)
  have c45 : Kt p e below T9 st0 (mkF m 23 #[vr s_, vi 0, vi 3, vr b2, vi 1, u_] [(ii 3), (ii 0), (rr s_)]) := fun t k => by
   refine c9 t ?_
   show S_ p e below T9 m 12 #[vr s_, vi 0, vi 3, vr b2, u_, u_] [(ii 1)] t
   refine XS.istore X9.here hx rfl (hb hby d6_12) rfl (l' := #[vr s_, vi 0, vi 3, vr b2, vi 1, u_]) rfl ?_
   refine XS.iload X9.here hx rfl (hb hby d6_14) rfl ?_
   refine XS.iloadN X9.here hx rfl (hb hby d6_16) rfl ?_
   refine XS.icmpNo X9.here hx rfl (hb hby d6_17) rfl rfl ?_
   refine XS.aloadN X9.here hx rfl (hb hby d6_20) rfl rfl ?_
   refine XS.iloadN X9.here hx rfl (hb hby d6_21) rfl ?_
   refine XS.iloadN X9.here hx rfl (hb hby d6_22) rfl ?_
   exact k
  obtain ⟨_, T46, L46, X46, hQ46, c46⟩ := kstat X9 hx hZ hown (w145 hw) (w146 hw) (w127 hw) (w147 hw) (rm_tob_3 l Z a0 hw [] s_ ks_ c0_ c1_ c2_ T9.heap n0 o43 ((A0_.ext E2).keep K41 (ninS q7 nin0)) ZS1_ ZS2_ ZS3_) rfl c45 hml pd_pACIIrAB [(rr s_), (ii 0), (ii 3)] [] 0 (hb hby d6_23) rfl rfl rfl rfl rfl rfl
  obtain ⟨b47, k48, rfl, N49q, K50, p51, p52, p53⟩ := hQ46
  have N49 := Fr.app N40 N49q
  have o54 := o43.keep K50 all0
  have kp55 := kp44.trans K50 all0
  have z56 := Nat.le_trans kp44.1 p53
  have g57 := Nat.le_trans (Nat.le_trans (Nat.le_of_eq o43.1.symm) o43.2.1) p53
  have c58 : Kt p e below T46 st0 (mkF m 32 #[vr s_, vi 0, vi 3, vr b2, vi 1, vr b47] [(ii 1), (rr b47)]) := fun t k => by
   refine c46 t ?_
   show S_ p e below T46 m 26 #[vr s_, vi 0, vi 3, vr b2, vi 1, u_] [(rr b47)] t
   refine XS.astore X46.here hx rfl (hb hby d6_26) rfl rfl (l' := #[vr s_, vi 0, vi 3, vr b2, vi 1, vr b47]) rfl ?_
   refine XS.aload X46.here hx rfl (hb hby d6_28) rfl rfl ?_
   refine XS.iload X46.here hx rfl (hb hby d6_30) rfl ?_
   exact k
  obtain ⟨_, T59, L59, X59, hQ59, c59⟩ := kstat X46 hx hZ hown (w161 hw) (w162 hw) (w127 hw) (w163 hw) (rm_getc l Z a0 hw [] b47 k48 (6 : Int32) [(.int (nar .byte ((c0_ >>> ((0 : Int32) &&& 31)).toInt8.toInt32))), (.int (nar .byte ((c0_ >>> ((8 : Int32) &&& 31)).toInt8.toInt32))), (.int (nar .byte ((c1_ >>> ((0 : Int32) &&& 31)).toInt8.toInt32))), (.int (nar .byte ((c1_ >>> ((8 : Int32) &&& 31)).toInt8.toInt32))), (.int (nar .byte ((c2_ >>> ((0 : Int32) &&& 31)).toInt8.toInt32))), (.int (nar .byte ((c2_ >>> ((8 : Int32) &&& 31)).toInt8.toInt32)))] (1 : Int32) ((nar .byte ((c1_ >>> ((0 : Int32) &&& 31)).toInt8.toInt32))) ((nar .byte ((c1_ >>> ((8 : Int32) &&& 31)).toInt8.toInt32))) c1_ T46.heap n0 o54 p51 ZS1_ ZS2_ ZS3_ (by decide) (by decide) (by decide) (by decide) rfl rfl (own_get16 hc1_)) rfl c58 hml pd_pABIrC [(rr b47), (ii 1)] [] 0 (hb hby d6_32) rfl rfl rfl rfl rfl rfl
  obtain ⟨rfl, N60q, K61⟩ := hQ59
  have N60 := Fr.app N49 N60q
  obtain ⟨fs, hr, hrun, hended, hW, hsame⟩ := X59.leave (v := some (rr b47)) (fun h => by rw [Bd.returns] at h; cases h)
  refine ⟨_, _, c59 _ ?_, hrun, hended, _, _, rfl, ?_, ⟨_, rfl⟩, hW, hsame.mono (by decide) (by decide)⟩
  ·show S_ p e below T59 m 35 #[vr s_, vi 0, vi 3, vr b2, vi 1, vr b47] [(.int c1_)] _
   refine XS.sipush X59.here hx rfl (hb hby d6_35) ?_
   refine yC X59.here hx rfl 38 54 rfl (hb hby d6_38) rfl (tlt p42).2.2.1 ?_
   refine XS.aload X59.here hx rfl (hb hby d6_54) rfl rfl ?_
   show S_ p e below T59 m 56 #[vr s_, vi 0, vi 3, vr b2, vi 1, vr b47] [(rr b47)] _
   exact retOut X59 hx Bd.returns rfl (Or.inr (Or.inr (Or.inr (Or.inr ⟨rfl, rfl, rfl⟩)))) (hb hby d6_56) hr
  ·show Q_cmp3a_3 Z s_ ks_ c0_ c1_ c2_ h0 n0 _ T59.heap _
   rw [K61]
   exact (Or.inr (⟨b47, k48, rfl, N60, kp55, p51, g57, z56⟩))
 ·obtain ⟨rfl, N62q, K63, p64⟩ := hQ9
  have N62 := Fr.app N0 N62q
  have o65 := o3.keep K63 (allS g2 all0)
  have kp66 := kp5.trans K63 (allS (Or.inr z6) all0)
  have c67 : Kt p e below T9 st0 (mkF m 23 #[vr s_, vi 0, vi 3, vr b2, vi 2, u_] [(ii 3), (ii 0), (rr s_)]) := fun t k => by
   refine c9 t ?_
   show S_ p e below T9 m 12 #[vr s_, vi 0, vi 3, vr b2, u_, u_] [(ii 2)] t
   refine XS.istore X9.here hx rfl (hb hby d6_12) rfl (l' := #[vr s_, vi 0, vi 3, vr b2, vi 2, u_]) rfl ?_
   refine XS.iload X9.here hx rfl (hb hby d6_14) rfl ?_
   refine XS.iloadN X9.here hx rfl (hb hby d6_16) rfl ?_
   refine XS.icmpNo X9.here hx rfl (hb hby d6_17) rfl rfl ?_
   refine XS.aloadN X9.here hx rfl (hb hby d6_20) rfl rfl ?_
   refine XS.iloadN X9.here hx rfl (hb hby d6_21) rfl ?_
   refine XS.iloadN X9.here hx rfl (hb hby d6_22) rfl ?_
   exact k
  obtain ⟨_, T68, L68, X68, hQ68, c68⟩ := kstat X9 hx hZ hown (w145 hw) (w146 hw) (w127 hw) (w147 hw) (rm_tob_3 l Z a0 hw [] s_ ks_ c0_ c1_ c2_ T9.heap n0 o65 ((A0_.ext E2).keep K63 (ninS q7 nin0)) ZS1_ ZS2_ ZS3_) rfl c67 hml pd_pACIIrAB [(rr s_), (ii 0), (ii 3)] [] 0 (hb hby d6_23) rfl rfl rfl rfl rfl rfl
  obtain ⟨b69, k70, rfl, N71q, K72, p73, p74, p75⟩ := hQ68
  have N71 := Fr.app N62 N71q
  have o76 := o65.keep K72 all0
  have kp77 := kp66.trans K72 all0
  have z78 := Nat.le_trans kp66.1 p75
  have g79 := Nat.le_trans (Nat.le_trans (Nat.le_of_eq o65.1.symm) o65.2.1) p75
  have c80 : Kt p e below T68 st0 (mkF m 32 #[vr s_, vi 0, vi 3, vr b2, vi 2, vr b69] [(ii 2), (rr b69)]) := fun t k => by
   refine c68 t ?_
   show S_ p e below T68 m 26 #[vr s_, vi 0, vi 3, vr b2, vi 2, u_] [(rr b69)] t
   refine XS.astore X68.here hx rfl (hb hby d6_26) rfl rfl (l' := #[vr s_, vi 0, vi 3, vr b2, vi 2, vr b69]) rfl ?_
   refine XS.aload X68.here hx rfl (hb hby d6_28) rfl rfl ?_
   refine XS.iload X68.here hx rfl (hb hby d6_30) rfl ?_
   exact k
  obtain ⟨_, T81, L81, X81, hQ81, c81⟩ := kstat X68 hx hZ hown (w161 hw) (w162 hw) (w127 hw) (w163 hw) (rm_getc l Z a0 hw [] b69 k70 (6 : Int32) [(.int (nar .byte ((c0_ >>> ((0 : Int32) &&& 31)).toInt8.toInt32))), (.int (nar .byte ((c0_ >>> ((8 : Int32) &&& 31)).toInt8.toInt32))), (.int (nar .byte ((c1_ >>> ((0 : Int32) &&& 31)).toInt8.toInt32))), (.int (nar .byte ((c1_ >>> ((8 : Int32) &&& 31)).toInt8.toInt32))), (.int (nar .byte ((c2_ >>> ((0 : Int32) &&& 31)).toInt8.toInt32))), (.int (nar .byte ((c2_ >>> ((8 : Int32) &&& 31)).toInt8.toInt32)))] (2 : Int32) ((nar .byte ((c2_ >>> ((0 : Int32) &&& 31)).toInt8.toInt32))) ((nar .byte ((c2_ >>> ((8 : Int32) &&& 31)).toInt8.toInt32))) c2_ T68.heap n0 o76 p73 ZS1_ ZS2_ ZS3_ (by decide) (by decide) (by decide) (by decide) rfl rfl (own_get16 hc2_)) rfl c80 hml pd_pABIrC [(rr b69), (ii 2)] [] 0 (hb hby d6_32) rfl rfl rfl rfl rfl rfl
  obtain ⟨rfl, N82q, K83⟩ := hQ81
  have N82 := Fr.app N71 N82q
  obtain ⟨fs, hr, hrun, hended, hW, hsame⟩ := X81.leave (v := some (rr b69)) (fun h => by rw [Bd.returns] at h; cases h)
  refine ⟨_, _, c81 _ ?_, hrun, hended, _, _, rfl, ?_, ⟨_, rfl⟩, hW, hsame.mono (by decide) (by decide)⟩
  ·show S_ p e below T81 m 35 #[vr s_, vi 0, vi 3, vr b2, vi 2, vr b69] [(.int c2_)] _
   refine XS.sipush X81.here hx rfl (hb hby d6_35) ?_
   refine yC X81.here hx rfl 38 54 rfl (hb hby d6_38) rfl (tlt p64).2.2.1 ?_
   refine XS.aload X81.here hx rfl (hb hby d6_54) rfl rfl ?_
   show S_ p e below T81 m 56 #[vr s_, vi 0, vi 3, vr b2, vi 2, vr b69] [(rr b69)] _
   exact retOut X81 hx Bd.returns rfl (Or.inr (Or.inr (Or.inr (Or.inr ⟨rfl, rfl, rfl⟩)))) (hb hby d6_56) hr
  ·show Q_cmp3a_3 Z s_ ks_ c0_ c1_ c2_ h0 n0 _ T81.heap _
   rw [K83]
   exact (Or.inr (⟨b69, k70, rfl, N82, kp77, p73, g79, z78⟩))
theorem ef_codl_3 (m : MethodId) (s_ : Addr) : entryFrame m #[(rr s_), (ii 3)] 2 = mkF m 0 #[vr s_, vi 3] [] := by first | (simp [entryFrame, mkF, argsToLocals, Value.category]; done) | rfl
def Q_codl_3 (Z : State) (s_ : Addr) (ks_ : ClassId) (vs_ : List Value) (h0 : Heap) (n0 : Nat) (v : Option Value) (h : Heap) (L : List Loc) : Prop := v = some (ii 0) ∧ Fr n0 L ∧ h = h0
set_option maxRecDepth 65536 in
set_option maxHeartbeats 40000000 in
theorem rm_codl_3 (l : Launch) (Z : State) (a0 : Array Value) (hw : HW Z a0) (ws : List Jvm.Cond) (s_ : Addr) (ks_ : ClassId) (vs_ : List Value) (h0 : Heap) (n0 : Nat) (O0 : Old Z n0 h0) (A0_ : Arv Z h0 s_ ks_ .byte (3 : Int32) vs_ (ii 0)) :
  MFP l Z (⟨nm1, "coderFromArrayLen", "([BI)B"⟩ : MethodName) jdk_52_method_15_code 2 (some .byte) ({ frames := 0, cells := 0, slots := 0, locals := 0 } : Room) ws #[(rr s_), (ii 3)] h0 (Q_codl_3 Z s_ ks_ vs_ h0 n0) := by
 refine MetFree.of_bodySF (plainFor_of_name pn_java_lang_StringUTF16) hisR ?_
 intro p e s m args below meth c s₁ Bd hml0 hP hK
 obtain ⟨rfl, hZ, hh⟩ := hP
 have hx := Bd.exec
 have hby := Bd.bytes
 have hml : c.maxLocals = 2 := hml0
 have hown : s.vm.findClass nm1 = some m.cls := findClass_of_methodNamed Bd.named
 have hnm := (name_of_methodNamed Bd.named Bd.method).1
 have X0 : Stand p l e ({ frames := 0, cells := 0, slots := 0, locals := 0 } : Room) s m #[(rr s_), (ii 3)] below meth c s₁ [] 0 0 := Stand.of_body Bd
 have e0 : s₁.heap = h0 := by rw [← hh, Bd.state]; rfl
 have N0 := Fr.nil n0
 have kp0 : Keep h0 h0 [] := Keep.refl _ _
 have c0 : ∀ t, S_ p e below s₁ m 0 #[vr s_, vi 3] [] t → Steps p.tables e below (s₁.setTop (entryFrame m #[(rr s_), (ii 3)] 2)) t := fun t k => castTop (ef_codl_3 m s_) k
 generalize s₁.setTop (entryFrame m #[(rr s_), (ii 3)] 2) = st0 at c0 ⊢
 replace c0 : Kt p e below s₁ st0 (mkF m 0 #[vr s_, vi 3] []) := c0
 obtain ⟨fs, hr, hrun, hended, hW, hsame⟩ := X0.leave (v := some (ii 0)) (fun h => by rw [Bd.returns] at h; cases h)
 refine ⟨_, _, c0 _ ?_, hrun, hended, _, _, rfl, ?_, ⟨_, rfl⟩, hW, hsame.mono (by decide) (by decide)⟩
 ·show S_ p e below s₁ m 0 #[vr s_, vi 3] [] _
  refine XS.iloadN X0.here hx rfl (hb hby d7_0) rfl ?_
  refine XS.aloadN X0.here hx rfl (hb hby d7_1) rfl rfl ?_
  refine ldLen X0 hx hZ e0 A0_ rfl rfl (hb hby d7_2) ?_
  refine XS.isub X0.here hx rfl (hb hby d7_3) rfl ?_
  refine XS.bipush X0.here hx rfl (hb hby d7_4) ?_
  refine XS.iushr X0.here hx rfl (hb hby d7_6) rfl ?_
  refine XS.i2b X0.here hx rfl (hb hby d7_7) rfl ?_
  show S_ p e below s₁ m 8 #[vr s_, vi 3] [(ii 0)] _
  exact retN X0 hx (t := .byte) Bd.returns (by simp) (hb hby d7_8) hr
 ·show Q_codl_3 Z s_ ks_ vs_ h0 n0 _ s₁.heap _
  rw [e0]
  exact ⟨rfl, N0, rfl⟩
theorem ef_codu_3 (m : MethodId) (s_ : Addr) : entryFrame m #[(rr s_), (ii 3)] 2 = mkF m 0 #[vr s_, vi 3] [] := by first | (simp [entryFrame, mkF, argsToLocals, Value.category]; done) | rfl
def Q_codu_3 (Z : State) (s_ : Addr) (ks_ : ClassId) (vs_ : List Value) (h0 : Heap) (n0 : Nat) (v : Option Value) (h : Heap) (L : List Loc) : Prop := v = some (ii 1) ∧ Fr n0 L ∧ h = h0
set_option maxRecDepth 65536 in
set_option maxHeartbeats 40000000 in
theorem rm_codu_3 (l : Launch) (Z : State) (a0 : Array Value) (hw : HW Z a0) (ws : List Jvm.Cond) (s_ : Addr) (ks_ : ClassId) (vs_ : List Value) (h0 : Heap) (n0 : Nat) (O0 : Old Z n0 h0) (A0_ : Arv Z h0 s_ ks_ .byte (6 : Int32) vs_ (ii 0)) :
  MFP l Z (⟨nm1, "coderFromArrayLen", "([BI)B"⟩ : MethodName) jdk_52_method_15_code 2 (some .byte) ({ frames := 0, cells := 0, slots := 0, locals := 0 } : Room) ws #[(rr s_), (ii 3)] h0 (Q_codu_3 Z s_ ks_ vs_ h0 n0) := by
 refine MetFree.of_bodySF (plainFor_of_name pn_java_lang_StringUTF16) hisR ?_
 intro p e s m args below meth c s₁ Bd hml0 hP hK
 obtain ⟨rfl, hZ, hh⟩ := hP
 have hx := Bd.exec
 have hby := Bd.bytes
 have hml : c.maxLocals = 2 := hml0
 have hown : s.vm.findClass nm1 = some m.cls := findClass_of_methodNamed Bd.named
 have hnm := (name_of_methodNamed Bd.named Bd.method).1
 have X0 : Stand p l e ({ frames := 0, cells := 0, slots := 0, locals := 0 } : Room) s m #[(rr s_), (ii 3)] below meth c s₁ [] 0 0 := Stand.of_body Bd
 have e0 : s₁.heap = h0 := by rw [← hh, Bd.state]; rfl
 have N0 := Fr.nil n0
 have kp0 : Keep h0 h0 [] := Keep.refl _ _
 have c0 : ∀ t, S_ p e below s₁ m 0 #[vr s_, vi 3] [] t → Steps p.tables e below (s₁.setTop (entryFrame m #[(rr s_), (ii 3)] 2)) t := fun t k => castTop (ef_codu_3 m s_) k
 generalize s₁.setTop (entryFrame m #[(rr s_), (ii 3)] 2) = st0 at c0 ⊢
 replace c0 : Kt p e below s₁ st0 (mkF m 0 #[vr s_, vi 3] []) := c0
 obtain ⟨fs, hr, hrun, hended, hW, hsame⟩ := X0.leave (v := some (ii 1)) (fun h => by rw [Bd.returns] at h; cases h)
 refine ⟨_, _, c0 _ ?_, hrun, hended, _, _, rfl, ?_, ⟨_, rfl⟩, hW, hsame.mono (by decide) (by decide)⟩
 ·show S_ p e below s₁ m 0 #[vr s_, vi 3] [] _
  refine XS.iloadN X0.here hx rfl (hb hby d7_0) rfl ?_
  refine XS.aloadN X0.here hx rfl (hb hby d7_1) rfl rfl ?_
  refine ldLen X0 hx hZ e0 A0_ rfl rfl (hb hby d7_2) ?_
  refine XS.isub X0.here hx rfl (hb hby d7_3) rfl ?_
  refine XS.bipush X0.here hx rfl (hb hby d7_4) ?_
  refine XS.iushr X0.here hx rfl (hb hby d7_6) rfl ?_
  refine XS.i2b X0.here hx rfl (hb hby d7_7) rfl ?_
  show S_ p e below s₁ m 8 #[vr s_, vi 3] [(ii 1)] _
  exact retN X0 hx (t := .byte) Bd.returns (by simp) (hb hby d7_8) hr
 ·show Q_codu_3 Z s_ ks_ vs_ h0 n0 _ s₁.heap _
  rw [e0]
  exact ⟨rfl, N0, rfl⟩
theorem ef_str4a_3 (m : MethodId) (x_ : Addr) (s_ : Addr) : entryFrame m #[(rr x_), (rr s_), (ii 0), (ii 3), .null] 6 = mkF m 0 #[vr x_, vr s_, vi 0, vi 3, .val .null, u_] [] := by first | (simp [entryFrame, mkF, argsToLocals, Value.category]; done) | rfl
def Q_str4a_3 (Z : State) (x_ : Addr) (s_ : Addr) (ks_ : ClassId) (z_ : Int32) (c0_ : Int32) (c1_ : Int32) (c2_ : Int32) (h0 : Heap) (n0 : Nat) (v : Option Value) (h : Heap) (L : List Loc) : Prop := (v = none ∧ Fr n0 L ∧ Keep h0 h [x_] ∧ Exa Z h x_ nm0 ∧ Fld Z h x_ nm0 "coder" "B" (ii 0) ∧ ∃ (b_ : Addr), ∃ (kb_ : ClassId), Fld Z h x_ nm0 "value" "[B" (rr b_) ∧ Arv Z h b_ kb_ .byte (3 : Int32) [(.int (nar .byte (c0_.toInt8.toInt32))), (.int (nar .byte (c1_.toInt8.toInt32))), (.int (nar .byte (c2_.toInt8.toInt32)))] (ii 0) ∧ n0 ≤ b_ ∧ h0.size ≤ b_ ∧ ¬ ((255 : Int32) < c0_) ∧ ¬ ((255 : Int32) < c1_) ∧ ¬ ((255 : Int32) < c2_)) ∨ (v = none ∧ Fr n0 L ∧ Keep h0 h [x_] ∧ Exa Z h x_ nm0 ∧ Fld Z h x_ nm0 "coder" "B" (ii 1) ∧ ∃ (b_ : Addr), ∃ (kb_ : ClassId), Fld Z h x_ nm0 "value" "[B" (rr b_) ∧ Arv Z h b_ kb_ .byte (6 : Int32) [(.int (nar .byte ((c0_ >>> ((0 : Int32) &&& 31)).toInt8.toInt32))), (.int (nar .byte ((c0_ >>> ((8 : Int32) &&& 31)).toInt8.toInt32))), (.int (nar .byte ((c1_ >>> ((0 : Int32) &&& 31)).toInt8.toInt32))), (.int (nar .byte ((c1_ >>> ((8 : Int32) &&& 31)).toInt8.toInt32))), (.int (nar .byte ((c2_ >>> ((0 : Int32) &&& 31)).toInt8.toInt32))), (.int (nar .byte ((c2_ >>> ((8 : Int32) &&& 31)).toInt8.toInt32)))] (ii 0) ∧ n0 ≤ b_ ∧ h0.size ≤ b_)
set_option maxRecDepth 65536 in
set_option maxHeartbeats 40000000 in
theorem rm_str4a_3 (l : Launch) (Z : State) (a0 : Array Value) (hw : HW Z a0) (ws : List Jvm.Cond) (x_ : Addr) (s_ : Addr) (ks_ : ClassId) (z_ : Int32) (c0_ : Int32) (c1_ : Int32) (c2_ : Int32) (h0 : Heap) (n0 : Nat) (O0 : Old Z n0 h0) (E0_ : Exa Z h0 x_ nm0) (F1_ : Fld Z h0 x_ nm0 "value" "[B" .null) (F2_ : Fld Z h0 x_ nm0 "coder" "B" (ii 0)) (G3_ : n0 ≤ x_) (A4_ : Arv Z h0 s_ ks_ .char (3 : Int32) [(.int c0_), (.int c1_), (.int c2_)] (ii 0)) (ZS5_ : Sta Z Z.heap nm0 "COMPACT_STRINGS" "Z" (.int z_)) (hz_ : ¬ (z_ = (0 : Int32))) (ZS7_ : Sta Z Z.heap nm1 "$assertionsDisabled" "Z" (ii 1)) (ZS8_ : Sta Z Z.heap nm1 "HI_BYTE_SHIFT" "I" (ii 0)) (ZS9_ : Sta Z Z.heap nm1 "LO_BYTE_SHIFT" "I" (ii 8)) (hc0_ : nar .char c0_ = c0_) (hc1_ : nar .char c1_ = c1_) (hc2_ : nar .char c2_ = c2_) :
  MFP l Z (⟨nm0, "<init>", "([CIILjava/lang/Void;)V"⟩ : MethodName) jdk_42_method_149_code 6 none ({ frames := 4, cells := 2, slots := 9, locals := 57 } : Room) ws #[(rr x_), (rr s_), (ii 0), (ii 3), .null] h0 (Q_str4a_3 Z x_ s_ ks_ z_ c0_ c1_ c2_ h0 n0) := by
 refine MetFree.of_bodySF (plainFor_of_name pn_java_lang_String) hisR ?_
 intro p e s m args below meth c s₁ Bd hml0 hP hK
 obtain ⟨rfl, hZ, hh⟩ := hP
 have hx := Bd.exec
 have hby := Bd.bytes
 have hml : c.maxLocals = 6 := hml0
 have hown : s.vm.findClass nm0 = some m.cls := findClass_of_methodNamed Bd.named
 have hnm := (name_of_methodNamed Bd.named Bd.method).1
 have X0 : Stand p l e ({ frames := 4, cells := 2, slots := 9, locals := 57 } : Room) s m #[(rr x_), (rr s_), (ii 0), (ii 3), .null] below meth c s₁ [] 0 0 := Stand.of_body Bd
 have e0 : s₁.heap = h0 := by rw [← hh, Bd.state]; rfl
 have N0 := Fr.nil n0
 have kp0 : Keep h0 h0 [x_] := Keep.refl _ _
 have c0 : ∀ t, S_ p e below s₁ m 0 #[vr x_, vr s_, vi 0, vi 3, .val .null, u_] [] t → Steps p.tables e below (s₁.setTop (entryFrame m #[(rr x_), (rr s_), (ii 0), (ii 3), .null] 6)) t := fun t k => castTop (ef_str4a_3 m x_ s_) k
 generalize s₁.setTop (entryFrame m #[(rr x_), (rr s_), (ii 0), (ii 3), .null] 6) = st0 at c0 ⊢
 replace c0 : Kt p e below s₁ st0 (mkF m 0 #[vr x_, vr s_, vi 0, vi 3, .val .null, u_] []) := c0
 have c1 : Kt p e below s₁ st0 (mkF m 1 #[vr x_, vr s_, vi 0, vi 3, .val .null, u_] [(rr x_)]) := fun t k => by
  refine c0 t ?_
  show S_ p e below s₁ m 0 #[vr x_, vr s_, vi 0, vi 3, .val .null, u_] [] t
  refine XS.aloadN X0.here hx rfl (hb hby d8_0) rfl rfl ?_
  exact k
 obtain ⟨T2, X2, e2, c2⟩ := kinit X0 hx hZ hown (w15 hw) (w16 hw) (w17 hw) e0 c1 rfl hml rfl rfl (hb hby d8_1) 0 (own_w rfl) (by decide) (by decide)
 have c3 : Kt p e below T2 st0 (mkF m 27 #[vr x_, vr s_, vi 0, vi 3, .val .null, u_] []) := fun t k => by
  refine c2 t ?_
  show S_ p e below T2 m 4 #[vr x_, vr s_, vi 0, vi 3, .val .null, u_] [] t
  refine XS.iloadN X2.here hx rfl (hb hby d8_4) rfl ?_
  refine yI X2.here hx rfl 5 27 rfl (hb hby d8_5) rfl rfl ?_
  exact k
 obtain ⟨T4, X4, e4, c4⟩ := kgetS X2 hx hZ hown (host := "") (Or.inl (w46 hw)) Via.refl e2 (ZS5_.ext O0.2) c3 rfl (hb hby d8_27)
 have c5 : Kt p e below T4 st0 (mkF m 36 #[vr x_, vr s_, vi 0, vi 3, .val .null, u_] [(ii 3), (ii 0), (rr s_)]) := fun t k => by
  refine c4 t ?_
  show S_ p e below T4 m 30 #[vr x_, vr s_, vi 0, vi 3, .val .null, u_] [(.int z_)] t
  refine XS.ifNo X4.here hx rfl (hb hby d8_30) rfl ((if0 _ _).trans (feq hz_).1) ?_
  refine XS.aloadN X4.here hx rfl (hb hby d8_33) rfl rfl ?_
  refine XS.iloadN X4.here hx rfl (hb hby d8_34) rfl ?_
  refine XS.iloadN X4.here hx rfl (hb hby d8_35) rfl ?_
  exact k
 obtain ⟨_, T6, L6, X6, hQ6, c6⟩ := kstat X4 hx hZ hown (w125 hw) (w126 hw) (w127 hw) (w128 hw) (rm_cmp3a_3 l Z a0 hw [] s_ ks_ c0_ c1_ c2_ h0 n0 O0 A4_ ZS7_ ZS8_ ZS9_ hc0_ hc1_ hc2_) e4 c5 hml pd_pACIIrAB [(rr s_), (ii 0), (ii 3)] [] 0 (hb hby d8_36) rfl rfl rfl rfl rfl rfl
 rcases hQ6 with hQ6 | hQ6
 ·obtain ⟨b7, k8, rfl, N9q, K10, p11, p12, p13, p14, p15, p16⟩ := hQ6
  have N9 := Fr.app N0 N9q
  have o17 := O0.keep K10 all0
  have kp18 := kp0.trans K10 all0
  have z19 := Nat.le_trans kp0.1 p13
  have g20 := Nat.le_trans (Nat.le_trans (Nat.le_of_eq O0.1.symm) O0.2.1) p13
  have c21 : Kt p e below T6 st0 (mkF m 45 #[vr x_, vr s_, vi 0, vi 3, .val .null, vr b7] [(ii 3), (rr b7), (rr x_)]) := fun t k => by
   refine c6 t ?_
   show S_ p e below T6 m 39 #[vr x_, vr s_, vi 0, vi 3, .val .null, u_] [(rr b7)] t
   refine XS.astore X6.here hx rfl (hb hby d8_39) rfl rfl (l' := #[vr x_, vr s_, vi 0, vi 3, .val .null, vr b7]) rfl ?_
   refine XS.aloadN X6.here hx rfl (hb hby d8_41) rfl rfl ?_
   refine XS.aload X6.here hx rfl (hb hby d8_42) rfl rfl ?_
   refine XS.iloadN X6.here hx rfl (hb hby d8_44) rfl ?_
   exact k
  obtain ⟨_, T22, L22, X22, hQ22, c22⟩ := kstat X6 hx hZ hown (w132 hw) (w133 hw) (w127 hw) (w134 hw) (rm_codl_3 l Z a0 hw [] b7 k8 [(.int (nar .byte (c0_.toInt8.toInt32))), (.int (nar .byte (c1_.toInt8.toInt32))), (.int (nar .byte (c2_.toInt8.toInt32)))] T6.heap n0 o17 p11) rfl c21 hml pd_pABIrB [(rr b7), (ii 3)] [(rr x_)] 1 (hb hby d8_45) rfl rfl rfl rfl rfl rfl
  obtain ⟨rfl, N23q, K24⟩ := hQ22
  have N23 := Fr.app N9 N23q
  obtain ⟨T25, h25, X25, e25, W25, f26, o28, N27, c25⟩ := kput X22 hx hZ .byte hown (host := "") (Or.inl (w25 hw)) Via.refl K24 (F2_.keep K10 nin0) (E0_.keep K10) (Or.inr ⟨(w21 hw), rfl, hnm⟩) (w5 hw) c22 rfl rfl (hb hby d8_48) (by decide) rfl rfl o17 N23 G3_
  have kp29 := kp18.wr W25 (Or.inl (List.mem_of_getElem? (i := 0) rfl))
  have f30 := (F1_.keep K10 nin0).other W25 (Or.inr (slot_ne (Or.inr (w20 hw)) (Or.inr (w21 hw)) (by decide) (t := (.array .byte)) (t' := .byte) (by decide) (by decide)))
  have c31 : Kt p e below T25 st0 (mkF m 54 #[vr x_, vr s_, vi 0, vi 3, .val .null, vr b7] [(rr b7), (rr x_)]) := fun t k => by
   refine c25 t ?_
   show S_ p e below T25 m 51 #[vr x_, vr s_, vi 0, vi 3, .val .null, vr b7] [] t
   refine XS.aloadN X25.here hx rfl (hb hby d8_51) rfl rfl ?_
   refine XS.aload X25.here hx rfl (hb hby d8_52) rfl rfl ?_
   exact k
  obtain ⟨T32, h32, X32, e32, W32, f33, o35, N34, c32⟩ := kput X25 hx hZ (.array .byte) hown (host := "") (Or.inl (w24 hw)) Via.refl e25 f30 ((E0_.keep K10).wr W25) (Or.inr ⟨(w20 hw), rfl, hnm⟩) (w5 hw) c31 rfl rfl (hb hby d8_54) (by decide) rfl rfl o28 N27 G3_
  have kp36 := kp29.wr W32 (Or.inl (List.mem_of_getElem? (i := 0) rfl))
  have f37 := f26.other W32 (Or.inr (slot_ne (Or.inr (w21 hw)) (Or.inr (w20 hw)) (by decide) (t := .byte) (t' := (.array .byte)) (by decide) (by decide)))
  have q38 := Ne.symm (Nat.ne_of_lt (Nat.lt_of_lt_of_le E0_.lt p13))
  obtain ⟨fs, hr, hrun, hended, hW, hsame⟩ := X32.leave (v := none) (fun _ => rfl)
  refine ⟨_, _, c32 _ ?_, hrun, hended, _, _, rfl, ?_, ⟨_, rfl⟩, hW, hsame.mono (by decide) (by decide)⟩
  ·show S_ p e below T32 m 57 #[vr x_, vr s_, vi 0, vi 3, .val .null, vr b7] [] _
   exact X32.returnOut hx Bd.returns (hb hby d8_57) hr
  ·show Q_str4a_3 Z x_ s_ ks_ z_ c0_ c1_ c2_ h0 n0 _ T32.heap _
   rw [e32]
   exact (Or.inl ⟨rfl, N34, kp36, (((E0_.keep K10).wr W25).wr W32), f37, b7, k8, f33, ((p11.other W25 q38).other W32 q38), g20, z19, p14, p15, p16⟩)
 ·obtain ⟨b39, k40, rfl, N41q, K42, p43, p44, p45⟩ := hQ6
  have N41 := Fr.app N0 N41q
  have o46 := O0.keep K42 all0
  have kp47 := kp0.trans K42 all0
  have z48 := Nat.le_trans kp0.1 p45
  have g49 := Nat.le_trans (Nat.le_trans (Nat.le_of_eq O0.1.symm) O0.2.1) p45
  have c50 : Kt p e below T6 st0 (mkF m 45 #[vr x_, vr s_, vi 0, vi 3, .val .null, vr b39] [(ii 3), (rr b39), (rr x_)]) := fun t k => by
   refine c6 t ?_
   show S_ p e below T6 m 39 #[vr x_, vr s_, vi 0, vi 3, .val .null, u_] [(rr b39)] t
   refine XS.astore X6.here hx rfl (hb hby d8_39) rfl rfl (l' := #[vr x_, vr s_, vi 0, vi 3, .val .null, vr b39]) rfl ?_
   refine XS.aloadN X6.here hx rfl (hb hby d8_41) rfl rfl ?_
   refine XS.aload X6.here hx rfl (hb hby d8_42) rfl rfl ?_
   refine XS.iloadN X6.here hx rfl (hb hby d8_44) rfl ?_
   exact k
  obtain ⟨_, T51, L51, X51, hQ51, c51⟩ := kstat X6 hx hZ hown (w132 hw) (w133 hw) (w127 hw) (w134 hw) (rm_codu_3 l Z a0 hw [] b39 k40 [(.int (nar .byte ((c0_ >>> ((0 : Int32) &&& 31)).toInt8.toInt32))), (.int (nar .byte ((c0_ >>> ((8 : Int32) &&& 31)).toInt8.toInt32))), (.int (nar .byte ((c1_ >>> ((0 : Int32) &&& 31)).toInt8.toInt32))), (.int (nar .byte ((c1_ >>> ((8 : Int32) &&& 31)).toInt8.toInt32))), (.int (nar .byte ((c2_ >>> ((0 : Int32) &&& 31)).toInt8.toInt32))), (.int (nar .byte ((c2_ >>> ((8 : Int32) &&& 31)).toInt8.toInt32)))] T6.heap n0 o46 p43) rfl c50 hml pd_pABIrB [(rr b39), (ii 3)] [(rr x_)] 1 (hb hby d8_45) rfl rfl rfl rfl rfl rfl
  obtain ⟨rfl, N52q, K53⟩ := hQ51
  have N52 := Fr.app N41 N52q
  obtain ⟨T54, h54, X54, e54, W54, f55, o57, N56, c54⟩ := kput X51 hx hZ .byte hown (host := "") (Or.inl (w25 hw)) Via.refl K53 (F2_.keep K42 nin0) (E0_.keep K42) (Or.inr ⟨(w21 hw), rfl, hnm⟩) (w5 hw) c51 rfl rfl (hb hby d8_48) (by decide) rfl rfl o46 N52 G3_
  have kp58 := kp47.wr W54 (Or.inl (List.mem_of_getElem? (i := 0) rfl))
  have f59 := (F1_.keep K42 nin0).other W54 (Or.inr (slot_ne (Or.inr (w20 hw)) (Or.inr (w21 hw)) (by decide) (t := (.array .byte)) (t' := .byte) (by decide) (by decide)))
  have c60 : Kt p e below T54 st0 (mkF m 54 #[vr x_, vr s_, vi 0, vi 3, .val .null, vr b39] [(rr b39), (rr x_)]) := fun t k => by
   refine c54 t ?_
   show S_ p e below T54 m 51 #[vr x_, vr s_, vi 0, vi 3, .val .null, vr b39] [] t
   refine XS.aloadN X54.here hx rfl (hb hby d8_51) rfl rfl ?_
   refine XS.aload X54.here hx rfl (hb hby d8_52) rfl rfl ?_
   exact k
  obtain ⟨T61, h61, X61, e61, W61, f62, o64, N63, c61⟩ := kput X54 hx hZ (.array .byte) hown (host := "") (Or.inl (w24 hw)) Via.refl e54 f59 ((E0_.keep K42).wr W54) (Or.inr ⟨(w20 hw), rfl, hnm⟩) (w5 hw) c60 rfl rfl (hb hby d8_54) (by decide) rfl rfl o57 N56 G3_
  have kp65 := kp58.wr W61 (Or.inl (List.mem_of_getElem? (i := 0) rfl))
  have f66 := f55.other W61 (Or.inr (slot_ne (Or.inr (w21 hw)) (Or.inr (w20 hw)) (by decide) (t := .byte) (t' := (.array .byte)) (by decide) (by decide)))
  have q67 := Ne.symm (Nat.ne_of_lt (Nat.lt_of_lt_of_le E0_.lt p45))
  obtain ⟨fs, hr, hrun, hended, hW, hsame⟩ := X61.leave (v := none) (fun _ => rfl)
  refine ⟨_, _, c61 _ ?_, hrun, hended, _, _, rfl, ?_, ⟨_, rfl⟩, hW, hsame.mono (by decide) (by decide)⟩
  ·show S_ p e below T61 m 57 #[vr x_, vr s_, vi 0, vi 3, .val .null, vr b39] [] _
   exact X61.returnOut hx Bd.returns (hb hby d8_57) hr
  ·show Q_str4a_3 Z x_ s_ ks_ z_ c0_ c1_ c2_ h0 n0 _ T61.heap _
   rw [e61]
   exact (Or.inr (⟨rfl, N63, kp65, (((E0_.keep K42).wr W54).wr W61), f66, b39, k40, f62, ((p43.other W54 q67).other W61 q67), g49, z48⟩))
theorem ef_str1a_3 (m : MethodId) (x_ : Addr) (s_ : Addr) : entryFrame m #[(rr x_), (rr s_)] 2 = mkF m 0 #[vr x_, vr s_] [] := by first | (simp [entryFrame, mkF, argsToLocals, Value.category]; done) | rfl
def Q_str1a_3 (Z : State) (x_ : Addr) (s_ : Addr) (ks_ : ClassId) (z_ : Int32) (c0_ : Int32) (c1_ : Int32) (c2_ : Int32) (h0 : Heap) (n0 : Nat) (v : Option Value) (h : Heap) (L : List Loc) : Prop := (v = none ∧ Fr n0 L ∧ Keep h0 h [x_] ∧ Exa Z h x_ nm0 ∧ Fld Z h x_ nm0 "coder" "B" (ii 0) ∧ ∃ (b_ : Addr), ∃ (kb_ : ClassId), Fld Z h x_ nm0 "value" "[B" (rr b_) ∧ Arv Z h b_ kb_ .byte (3 : Int32) [(.int (nar .byte (c0_.toInt8.toInt32))), (.int (nar .byte (c1_.toInt8.toInt32))), (.int (nar .byte (c2_.toInt8.toInt32)))] (ii 0) ∧ n0 ≤ b_ ∧ h0.size ≤ b_ ∧ ¬ ((255 : Int32) < c0_) ∧ ¬ ((255 : Int32) < c1_) ∧ ¬ ((255 : Int32) < c2_)) ∨ (v = none ∧ Fr n0 L ∧ Keep h0 h [x_] ∧ Exa Z h x_ nm0 ∧ Fld Z h x_ nm0 "coder" "B" (ii 1) ∧ ∃ (b_ : Addr), ∃ (kb_ : ClassId), Fld Z h x_ nm0 "value" "[B" (rr b_) ∧ Arv Z h b_ kb_ .byte (6 : Int32) [(.int (nar .byte ((c0_ >>> ((0 : Int32) &&& 31)).toInt8.toInt32))), (.int (nar .byte ((c0_ >>> ((8 : Int32) &&& 31)).toInt8.toInt32))), (.int (nar .byte ((c1_ >>> ((0 : Int32) &&& 31)).toInt8.toInt32))), (.int (nar .byte ((c1_ >>> ((8 : Int32) &&& 31)).toInt8.toInt32))), (.int (nar .byte ((c2_ >>> ((0 : Int32) &&& 31)).toInt8.toInt32))), (.int (nar .byte ((c2_ >>> ((8 : Int32) &&& 31)).toInt8.toInt32)))] (ii 0) ∧ n0 ≤ b_ ∧ h0.size ≤ b_)
set_option maxRecDepth 65536 in
set_option maxHeartbeats 40000000 in
theorem rm_str1a_3 (l : Launch) (Z : State) (a0 : Array Value) (hw : HW Z a0) (ws : List Jvm.Cond) (x_ : Addr) (s_ : Addr) (ks_ : ClassId) (z_ : Int32) (c0_ : Int32) (c1_ : Int32) (c2_ : Int32) (h0 : Heap) (n0 : Nat) (O0 : Old Z n0 h0) (E0_ : Exa Z h0 x_ nm0) (F1_ : Fld Z h0 x_ nm0 "value" "[B" .null) (F2_ : Fld Z h0 x_ nm0 "coder" "B" (ii 0)) (G3_ : n0 ≤ x_) (A4_ : Arv Z h0 s_ ks_ .char (3 : Int32) [(.int c0_), (.int c1_), (.int c2_)] (ii 0)) (ZS5_ : Sta Z Z.heap nm0 "COMPACT_STRINGS" "Z" (.int z_)) (hz_ : ¬ (z_ = (0 : Int32))) (ZS7_ : Sta Z Z.heap nm1 "$assertionsDisabled" "Z" (ii 1)) (ZS8_ : Sta Z Z.heap nm1 "HI_BYTE_SHIFT" "I" (ii 0)) (ZS9_ : Sta Z Z.heap nm1 "LO_BYTE_SHIFT" "I" (ii 8)) (hc0_ : nar .char c0_ = c0_) (hc1_ : nar .char c1_ = c1_) (hc2_ : nar .char c2_ = c2_) :
  MFP l Z (⟨nm0, "<init>", "([C)V"⟩ : MethodName) jdk_42_method_3_code 2 none ({ frames := 5, cells := 2, slots := 9, locals := 74 } : Room) ws #[(rr x_), (rr s_)] h0 (Q_str1a_3 Z x_ s_ ks_ z_ c0_ c1_ c2_ h0 n0) := by
 refine MetFree.of_bodySF (plainFor_of_name pn_java_lang_String) hisR ?_
 intro p e s m args below meth c s₁ Bd hml0 hP hK
 obtain ⟨rfl, hZ, hh⟩ := hP
 have hx := Bd.exec
 have hby := Bd.bytes
 have hml : c.maxLocals = 2 := hml0
 have hown : s.vm.findClass nm0 = some m.cls := findClass_of_methodNamed Bd.named
 have hnm := (name_of_methodNamed Bd.named Bd.method).1
 have X0 : Stand p l e ({ frames := 5, cells := 2, slots := 9, locals := 74 } : Room) s m #[(rr x_), (rr s_)] below meth c s₁ [] 0 0 := Stand.of_body Bd
 have e0 : s₁.heap = h0 := by rw [← hh, Bd.state]; rfl
 have N0 := Fr.nil n0
 have kp0 : Keep h0 h0 [x_] := Keep.refl _ _
 have c0 : ∀ t, S_ p e below s₁ m 0 #[vr x_, vr s_] [] t → Steps p.tables e below (s₁.setTop (entryFrame m #[(rr x_), (rr s_)] 2)) t := fun t k => castTop (ef_str1a_3 m x_ s_) k
 generalize s₁.setTop (entryFrame m #[(rr x_), (rr s_)] 2) = st0 at c0 ⊢
 replace c0 : Kt p e below s₁ st0 (mkF m 0 #[vr x_, vr s_] []) := c0
 have c1 : Kt p e below s₁ st0 (mkF m 6 #[vr x_, vr s_] [.null, (ii 3), (ii 0), (rr s_), (rr x_)]) := fun t k => by
  refine c0 t ?_
  show S_ p e below s₁ m 0 #[vr x_, vr s_] [] t
  refine XS.aloadN X0.here hx rfl (hb hby d9_0) rfl rfl ?_
  refine XS.aloadN X0.here hx rfl (hb hby d9_1) rfl rfl ?_
  refine XS.iconst X0.here hx rfl (hb hby d9_2) ?_
  refine XS.aloadN X0.here hx rfl (hb hby d9_3) rfl rfl ?_
  refine ldLen X0 hx hZ e0 A4_ rfl rfl (hb hby d9_4) ?_
  refine XS.aconstNull X0.here hx rfl (hb hby d9_5) ?_
  exact k
 obtain ⟨_, T2, L2, X2, hQ2, c2⟩ := kspec X0 hx hZ hown (w11 hw) (w12 hw) (w6 hw) (w14 hw) (rm_str4a_3 l Z a0 hw [] x_ s_ ks_ z_ c0_ c1_ c2_ h0 n0 O0 E0_ F1_ F2_ G3_ A4_ ZS5_ hz_ ZS7_ ZS8_ ZS9_ hc0_ hc1_ hc2_) e0 c1 hml pd_pACIILjava_lang_Void_rV x_ [(rr s_), (ii 0), (ii 3), .null] [] 0 (hb hby d9_6) rfl rfl rfl rfl rfl rfl
 rcases hQ2 with hQ2 | hQ2
 ·obtain ⟨rfl, N3q, K4, p5, p6, b7, k8, p9, p10, p11, p12, p13, p14, p15⟩ := hQ2
  have N3 := Fr.app N0 N3q
  have o16 := O0.keep K4 (allS G3_ all0)
  have kp17 := kp0.trans K4 (allS (Or.inl (List.mem_of_getElem? (i := 0) rfl)) all0)
  have z18 := Nat.le_trans kp0.1 p12
  have g19 := Nat.le_trans (Nat.le_trans (Nat.le_of_eq O0.1.symm) O0.2.1) p12
  obtain ⟨fs, hr, hrun, hended, hW, hsame⟩ := X2.leave (v := none) (fun _ => rfl)
  refine ⟨_, _, c2 _ ?_, hrun, hended, _, _, rfl, ?_, ⟨_, rfl⟩, hW, hsame.mono (by decide) (by decide)⟩
  ·show S_ p e below T2 m 9 #[vr x_, vr s_] [] _
   exact X2.returnOut hx Bd.returns (hb hby d9_9) hr
  ·show Q_str1a_3 Z x_ s_ ks_ z_ c0_ c1_ c2_ h0 n0 _ T2.heap _
   exact (Or.inl ⟨rfl, N3, kp17, p5, p6, b7, k8, p9, p10, g19, z18, p13, p14, p15⟩)
 ·obtain ⟨rfl, N20q, K21, p22, p23, b24, k25, p26, p27, p28, p29⟩ := hQ2
  have N20 := Fr.app N0 N20q
  have o30 := O0.keep K21 (allS G3_ all0)
  have kp31 := kp0.trans K21 (allS (Or.inl (List.mem_of_getElem? (i := 0) rfl)) all0)
  have z32 := Nat.le_trans kp0.1 p29
  have g33 := Nat.le_trans (Nat.le_trans (Nat.le_of_eq O0.1.symm) O0.2.1) p29
  obtain ⟨fs, hr, hrun, hended, hW, hsame⟩ := X2.leave (v := none) (fun _ => rfl)
  refine ⟨_, _, c2 _ ?_, hrun, hended, _, _, rfl, ?_, ⟨_, rfl⟩, hW, hsame.mono (by decide) (by decide)⟩
  ·show S_ p e below T2 m 9 #[vr x_, vr s_] [] _
   exact X2.returnOut hx Bd.returns (hb hby d9_9) hr
  ·show Q_str1a_3 Z x_ s_ ks_ z_ c0_ c1_ c2_ h0 n0 _ T2.heap _
   exact (Or.inr (⟨rfl, N20, kp31, p22, p23, b24, k25, p26, p27, g33, z32⟩))
theorem d8_8 : decode jdk_42_method_149_code 8 = .ok (.aload_n 0, 1) := by decide +kernel
theorem d8_9 : decode jdk_42_method_149_code 9 = .ok (.ldc 7, 2) := by decide +kernel
theorem d8_11 : decode jdk_42_method_149_code 11 = .ok (.getfield 9, 3) := by decide +kernel
theorem d8_14 : decode jdk_42_method_149_code 14 = .ok (.putfield 9, 3) := by decide +kernel
theorem d8_17 : decode jdk_42_method_149_code 17 = .ok (.aload_n 0, 1) := by decide +kernel
theorem d8_18 : decode jdk_42_method_149_code 18 = .ok (.ldc 7, 2) := by decide +kernel
theorem d8_20 : decode jdk_42_method_149_code 20 = .ok (.getfield 15, 3) := by decide +kernel
theorem d8_23 : decode jdk_42_method_149_code 23 = .ok (.putfield 15, 3) := by decide +kernel
theorem d8_26 : decode jdk_42_method_149_code 26 = .ok (.return_, 1) := by decide +kernel
theorem ef_str4_0 (m : MethodId) (x_ : Addr) (s_ : Addr) : entryFrame m #[(rr x_), (rr s_), (ii 0), (ii 0), .null] 6 = mkF m 0 #[vr x_, vr s_, vi 0, vi 0, .val .null, u_] [] := by first | (simp [entryFrame, mkF, argsToLocals, Value.category]; done) | rfl
def Q_str4_0 (Z : State) (x_ : Addr) (s_ : Addr) (ks_ : ClassId) (h0 : Heap) (n0 : Nat) (v : Option Value) (h : Heap) (L : List Loc) : Prop := v = none ∧ Fr n0 L ∧ Keep h0 h [x_] ∧ Exa Z h x_ nm0 ∧ Fld Z h x_ nm0 "coder" "B" (ii 0) ∧ ∃ (b_ : Addr), ∃ (kb_ : ClassId), Fld Z h x_ nm0 "value" "[B" (rr b_) ∧ Arv Z h b_ kb_ .byte (0 : Int32) [] (ii 0)
set_option maxRecDepth 65536 in
set_option maxHeartbeats 40000000 in
theorem rm_str4_0 (l : Launch) (Z : State) (a0 : Array Value) (hw : HW Z a0) (ws : List Jvm.Cond) (x_ : Addr) (s_ : Addr) (ks_ : ClassId) (h0 : Heap) (n0 : Nat) (O0 : Old Z n0 h0) (E0_ : Exa Z h0 x_ nm0) (F1_ : Fld Z h0 x_ nm0 "value" "[B" .null) (F2_ : Fld Z h0 x_ nm0 "coder" "B" (ii 0)) (G3_ : n0 ≤ x_) (A4_ : Arv Z h0 s_ ks_ .char (0 : Int32) [] (ii 0)) (hlit_ : Jvm.Lit.constHeld Z nm0 7) (hcw : Jvm.Lit.compactW.before a0 Z = true) :
  MFI l Z (⟨nm0, "<init>", "([CIILjava/lang/Void;)V"⟩ : MethodName) jdk_42_method_149_code 6 none ({ frames := 1, cells := 2, slots := 4, locals := 12 } : Room) ws #[(rr x_), (rr s_), (ii 0), (ii 0), .null] h0 (Q_str4_0 Z x_ s_ ks_ h0 n0) := by
 refine MetFree.of_bodySF (plainFor_of_name pn_java_lang_String) hisR ?_
 intro p e s m args below meth c s₁ Bd hml0 hP hK
 obtain ⟨rfl, hZ, hh, hI⟩ := hP
 have hx := Bd.exec
 have hby := Bd.bytes
 have hml : c.maxLocals = 6 := hml0
 have hown : s.vm.findClass nm0 = some m.cls := findClass_of_methodNamed Bd.named
 have hnm := (name_of_methodNamed Bd.named Bd.method).1
 have X0 : Stand p l e ({ frames := 1, cells := 2, slots := 4, locals := 12 } : Room) (s.setVm s.vm) m #[(rr x_), (rr s_), (ii 0), (ii 0), .null] below meth c s₁ [] 0 0 := Stand.of_body Bd
 have e0 : s₁.heap = h0 := by rw [← hh, Bd.state]; rfl
 have N0 := Fr.nil n0
 have kp0 : Keep h0 h0 [x_] := Keep.refl _ _
 have hS0 : s.Since s.vm 0 := (State.WarmedH.refl s).since 0
 have c0 : ∀ t, S_ p e below s₁ m 0 #[vr x_, vr s_, vi 0, vi 0, .val .null, u_] [] t → Steps p.tables e below (s₁.setTop (entryFrame m #[(rr x_), (rr s_), (ii 0), (ii 0), .null] 6)) t := fun t k => castTop (ef_str4_0 m x_ s_) k
 generalize s₁.setTop (entryFrame m #[(rr x_), (rr s_), (ii 0), (ii 0), .null] 6) = st0 at c0 ⊢
 replace c0 : Kt p e below s₁ st0 (mkF m 0 #[vr x_, vr s_, vi 0, vi 0, .val .null, u_] []) := c0
 have c1 : Kt p e below s₁ st0 (mkF m 1 #[vr x_, vr s_, vi 0, vi 0, .val .null, u_] [(rr x_)]) := fun t k => by
  refine c0 t ?_
  show S_ p e below s₁ m 0 #[vr x_, vr s_, vi 0, vi 0, .val .null, u_] [] t
  refine XS.aloadN X0.here hx rfl (hb hby d8_0) rfl rfl ?_
  exact k
 obtain ⟨T2, X2, e2, c2⟩ := kinit X0 hx hZ hown (w15 hw) (w16 hw) (w17 hw) e0 c1 rfl hml rfl rfl (hb hby d8_1) 0 (own_w rfl) (by decide) (by decide)
 have c3 : Kt p e below T2 st0 (mkF m 9 #[vr x_, vr s_, vi 0, vi 0, .val .null, u_] [(rr x_)]) := fun t k => by
  refine c2 t ?_
  show S_ p e below T2 m 4 #[vr x_, vr s_, vi 0, vi 0, .val .null, u_] [] t
  refine XS.iloadN X2.here hx rfl (hb hby d8_4) rfl ?_
  refine XS.ifNo X2.here hx rfl (hb hby d8_5) rfl rfl ?_
  refine XS.aloadN X2.here hx rfl (hb hby d8_8) rfl rfl ?_
  exact k
 obtain ⟨a4, T4, h4, k4, b4, kb4, X4, e4, E4, o5, hS4, hk4, hZ4, hown4, fE4, fC4, fV4, fA4, Lt4, c4⟩ := kldcV X2 hx hZ hown (w18 hw) (own_atoms hw) e2 c3 0 (hb hby d8_9) rfl hh O0 hI hlit_ hcw (vs := []) (z := (0 : Int32)) ⟨by decide, rfl⟩ (by decide) rfl (by decide) (by decide) (by decide) (by decide) O0
 have kp6 := kp0.ext E4
 obtain ⟨T7, X7, e7, c7⟩ := kget X4 hx hZ4 hown4 (host := "") (Or.inl (w24 hw)) Via.refl e4 fV4 c4 rfl rfl (hb hby d8_11)
 obtain ⟨T8, h8, X8, e8, W8, f9, o11, N10, c8⟩ := kput X7 hx hZ4 (.array .byte) hown4 (host := "") (Or.inl (w24 hw)) Via.refl e7 (F1_.ext E4) (E0_.ext E4) (Or.inr ⟨(w20 hw), rfl, hnm⟩) (w5 hw) c7 rfl rfl (hb hby d8_14) (by decide) rfl rfl o5 N0 G3_
 have kp12 := kp6.wr W8 (Or.inl (List.mem_of_getElem? (i := 0) rfl))
 have f13 := fC4.other W8 (Or.inr (slot_ne (Or.inr (w21 hw)) (Or.inr (w20 hw)) (by decide) (t := .byte) (t' := (.array .byte)) (by decide) (by decide)))
 have c14 : Kt p e below T8 st0 (mkF m 20 #[vr x_, vr s_, vi 0, vi 0, .val .null, u_] [(rr a4), (rr x_)]) := fun t k => by
  refine c8 t ?_
  show S_ p e below T8 m 17 #[vr x_, vr s_, vi 0, vi 0, .val .null, u_] [] t
  refine XS.aloadN X8.here hx rfl (hb hby d8_17) rfl rfl ?_
  show S_ p e below T8 m 18 #[vr x_, vr s_, vi 0, vi 0, .val .null, u_] [(rr x_)] t
  refine ldcAgain X8 hx hZ4 hown4 (w18 hw) Lt4 (g := (mkF m 18 #[vr x_, vr s_, vi 0, vi 0, .val .null, u_] [(rr x_)])) rfl (hb hby d8_18) _ ?_
  exact k
 obtain ⟨T15, X15, e15, c15⟩ := kget X8 hx hZ4 hown4 (host := "") (Or.inl (w25 hw)) Via.refl e8 f13 c14 rfl rfl (hb hby d8_20)
 have f16 := (F2_.ext E4).other W8 (Or.inr (slot_ne (Or.inr (w21 hw)) (Or.inr (w20 hw)) (by decide) (t := .byte) (t' := (.array .byte)) (by decide) (by decide)))
 obtain ⟨T17, h17, X17, e17, W17, f18, o20, N19, c17⟩ := kput X15 hx hZ4 .byte hown4 (host := "") (Or.inl (w25 hw)) Via.refl e15 f16 ((E0_.ext E4).wr W8) (Or.inr ⟨(w21 hw), rfl, hnm⟩) (w5 hw) c15 rfl rfl (hb hby d8_23) (by decide) rfl rfl o11 N10 G3_
 have kp21 := kp12.wr W17 (Or.inl (List.mem_of_getElem? (i := 0) rfl))
 have f22 := f9.other W17 (Or.inr (slot_ne (Or.inr (w20 hw)) (Or.inr (w21 hw)) (by decide) (t := (.array .byte)) (t' := .byte) (by decide) (by decide)))
 have q23 := Ne.symm (Exa.neArv (E0_.ext E4) fA4 (w5 hw))
 obtain ⟨fs, hr, hrun, hended, hRW⟩ := X17.leaveW hS4 (by first | exact (Nat.le_trans hk4 (Nat.le_trans (Keep.of_wr W8).1 (Keep.of_wr W17).1)) | (rw [e17]; exact (Nat.le_trans hk4 (Nat.le_trans (Keep.of_wr W8).1 (Keep.of_wr W17).1)))) (v := none) (fun _ => rfl)
 refine ⟨_, _, c17 _ ?_, hrun, hended, _, _, rfl, ?_, hRW.1, hRW.2.1, hRW.2.2.1, hRW.2.2.2.mono (by decide) (by decide)⟩
 ·show S_ p e below T17 m 26 #[vr x_, vr s_, vi 0, vi 0, .val .null, u_] [] _
  exact X17.returnOut hx Bd.returns (hb hby d8_26) hr
 ·show Q_str4_0 Z x_ s_ ks_ h0 n0 _ T17.heap _
  rw [e17]
  exact ⟨rfl, N19, kp21, (((E0_.ext E4).wr W8).wr W17), f18, b4, kb4, f22, ((fA4.other W8 q23).other W17 q23)⟩
theorem ef_str1_0 (m : MethodId) (x_ : Addr) (s_ : Addr) : entryFrame m #[(rr x_), (rr s_)] 2 = mkF m 0 #[vr x_, vr s_] [] := by first | (simp [entryFrame, mkF, argsToLocals, Value.category]; done) | rfl
def Q_str1_0 (Z : State) (x_ : Addr) (s_ : Addr) (ks_ : ClassId) (h0 : Heap) (n0 : Nat) (v : Option Value) (h : Heap) (L : List Loc) : Prop := v = none ∧ Fr n0 L ∧ Keep h0 h [x_] ∧ Exa Z h x_ nm0 ∧ Fld Z h x_ nm0 "coder" "B" (ii 0) ∧ ∃ (b_ : Addr), ∃ (kb_ : ClassId), Fld Z h x_ nm0 "value" "[B" (rr b_) ∧ Arv Z h b_ kb_ .byte (0 : Int32) [] (ii 0)
set_option maxRecDepth 65536 in
set_option maxHeartbeats 40000000 in
theorem rm_str1_0 (l : Launch) (Z : State) (a0 : Array Value) (hw : HW Z a0) (ws : List Jvm.Cond) (x_ : Addr) (s_ : Addr) (ks_ : ClassId) (h0 : Heap) (n0 : Nat) (O0 : Old Z n0 h0) (E0_ : Exa Z h0 x_ nm0) (F1_ : Fld Z h0 x_ nm0 "value" "[B" .null) (F2_ : Fld Z h0 x_ nm0 "coder" "B" (ii 0)) (G3_ : n0 ≤ x_) (A4_ : Arv Z h0 s_ ks_ .char (0 : Int32) [] (ii 0)) (hlit_ : Jvm.Lit.constHeld Z nm0 7) (hcw : Jvm.Lit.compactW.before a0 Z = true) :
  MFI l Z (⟨nm0, "<init>", "([C)V"⟩ : MethodName) jdk_42_method_3_code 2 none ({ frames := 2, cells := 2, slots := 4, locals := 29 } : Room) ws #[(rr x_), (rr s_)] h0 (Q_str1_0 Z x_ s_ ks_ h0 n0) := by
 refine MetFree.of_bodySF (plainFor_of_name pn_java_lang_String) hisR ?_
 intro p e s m args below meth c s₁ Bd hml0 hP hK
 obtain ⟨rfl, hZ, hh, hI⟩ := hP
 have hx := Bd.exec
 have hby := Bd.bytes
 have hml : c.maxLocals = 2 := hml0
 have hown : s.vm.findClass nm0 = some m.cls := findClass_of_methodNamed Bd.named
 have hnm := (name_of_methodNamed Bd.named Bd.method).1
 have X0 : Stand p l e ({ frames := 2, cells := 2, slots := 4, locals := 29 } : Room) (s.setVm s.vm) m #[(rr x_), (rr s_)] below meth c s₁ [] 0 0 := Stand.of_body Bd
 have e0 : s₁.heap = h0 := by rw [← hh, Bd.state]; rfl
 have N0 := Fr.nil n0
 have kp0 : Keep h0 h0 [x_] := Keep.refl _ _
 have hS0 : s.Since s.vm 0 := (State.WarmedH.refl s).since 0
 have c0 : ∀ t, S_ p e below s₁ m 0 #[vr x_, vr s_] [] t → Steps p.tables e below (s₁.setTop (entryFrame m #[(rr x_), (rr s_)] 2)) t := fun t k => castTop (ef_str1_0 m x_ s_) k
 generalize s₁.setTop (entryFrame m #[(rr x_), (rr s_)] 2) = st0 at c0 ⊢
 replace c0 : Kt p e below s₁ st0 (mkF m 0 #[vr x_, vr s_] []) := c0
 have c1 : Kt p e below s₁ st0 (mkF m 6 #[vr x_, vr s_] [.null, (ii 0), (ii 0), (rr s_), (rr x_)]) := fun t k => by
  refine c0 t ?_
  show S_ p e below s₁ m 0 #[vr x_, vr s_] [] t
  refine XS.aloadN X0.here hx rfl (hb hby d9_0) rfl rfl ?_
  refine XS.aloadN X0.here hx rfl (hb hby d9_1) rfl rfl ?_
  refine XS.iconst X0.here hx rfl (hb hby d9_2) ?_
  refine XS.aloadN X0.here hx rfl (hb hby d9_3) rfl rfl ?_
  refine ldLen X0 hx hZ e0 A4_ rfl rfl (hb hby d9_4) ?_
  refine XS.aconstNull X0.here hx rfl (hb hby d9_5) ?_
  exact k
 obtain ⟨_, T2, L2, X2, hQ2, hS2, hZ2, hown2, c2⟩ := kspecB X0 hx hZ hown hS0 (Nat.zero_le _) (w11 hw) (w12 hw) (w14 hw) (rm := ({ frames := 1, cells := 2, slots := 4, locals := 12 } : Room)) (backOfSI (W := 0) (rm_str4_0 l Z a0 hw [] x_ s_ ks_ h0 n0 O0 E0_ F1_ F2_ G3_ A4_ hlit_ hcw) hZ hI (w14 hw) (w6 hw) (by decide) (by decide)) e0 c1 hml pd_pACIILjava_lang_Void_rV x_ [(rr s_), (ii 0), (ii 0), .null] [] (hb hby d9_6) rfl rfl rfl rfl rfl rfl
 obtain ⟨rfl, N3q, K4, p5, p6, b7, k8, p9, p10⟩ := hQ2
 have N3 := Fr.app N0 N3q
 have o11 := O0.keep K4 (allS G3_ all0)
 have kp12 := kp0.trans K4 (allS (Or.inl (List.mem_of_getElem? (i := 0) rfl)) all0)
 obtain ⟨fs, hr, hrun, hended, hRW⟩ := X2.leaveW hS2 (by first | exact (Nat.le_refl _) | (rw [rfl]; exact (Nat.le_refl _))) (v := none) (fun _ => rfl)
 refine ⟨_, _, c2 _ ?_, hrun, hended, _, _, rfl, ?_, hRW.1, hRW.2.1, hRW.2.2.1, hRW.2.2.2.mono (by decide) (by decide)⟩
 ·show S_ p e below T2 m 9 #[vr x_, vr s_] [] _
  exact X2.returnOut hx Bd.returns (hb hby d9_9) hr
 ·show Q_str1_0 Z x_ s_ ks_ h0 n0 _ T2.heap _
  exact ⟨rfl, N3, kp12, p5, p6, b7, k8, p9, p10⟩
theorem d10_0 : decode jdk_42_method_152_code 0 = .ok (.getstatic 38, 3) := by decide +kernel
theorem d10_3 : decode jdk_42_method_152_code 3 = .ok (.ifCond .eq 10, 3) := by decide +kernel
theorem d10_6 : decode jdk_42_method_152_code 6 = .ok (.aload_n 0, 1) := by decide +kernel
theorem d10_7 : decode jdk_42_method_152_code 7 = .ok (.getfield 15, 3) := by decide +kernel
theorem d10_10 : decode jdk_42_method_152_code 10 = .ok (.goto 4, 3) := by decide +kernel
theorem d10_14 : decode jdk_42_method_152_code 14 = .ok (.ireturn, 1) := by decide +kernel
theorem ef_codL (m : MethodId) (x_ : Addr) : entryFrame m #[(rr x_)] 1 = mkF m 0 #[vr x_] [] := by first | (simp [entryFrame, mkF, argsToLocals, Value.category]; done) | rfl
def Q_codL (Z : State) (x_ : Addr) (z_ : Int32) (h0 : Heap) (n0 : Nat) (v : Option Value) (h : Heap) (L : List Loc) : Prop := v = some (ii 0) ∧ Fr n0 L ∧ h = h0
set_option maxRecDepth 65536 in
set_option maxHeartbeats 40000000 in
theorem rm_codL (l : Launch) (Z : State) (a0 : Array Value) (hw : HW Z a0) (ws : List Jvm.Cond) (x_ : Addr) (z_ : Int32) (h0 : Heap) (n0 : Nat) (O0 : Old Z n0 h0) (F0_ : Fld Z h0 x_ nm0 "coder" "B" (ii 0)) (ZS1_ : Sta Z Z.heap nm0 "COMPACT_STRINGS" "Z" (.int z_)) (hz_ : ¬ (z_ = (0 : Int32))) :
  MFP l Z (⟨nm0, "coder", "()B"⟩ : MethodName) jdk_42_method_152_code 1 (some .byte) ({ frames := 0, cells := 0, slots := 0, locals := 0 } : Room) ws #[(rr x_)] h0 (Q_codL Z x_ z_ h0 n0) := by
 refine MetFree.of_bodySF (plainFor_of_name pn_java_lang_String) hisR ?_
 intro p e s m args below meth c s₁ Bd hml0 hP hK
 obtain ⟨rfl, hZ, hh⟩ := hP
 have hx := Bd.exec
 have hby := Bd.bytes
 have hml : c.maxLocals = 1 := hml0
 have hown : s.vm.findClass nm0 = some m.cls := findClass_of_methodNamed Bd.named
 have hnm := (name_of_methodNamed Bd.named Bd.method).1
 have X0 : Stand p l e ({ frames := 0, cells := 0, slots := 0, locals := 0 } : Room) s m #[(rr x_)] below meth c s₁ [] 0 0 := Stand.of_body Bd
 have e0 : s₁.heap = h0 := by rw [← hh, Bd.state]; rfl
 have N0 := Fr.nil n0
 have kp0 : Keep h0 h0 [] := Keep.refl _ _
 have c0 : ∀ t, S_ p e below s₁ m 0 #[vr x_] [] t → Steps p.tables e below (s₁.setTop (entryFrame m #[(rr x_)] 1)) t := fun t k => castTop (ef_codL m x_) k
 generalize s₁.setTop (entryFrame m #[(rr x_)] 1) = st0 at c0 ⊢
 replace c0 : Kt p e below s₁ st0 (mkF m 0 #[vr x_] []) := c0
 obtain ⟨T1, X1, e1, c1⟩ := kgetS X0 hx hZ hown (host := "") (Or.inl (w46 hw)) Via.refl e0 (ZS1_.ext O0.2) c0 rfl (hb hby d10_0)
 have c2 : Kt p e below T1 st0 (mkF m 7 #[vr x_] [(rr x_)]) := fun t k => by
  refine c1 t ?_
  show S_ p e below T1 m 3 #[vr x_] [(.int z_)] t
  refine XS.ifNo X1.here hx rfl (hb hby d10_3) rfl ((if0 _ _).trans (feq hz_).1) ?_
  refine XS.aloadN X1.here hx rfl (hb hby d10_6) rfl rfl ?_
  exact k
 obtain ⟨T3, X3, e3, c3⟩ := kget X1 hx hZ hown (host := "") (Or.inl (w25 hw)) Via.refl e1 F0_ c2 rfl rfl (hb hby d10_7)
 obtain ⟨fs, hr, hrun, hended, hW, hsame⟩ := X3.leave (v := some (ii 0)) (fun h => by rw [Bd.returns] at h; cases h)
 refine ⟨_, _, c3 _ ?_, hrun, hended, _, _, rfl, ?_, ⟨_, rfl⟩, hW, hsame.mono (by decide) (by decide)⟩
 ·show S_ p e below T3 m 10 #[vr x_] [(ii 0)] _
  refine yG X3.here hx rfl 10 14 rfl (hb hby d10_10) ?_
  show S_ p e below T3 m 14 #[vr x_] [(ii 0)] _
  exact retN X3 hx (t := .byte) Bd.returns (by simp) (hb hby d10_14) hr
 ·show Q_codL Z x_ z_ h0 n0 _ T3.heap _
  rw [e3]
  exact ⟨rfl, N0, rfl⟩
theorem d11_0 : decode jdk_42_method_154_code 0 = .ok (.getstatic 38, 3) := by decide +kernel
theorem d11_3 : decode jdk_42_method_154_code 3 = .ok (.ifCond .eq 14, 3) := by decide +kernel
theorem d11_6 : decode jdk_42_method_154_code 6 = .ok (.aload_n 0, 1) := by decide +kernel
theorem d11_7 : decode jdk_42_method_154_code 7 = .ok (.getfield 15, 3) := by decide +kernel
theorem d11_10 : decode jdk_42_method_154_code 10 = .ok (.ifCond .ne 7, 3) := by decide +kernel
theorem d11_13 : decode jdk_42_method_154_code 13 = .ok (.iconst 1, 1) := by decide +kernel
theorem d11_14 : decode jdk_42_method_154_code 14 = .ok (.goto 4, 3) := by decide +kernel
theorem d11_18 : decode jdk_42_method_154_code 18 = .ok (.ireturn, 1) := by decide +kernel
theorem ef_islL (m : MethodId) (x_ : Addr) : entryFrame m #[(rr x_)] 1 = mkF m 0 #[vr x_] [] := by first | (simp [entryFrame, mkF, argsToLocals, Value.category]; done) | rfl
def Q_islL (Z : State) (x_ : Addr) (z_ : Int32) (h0 : Heap) (n0 : Nat) (v : Option Value) (h : Heap) (L : List Loc) : Prop := v = some (ii 1) ∧ Fr n0 L ∧ h = h0
set_option maxRecDepth 65536 in
set_option maxHeartbeats 40000000 in
theorem rm_islL (l : Launch) (Z : State) (a0 : Array Value) (hw : HW Z a0) (ws : List Jvm.Cond) (x_ : Addr) (z_ : Int32) (h0 : Heap) (n0 : Nat) (O0 : Old Z n0 h0) (F0_ : Fld Z h0 x_ nm0 "coder" "B" (ii 0)) (ZS1_ : Sta Z Z.heap nm0 "COMPACT_STRINGS" "Z" (.int z_)) (hz_ : ¬ (z_ = (0 : Int32))) :
  MFP l Z (⟨nm0, "isLatin1", "()Z"⟩ : MethodName) jdk_42_method_154_code 1 (some .boolean) ({ frames := 0, cells := 0, slots := 0, locals := 0 } : Room) ws #[(rr x_)] h0 (Q_islL Z x_ z_ h0 n0) := by
 refine MetFree.of_bodySF (plainFor_of_name pn_java_lang_String) hisR ?_
 intro p e s m args below meth c s₁ Bd hml0 hP hK
 obtain ⟨rfl, hZ, hh⟩ := hP
 have hx := Bd.exec
 have hby := Bd.bytes
 have hml : c.maxLocals = 1 := hml0
 have hown : s.vm.findClass nm0 = some m.cls := findClass_of_methodNamed Bd.named
 have hnm := (name_of_methodNamed Bd.named Bd.method).1
 have X0 : Stand p l e ({ frames := 0, cells := 0, slots := 0, locals := 0 } : Room) s m #[(rr x_)] below meth c s₁ [] 0 0 := Stand.of_body Bd
 have e0 : s₁.heap = h0 := by rw [← hh, Bd.state]; rfl
 have N0 := Fr.nil n0
 have kp0 : Keep h0 h0 [] := Keep.refl _ _
 have c0 : ∀ t, S_ p e below s₁ m 0 #[vr x_] [] t → Steps p.tables e below (s₁.setTop (entryFrame m #[(rr x_)] 1)) t := fun t k => castTop (ef_islL m x_) k
 generalize s₁.setTop (entryFrame m #[(rr x_)] 1) = st0 at c0 ⊢
 replace c0 : Kt p e below s₁ st0 (mkF m 0 #[vr x_] []) := c0
 obtain ⟨T1, X1, e1, c1⟩ := kgetS X0 hx hZ hown (host := "") (Or.inl (w46 hw)) Via.refl e0 (ZS1_.ext O0.2) c0 rfl (hb hby d11_0)
 have c2 : Kt p e below T1 st0 (mkF m 7 #[vr x_] [(rr x_)]) := fun t k => by
  refine c1 t ?_
  show S_ p e below T1 m 3 #[vr x_] [(.int z_)] t
  refine XS.ifNo X1.here hx rfl (hb hby d11_3) rfl ((if0 _ _).trans (feq hz_).1) ?_
  refine XS.aloadN X1.here hx rfl (hb hby d11_6) rfl rfl ?_
  exact k
 obtain ⟨T3, X3, e3, c3⟩ := kget X1 hx hZ hown (host := "") (Or.inl (w25 hw)) Via.refl e1 F0_ c2 rfl rfl (hb hby d11_7)
 obtain ⟨fs, hr, hrun, hended, hW, hsame⟩ := X3.leave (v := some (ii 1)) (fun h => by rw [Bd.returns] at h; cases h)
 refine ⟨_, _, c3 _ ?_, hrun, hended, _, _, rfl, ?_, ⟨_, rfl⟩, hW, hsame.mono (by decide) (by decide)⟩
 ·show S_ p e below T3 m 10 #[vr x_] [(ii 0)] _
  refine XS.ifNo X3.here hx rfl (hb hby d11_10) rfl rfl ?_
  refine XS.iconst X3.here hx rfl (hb hby d11_13) ?_
  refine yG X3.here hx rfl 14 18 rfl (hb hby d11_14) ?_
  show S_ p e below T3 m 18 #[vr x_] [(ii 1)] _
  exact retN X3 hx (t := .boolean) Bd.returns (by simp) (hb hby d11_18) hr
 ·show Q_islL Z x_ z_ h0 n0 _ T3.heap _
  rw [e3]
  exact ⟨rfl, N0, rfl⟩
theorem ef_codU (m : MethodId) (x_ : Addr) : entryFrame m #[(rr x_)] 1 = mkF m 0 #[vr x_] [] := by first | (simp [entryFrame, mkF, argsToLocals, Value.category]; done) | rfl
def Q_codU (Z : State) (x_ : Addr) (z_ : Int32) (h0 : Heap) (n0 : Nat) (v : Option Value) (h : Heap) (L : List Loc) : Prop := v = some (ii 1) ∧ Fr n0 L ∧ h = h0
set_option maxRecDepth 65536 in
set_option maxHeartbeats 40000000 in
theorem rm_codU (l : Launch) (Z : State) (a0 : Array Value) (hw : HW Z a0) (ws : List Jvm.Cond) (x_ : Addr) (z_ : Int32) (h0 : Heap) (n0 : Nat) (O0 : Old Z n0 h0) (F0_ : Fld Z h0 x_ nm0 "coder" "B" (ii 1)) (ZS1_ : Sta Z Z.heap nm0 "COMPACT_STRINGS" "Z" (.int z_)) (hz_ : ¬ (z_ = (0 : Int32))) :
  MFP l Z (⟨nm0, "coder", "()B"⟩ : MethodName) jdk_42_method_152_code 1 (some .byte) ({ frames := 0, cells := 0, slots := 0, locals := 0 } : Room) ws #[(rr x_)] h0 (Q_codU Z x_ z_ h0 n0) := by
 refine MetFree.of_bodySF (plainFor_of_name pn_java_lang_String) hisR ?_
 intro p e s m args below meth c s₁ Bd hml0 hP hK
 obtain ⟨rfl, hZ, hh⟩ := hP
 have hx := Bd.exec
 have hby := Bd.bytes
 have hml : c.maxLocals = 1 := hml0
 have hown : s.vm.findClass nm0 = some m.cls := findClass_of_methodNamed Bd.named
 have hnm := (name_of_methodNamed Bd.named Bd.method).1
 have X0 : Stand p l e ({ frames := 0, cells := 0, slots := 0, locals := 0 } : Room) s m #[(rr x_)] below meth c s₁ [] 0 0 := Stand.of_body Bd
 have e0 : s₁.heap = h0 := by rw [← hh, Bd.state]; rfl
 have N0 := Fr.nil n0
 have kp0 : Keep h0 h0 [] := Keep.refl _ _
 have c0 : ∀ t, S_ p e below s₁ m 0 #[vr x_] [] t → Steps p.tables e below (s₁.setTop (entryFrame m #[(rr x_)] 1)) t := fun t k => castTop (ef_codU m x_) k
 generalize s₁.setTop (entryFrame m #[(rr x_)] 1) = st0 at c0 ⊢
 replace c0 : Kt p e below s₁ st0 (mkF m 0 #[vr x_] []) := c0
 obtain ⟨T1, X1, e1, c1⟩ := kgetS X0 hx hZ hown (host := "") (Or.inl (w46 hw)) Via.refl e0 (ZS1_.ext O0.2) c0 rfl (hb hby d10_0)
 have c2 : Kt p e below T1 st0 (mkF m 7 #[vr x_] [(rr x_)]) := fun t k => by
  refine c1 t ?_
  show S_ p e below T1 m 3 #[vr x_] [(.int z_)] t
  refine XS.ifNo X1.here hx rfl (hb hby d10_3) rfl ((if0 _ _).trans (feq hz_).1) ?_
  refine XS.aloadN X1.here hx rfl (hb hby d10_6) rfl rfl ?_
  exact k
 obtain ⟨T3, X3, e3, c3⟩ := kget X1 hx hZ hown (host := "") (Or.inl (w25 hw)) Via.refl e1 F0_ c2 rfl rfl (hb hby d10_7)
 obtain ⟨fs, hr, hrun, hended, hW, hsame⟩ := X3.leave (v := some (ii 1)) (fun h => by rw [Bd.returns] at h; cases h)
 refine ⟨_, _, c3 _ ?_, hrun, hended, _, _, rfl, ?_, ⟨_, rfl⟩, hW, hsame.mono (by decide) (by decide)⟩
 ·show S_ p e below T3 m 10 #[vr x_] [(ii 1)] _
  refine yG X3.here hx rfl 10 14 rfl (hb hby d10_10) ?_
  show S_ p e below T3 m 14 #[vr x_] [(ii 1)] _
  exact retN X3 hx (t := .byte) Bd.returns (by simp) (hb hby d10_14) hr
 ·show Q_codU Z x_ z_ h0 n0 _ T3.heap _
  rw [e3]
  exact ⟨rfl, N0, rfl⟩
theorem d11_17 : decode jdk_42_method_154_code 17 = .ok (.iconst 0, 1) := by decide +kernel
theorem ef_islU (m : MethodId) (x_ : Addr) : entryFrame m #[(rr x_)] 1 = mkF m 0 #[vr x_] [] := by first | (simp [entryFrame, mkF, argsToLocals, Value.category]; done) | rfl
def Q_islU (Z : State) (x_ : Addr) (z_ : Int32) (h0 : Heap) (n0 : Nat) (v : Option Value) (h : Heap) (L : List Loc) : Prop := v = some (ii 0) ∧ Fr n0 L ∧ h = h0
set_option maxRecDepth 65536 in
set_option maxHeartbeats 40000000 in
theorem rm_islU (l : Launch) (Z : State) (a0 : Array Value) (hw : HW Z a0) (ws : List Jvm.Cond) (x_ : Addr) (z_ : Int32) (h0 : Heap) (n0 : Nat) (O0 : Old Z n0 h0) (F0_ : Fld Z h0 x_ nm0 "coder" "B" (ii 1)) (ZS1_ : Sta Z Z.heap nm0 "COMPACT_STRINGS" "Z" (.int z_)) (hz_ : ¬ (z_ = (0 : Int32))) :
  MFP l Z (⟨nm0, "isLatin1", "()Z"⟩ : MethodName) jdk_42_method_154_code 1 (some .boolean) ({ frames := 0, cells := 0, slots := 0, locals := 0 } : Room) ws #[(rr x_)] h0 (Q_islU Z x_ z_ h0 n0) := by
 refine MetFree.of_bodySF (plainFor_of_name pn_java_lang_String) hisR ?_
 intro p e s m args below meth c s₁ Bd hml0 hP hK
 obtain ⟨rfl, hZ, hh⟩ := hP
 have hx := Bd.exec
 have hby := Bd.bytes
 have hml : c.maxLocals = 1 := hml0
 have hown : s.vm.findClass nm0 = some m.cls := findClass_of_methodNamed Bd.named
 have hnm := (name_of_methodNamed Bd.named Bd.method).1
 have X0 : Stand p l e ({ frames := 0, cells := 0, slots := 0, locals := 0 } : Room) s m #[(rr x_)] below meth c s₁ [] 0 0 := Stand.of_body Bd
 have e0 : s₁.heap = h0 := by rw [← hh, Bd.state]; rfl
 have N0 := Fr.nil n0
 have kp0 : Keep h0 h0 [] := Keep.refl _ _
 have c0 : ∀ t, S_ p e below s₁ m 0 #[vr x_] [] t → Steps p.tables e below (s₁.setTop (entryFrame m #[(rr x_)] 1)) t := fun t k => castTop (ef_islU m x_) k
 generalize s₁.setTop (entryFrame m #[(rr x_)] 1) = st0 at c0 ⊢
 replace c0 : Kt p e below s₁ st0 (mkF m 0 #[vr x_] []) := c0
 obtain ⟨T1, X1, e1, c1⟩ := kgetS X0 hx hZ hown (host := "") (Or.inl (w46 hw)) Via.refl e0 (ZS1_.ext O0.2) c0 rfl (hb hby d11_0)
 have c2 : Kt p e below T1 st0 (mkF m 7 #[vr x_] [(rr x_)]) := fun t k => by
  refine c1 t ?_
  show S_ p e below T1 m 3 #[vr x_] [(.int z_)] t
  refine XS.ifNo X1.here hx rfl (hb hby d11_3) rfl ((if0 _ _).trans (feq hz_).1) ?_
  refine XS.aloadN X1.here hx rfl (hb hby d11_6) rfl rfl ?_
  exact k
 obtain ⟨T3, X3, e3, c3⟩ := kget X1 hx hZ hown (host := "") (Or.inl (w25 hw)) Via.refl e1 F0_ c2 rfl rfl (hb hby d11_7)
 obtain ⟨fs, hr, hrun, hended, hW, hsame⟩ := X3.leave (v := some (ii 0)) (fun h => by rw [Bd.returns] at h; cases h)
 refine ⟨_, _, c3 _ ?_, hrun, hended, _, _, rfl, ?_, ⟨_, rfl⟩, hW, hsame.mono (by decide) (by decide)⟩
 ·show S_ p e below T3 m 10 #[vr x_] [(ii 1)] _
  refine yI X3.here hx rfl 10 17 rfl (hb hby d11_10) rfl rfl ?_
  refine XS.iconst X3.here hx rfl (hb hby d11_17) ?_
  show S_ p e below T3 m 18 #[vr x_] [(ii 0)] _
  exact retN X3 hx (t := .boolean) Bd.returns (by simp) (hb hby d11_18) hr
 ·show Q_islU Z x_ z_ h0 n0 _ T3.heap _
  rw [e3]
  exact ⟨rfl, N0, rfl⟩
theorem d12_0 : decode jdk_29_method_65_code 0 = .ok (.iload_n 0, 1) := by decide +kernel
theorem d12_1 : decode jdk_29_method_65_code 1 = .ok (.iload_n 1, 1) := by decide +kernel
theorem d12_2 : decode jdk_29_method_65_code 2 = .ok (.if_icmp .lt 7, 3) := by decide +kernel
theorem d12_5 : decode jdk_29_method_65_code 5 = .ok (.iload_n 0, 1) := by decide +kernel
theorem d12_6 : decode jdk_29_method_65_code 6 = .ok (.goto 4, 3) := by decide +kernel
theorem d12_10 : decode jdk_29_method_65_code 10 = .ok (.ireturn, 1) := by decide +kernel
theorem ef_mx0 (m : MethodId) : entryFrame m #[(ii 0), (ii 0)] 2 = mkF m 0 #[vi 0, vi 0] [] := by first | (simp [entryFrame, mkF, argsToLocals, Value.category]; done) | rfl
def Q_mx0 (Z : State) (h0 : Heap) (n0 : Nat) (v : Option Value) (h : Heap) (L : List Loc) : Prop := v = some (ii 0) ∧ Fr n0 L ∧ h = h0
set_option maxRecDepth 65536 in
set_option maxHeartbeats 40000000 in
theorem rm_mx0 (l : Launch) (Z : State) (a0 : Array Value) (hw : HW Z a0) (ws : List Jvm.Cond) (h0 : Heap) (n0 : Nat) (O0 : Old Z n0 h0) :
  MFP l Z (⟨"java/lang/Math", "max", "(II)I"⟩ : MethodName) jdk_29_method_65_code 2 (some .int) ({ frames := 0, cells := 0, slots := 0, locals := 0 } : Room) ws #[(ii 0), (ii 0)] h0 (Q_mx0 Z h0 n0) := by
 refine MetFree.of_bodySF (Jvm.Free.JP.mathPlain rfl (by decide +kernel)) hisR ?_
 intro p e s m args below meth c s₁ Bd hml0 hP hK
 obtain ⟨rfl, hZ, hh⟩ := hP
 have hx := Bd.exec
 have hby := Bd.bytes
 have hml : c.maxLocals = 2 := hml0
 have hown : s.vm.findClass "java/lang/Math" = some m.cls := findClass_of_methodNamed Bd.named
 have hnm := (name_of_methodNamed Bd.named Bd.method).1
 have X0 : Stand p l e ({ frames := 0, cells := 0, slots := 0, locals := 0 } : Room) s m #[(ii 0), (ii 0)] below meth c s₁ [] 0 0 := Stand.of_body Bd
 have e0 : s₁.heap = h0 := by rw [← hh, Bd.state]; rfl
 have N0 := Fr.nil n0
 have kp0 : Keep h0 h0 [] := Keep.refl _ _
 have c0 : ∀ t, S_ p e below s₁ m 0 #[vi 0, vi 0] [] t → Steps p.tables e below (s₁.setTop (entryFrame m #[(ii 0), (ii 0)] 2)) t := fun t k => castTop (ef_mx0 m) k
 generalize s₁.setTop (entryFrame m #[(ii 0), (ii 0)] 2) = st0 at c0 ⊢
 replace c0 : Kt p e below s₁ st0 (mkF m 0 #[vi 0, vi 0] []) := c0
 obtain ⟨fs, hr, hrun, hended, hW, hsame⟩ := X0.leave (v := some (ii 0)) (fun h => by rw [Bd.returns] at h; cases h)
 refine ⟨_, _, c0 _ ?_, hrun, hended, _, _, rfl, ?_, ⟨_, rfl⟩, hW, hsame.mono (by decide) (by decide)⟩
 ·show S_ p e below s₁ m 0 #[vi 0, vi 0] [] _
  refine XS.iloadN X0.here hx rfl (hb hby d12_0) rfl ?_
  refine XS.iloadN X0.here hx rfl (hb hby d12_1) rfl ?_
  refine XS.icmpNo X0.here hx rfl (hb hby d12_2) rfl rfl ?_
  refine XS.iloadN X0.here hx rfl (hb hby d12_5) rfl ?_
  refine yG X0.here hx rfl 6 10 rfl (hb hby d12_6) ?_
  show S_ p e below s₁ m 10 #[vi 0, vi 0] [(ii 0)] _
  exact retOut X0 hx Bd.returns rfl (Or.inl ⟨rfl, Or.inl rfl, _, rfl⟩) (hb hby d12_10) hr
 ·show Q_mx0 Z h0 n0 _ s₁.heap _
  rw [e0]
  exact ⟨rfl, N0, rfl⟩
theorem pn_java_lang_StringLatin1 : plainName nm5 = true := by first | (simp [plainName, overriddenIn]; done) | decide +kernel
theorem d13_0 : decode jdk_43_method_4_code 0 = .ok (.iload_n 0, 1) := by decide +kernel
theorem d13_1 : decode jdk_43_method_4_code 1 = .ok (.ifCond .lt 14, 3) := by decide +kernel
theorem d13_4 : decode jdk_43_method_4_code 4 = .ok (.iload_n 0, 1) := by decide +kernel
theorem d13_5 : decode jdk_43_method_4_code 5 = .ok (.sipush 255, 3) := by decide +kernel
theorem d13_8 : decode jdk_43_method_4_code 8 = .ok (.if_icmp .gt 7, 3) := by decide +kernel
theorem d13_11 : decode jdk_43_method_4_code 11 = .ok (.iconst 1, 1) := by decide +kernel
theorem d13_12 : decode jdk_43_method_4_code 12 = .ok (.goto 4, 3) := by decide +kernel
theorem d13_16 : decode jdk_43_method_4_code 16 = .ok (.ireturn, 1) := by decide +kernel
theorem ef_ceI (m : MethodId) (ch_ : Int32) : entryFrame m #[(.int ch_)] 1 = mkF m 0 #[vi ch_] [] := by first | (simp [entryFrame, mkF, argsToLocals, Value.category]; done) | rfl
def Q_ceI (Z : State) (ch_ : Int32) (h0 : Heap) (n0 : Nat) (v : Option Value) (h : Heap) (L : List Loc) : Prop := v = some (ii 1) ∧ Fr n0 L ∧ h = h0
set_option maxRecDepth 65536 in
set_option maxHeartbeats 40000000 in
theorem rm_ceI (l : Launch) (Z : State) (a0 : Array Value) (hw : HW Z a0) (ws : List Jvm.Cond) (ch_ : Int32) (h0 : Heap) (n0 : Nat) (O0 : Old Z n0 h0) (h1_ : ¬ (ch_ < (0 : Int32))) (h2_ : ¬ ((255 : Int32) < ch_)) :
  MFP l Z (⟨nm5, "canEncode", "(I)Z"⟩ : MethodName) jdk_43_method_4_code 1 (some .boolean) ({ frames := 0, cells := 0, slots := 0, locals := 0 } : Room) ws #[(.int ch_)] h0 (Q_ceI Z ch_ h0 n0) := by
 refine MetFree.of_bodySF (plainFor_of_name pn_java_lang_StringLatin1) hisR ?_
 intro p e s m args below meth c s₁ Bd hml0 hP hK
 obtain ⟨rfl, hZ, hh⟩ := hP
 have hx := Bd.exec
 have hby := Bd.bytes
 have hml : c.maxLocals = 1 := hml0
 have hown : s.vm.findClass nm5 = some m.cls := findClass_of_methodNamed Bd.named
 have hnm := (name_of_methodNamed Bd.named Bd.method).1
 have X0 : Stand p l e ({ frames := 0, cells := 0, slots := 0, locals := 0 } : Room) s m #[(.int ch_)] below meth c s₁ [] 0 0 := Stand.of_body Bd
 have e0 : s₁.heap = h0 := by rw [← hh, Bd.state]; rfl
 have N0 := Fr.nil n0
 have kp0 : Keep h0 h0 [] := Keep.refl _ _
 have c0 : ∀ t, S_ p e below s₁ m 0 #[vi ch_] [] t → Steps p.tables e below (s₁.setTop (entryFrame m #[(.int ch_)] 1)) t := fun t k => castTop (ef_ceI m ch_) k
 generalize s₁.setTop (entryFrame m #[(.int ch_)] 1) = st0 at c0 ⊢
 replace c0 : Kt p e below s₁ st0 (mkF m 0 #[vi ch_] []) := c0
 obtain ⟨fs, hr, hrun, hended, hW, hsame⟩ := X0.leave (v := some (ii 1)) (fun h => by rw [Bd.returns] at h; cases h)
 refine ⟨_, _, c0 _ ?_, hrun, hended, _, _, rfl, ?_, ⟨_, rfl⟩, hW, hsame.mono (by decide) (by decide)⟩
 ·show S_ p e below s₁ m 0 #[vi ch_] [] _
  refine XS.iloadN X0.here hx rfl (hb hby d13_0) rfl ?_
  refine XS.ifNo X0.here hx rfl (hb hby d13_1) rfl ((if0 _ _).trans (flt h1_).1) ?_
  refine XS.iloadN X0.here hx rfl (hb hby d13_4) rfl ?_
  refine XS.sipush X0.here hx rfl (hb hby d13_5) ?_
  refine XS.icmpNo X0.here hx rfl (hb hby d13_8) rfl (flt h2_).2.2.1 ?_
  refine XS.iconst X0.here hx rfl (hb hby d13_11) ?_
  refine yG X0.here hx rfl 12 16 rfl (hb hby d13_12) ?_
  show S_ p e below s₁ m 16 #[vi ch_] [(ii 1)] _
  exact retN X0 hx (t := .boolean) Bd.returns (by simp) (hb hby d13_16) hr
 ·show Q_ceI Z ch_ h0 n0 _ s₁.heap _
  rw [e0]
  exact ⟨rfl, N0, rfl⟩
theorem d14_0 : decode jdk_43_method_3_code 0 = .ok (.iload_n 0, 1) := by decide +kernel
theorem d14_1 : decode jdk_43_method_3_code 1 = .ok (.sipush 255, 3) := by decide +kernel
theorem d14_4 : decode jdk_43_method_3_code 4 = .ok (.if_icmp .gt 7, 3) := by decide +kernel
theorem d14_11 : decode jdk_43_method_3_code 11 = .ok (.iconst 0, 1) := by decide +kernel
theorem d14_12 : decode jdk_43_method_3_code 12 = .ok (.ireturn, 1) := by decide +kernel
theorem d14_7 : decode jdk_43_method_3_code 7 = .ok (.iconst 1, 1) := by decide +kernel
theorem d14_8 : decode jdk_43_method_3_code 8 = .ok (.goto 4, 3) := by decide +kernel
theorem ef_ceC (m : MethodId) (c_ : Int32) : entryFrame m #[(.int c_)] 1 = mkF m 0 #[vi c_] [] := by first | (simp [entryFrame, mkF, argsToLocals, Value.category]; done) | rfl
def Q_ceC (Z : State) (c_ : Int32) (h0 : Heap) (n0 : Nat) (v : Option Value) (h : Heap) (L : List Loc) : Prop := (v = some (ii 1) ∧ Fr n0 L ∧ h = h0 ∧ ¬ ((255 : Int32) < c_)) ∨ (v = some (ii 0) ∧ Fr n0 L ∧ h = h0 ∧ (255 : Int32) < c_)
set_option maxRecDepth 65536 in
set_option maxHeartbeats 40000000 in
theorem rm_ceC (l : Launch) (Z : State) (a0 : Array Value) (hw : HW Z a0) (ws : List Jvm.Cond) (c_ : Int32) (h0 : Heap) (n0 : Nat) (O0 : Old Z n0 h0) :
  MFP l Z (⟨nm5, "canEncode", "(C)Z"⟩ : MethodName) jdk_43_method_3_code 1 (some .boolean) ({ frames := 0, cells := 0, slots := 0, locals := 0 } : Room) ws #[(.int c_)] h0 (Q_ceC Z c_ h0 n0) := by
 refine MetFree.of_bodySF (plainFor_of_name pn_java_lang_StringLatin1) hisR ?_
 intro p e s m args below meth c s₁ Bd hml0 hP hK
 obtain ⟨rfl, hZ, hh⟩ := hP
 have hx := Bd.exec
 have hby := Bd.bytes
 have hml : c.maxLocals = 1 := hml0
 have hown : s.vm.findClass nm5 = some m.cls := findClass_of_methodNamed Bd.named
 have hnm := (name_of_methodNamed Bd.named Bd.method).1
 have X0 : Stand p l e ({ frames := 0, cells := 0, slots := 0, locals := 0 } : Room) s m #[(.int c_)] below meth c s₁ [] 0 0 := Stand.of_body Bd
 have e0 : s₁.heap = h0 := by rw [← hh, Bd.state]; rfl
 have N0 := Fr.nil n0
 have kp0 : Keep h0 h0 [] := Keep.refl _ _
 have c0 : ∀ t, S_ p e below s₁ m 0 #[vi c_] [] t → Steps p.tables e below (s₁.setTop (entryFrame m #[(.int c_)] 1)) t := fun t k => castTop (ef_ceC m c_) k
 generalize s₁.setTop (entryFrame m #[(.int c_)] 1) = st0 at c0 ⊢
 replace c0 : Kt p e below s₁ st0 (mkF m 0 #[vi c_] []) := c0
 have c1 : Kt p e below s₁ st0 (mkF m 4 #[vi c_] [(ii 255), (.int c_)]) := fun t k => by
  refine c0 t ?_
  show S_ p e below s₁ m 0 #[vi c_] [] t
  refine XS.iloadN X0.here hx rfl (hb hby d14_0) rfl ?_
  refine XS.sipush X0.here hx rfl (hb hby d14_1) ?_
  exact k
 by_cases hc2 : (255 : Int32) < c_
 ·obtain ⟨fs, hr, hrun, hended, hW, hsame⟩ := X0.leave (v := some (ii 0)) (fun h => by rw [Bd.returns] at h; cases h)
  refine ⟨_, _, c1 _ ?_, hrun, hended, _, _, rfl, ?_, ⟨_, rfl⟩, hW, hsame.mono (by decide) (by decide)⟩
  ·show S_ p e below s₁ m 4 #[vi c_] [(ii 255), (.int c_)] _
   refine yC X0.here hx rfl 4 11 rfl (hb hby d14_4) rfl (tlt hc2).2.2.1 ?_
   refine XS.iconst X0.here hx rfl (hb hby d14_11) ?_
   show S_ p e below s₁ m 12 #[vi c_] [(ii 0)] _
   exact retN X0 hx (t := .boolean) Bd.returns (by simp) (hb hby d14_12) hr
  ·show Q_ceC Z c_ h0 n0 _ s₁.heap _
   rw [e0]
   exact (Or.inr (⟨rfl, N0, rfl, hc2⟩))
 ·obtain ⟨fs, hr, hrun, hended, hW, hsame⟩ := X0.leave (v := some (ii 1)) (fun h => by rw [Bd.returns] at h; cases h)
  refine ⟨_, _, c1 _ ?_, hrun, hended, _, _, rfl, ?_, ⟨_, rfl⟩, hW, hsame.mono (by decide) (by decide)⟩
  ·show S_ p e below s₁ m 4 #[vi c_] [(ii 255), (.int c_)] _
   refine XS.icmpNo X0.here hx rfl (hb hby d14_4) rfl (flt hc2).2.2.1 ?_
   refine XS.iconst X0.here hx rfl (hb hby d14_7) ?_
   refine yG X0.here hx rfl 8 12 rfl (hb hby d14_8) ?_
   show S_ p e below s₁ m 12 #[vi c_] [(ii 1)] _
   exact retN X0 hx (t := .boolean) Bd.returns (by simp) (hb hby d14_12) hr
  ·show Q_ceC Z c_ h0 n0 _ s₁.heap _
   rw [e0]
   exact (Or.inl ⟨rfl, N0, rfl, hc2⟩)
theorem d15_0 : decode jdk_29_method_69_code 0 = .ok (.iload_n 0, 1) := by decide +kernel
theorem d15_1 : decode jdk_29_method_69_code 1 = .ok (.iload_n 1, 1) := by decide +kernel
theorem d15_2 : decode jdk_29_method_69_code 2 = .ok (.if_icmp .gt 7, 3) := by decide +kernel
theorem d15_5 : decode jdk_29_method_69_code 5 = .ok (.iload_n 0, 1) := by decide +kernel
theorem d15_6 : decode jdk_29_method_69_code 6 = .ok (.goto 4, 3) := by decide +kernel
theorem d15_10 : decode jdk_29_method_69_code 10 = .ok (.ireturn, 1) := by decide +kernel
theorem ef_mn0 (m : MethodId) : entryFrame m #[(ii 0), (ii 0)] 2 = mkF m 0 #[vi 0, vi 0] [] := by first | (simp [entryFrame, mkF, argsToLocals, Value.category]; done) | rfl
def Q_mn0 (Z : State) (h0 : Heap) (n0 : Nat) (v : Option Value) (h : Heap) (L : List Loc) : Prop := v = some (ii 0) ∧ Fr n0 L ∧ h = h0
set_option maxRecDepth 65536 in
set_option maxHeartbeats 40000000 in
theorem rm_mn0 (l : Launch) (Z : State) (a0 : Array Value) (hw : HW Z a0) (ws : List Jvm.Cond) (h0 : Heap) (n0 : Nat) (O0 : Old Z n0 h0) :
  MFP l Z (⟨"java/lang/Math", "min", "(II)I"⟩ : MethodName) jdk_29_method_69_code 2 (some .int) ({ frames := 0, cells := 0, slots := 0, locals := 0 } : Room) ws #[(ii 0), (ii 0)] h0 (Q_mn0 Z h0 n0) := by
 refine MetFree.of_bodySF (Jvm.Free.JP.mathPlain rfl (by decide +kernel)) hisR ?_
 intro p e s m args below meth c s₁ Bd hml0 hP hK
 obtain ⟨rfl, hZ, hh⟩ := hP
 have hx := Bd.exec
 have hby := Bd.bytes
 have hml : c.maxLocals = 2 := hml0
 have hown : s.vm.findClass "java/lang/Math" = some m.cls := findClass_of_methodNamed Bd.named
 have hnm := (name_of_methodNamed Bd.named Bd.method).1
 have X0 : Stand p l e ({ frames := 0, cells := 0, slots := 0, locals := 0 } : Room) s m #[(ii 0), (ii 0)] below meth c s₁ [] 0 0 := Stand.of_body Bd
 have e0 : s₁.heap = h0 := by rw [← hh, Bd.state]; rfl
 have N0 := Fr.nil n0
 have kp0 : Keep h0 h0 [] := Keep.refl _ _
 have c0 : ∀ t, S_ p e below s₁ m 0 #[vi 0, vi 0] [] t → Steps p.tables e below (s₁.setTop (entryFrame m #[(ii 0), (ii 0)] 2)) t := fun t k => castTop (ef_mn0 m) k
 generalize s₁.setTop (entryFrame m #[(ii 0), (ii 0)] 2) = st0 at c0 ⊢
 replace c0 : Kt p e below s₁ st0 (mkF m 0 #[vi 0, vi 0] []) := c0
 obtain ⟨fs, hr, hrun, hended, hW, hsame⟩ := X0.leave (v := some (ii 0)) (fun h => by rw [Bd.returns] at h; cases h)
 refine ⟨_, _, c0 _ ?_, hrun, hended, _, _, rfl, ?_, ⟨_, rfl⟩, hW, hsame.mono (by decide) (by decide)⟩
 ·show S_ p e below s₁ m 0 #[vi 0, vi 0] [] _
  refine XS.iloadN X0.here hx rfl (hb hby d15_0) rfl ?_
  refine XS.iloadN X0.here hx rfl (hb hby d15_1) rfl ?_
  refine XS.icmpNo X0.here hx rfl (hb hby d15_2) rfl rfl ?_
  refine XS.iloadN X0.here hx rfl (hb hby d15_5) rfl ?_
  refine yG X0.here hx rfl 6 10 rfl (hb hby d15_6) ?_
  show S_ p e below s₁ m 10 #[vi 0, vi 0] [(ii 0)] _
  exact retOut X0 hx Bd.returns rfl (Or.inl ⟨rfl, Or.inl rfl, _, rfl⟩) (hb hby d15_10) hr
 ·show Q_mn0 Z h0 n0 _ s₁.heap _
  rw [e0]
  exact ⟨rfl, N0, rfl⟩
theorem d16_0 : decode jdk_43_method_22_code 0 = .ok (.iload_n 1, 1) := by decide +kernel
theorem d16_1 : decode jdk_43_method_22_code 1 = .ok (.invokestatic 88, 3) := by decide +kernel
theorem pd_pIrZ : parseMethodDescriptor "(I)Z" = some ⟨[.int], some .boolean⟩ := by decide +kernel
theorem d16_4 : decode jdk_43_method_22_code 4 = .ok (.ifCond .ne 5, 3) := by decide +kernel
theorem d16_9 : decode jdk_43_method_22_code 9 = .ok (.iload_n 2, 1) := by decide +kernel
theorem d16_10 : decode jdk_43_method_22_code 10 = .ok (.iconst 0, 1) := by decide +kernel
theorem d16_11 : decode jdk_43_method_22_code 11 = .ok (.invokestatic 92, 3) := by decide +kernel
theorem pd_pIIrI : parseMethodDescriptor "(II)I" = some ⟨[.int, .int], some .int⟩ := by decide +kernel
theorem d16_14 : decode jdk_43_method_22_code 14 = .ok (.istore_n 2, 1) := by decide +kernel
theorem d16_15 : decode jdk_43_method_22_code 15 = .ok (.iload_n 3, 1) := by decide +kernel
theorem d16_16 : decode jdk_43_method_22_code 16 = .ok (.aload_n 0, 1) := by decide +kernel
theorem d16_17 : decode jdk_43_method_22_code 17 = .ok (.arraylength, 1) := by decide +kernel
theorem d16_18 : decode jdk_43_method_22_code 18 = .ok (.invokestatic 38, 3) := by decide +kernel
theorem d16_21 : decode jdk_43_method_22_code 21 = .ok (.istore_n 3, 1) := by decide +kernel
theorem d16_22 : decode jdk_43_method_22_code 22 = .ok (.iload_n 2, 1) := by decide +kernel
theorem d16_23 : decode jdk_43_method_22_code 23 = .ok (.iload_n 3, 1) := by decide +kernel
theorem d16_24 : decode jdk_43_method_22_code 24 = .ok (.if_icmp .lt 5, 3) := by decide +kernel
theorem d16_27 : decode jdk_43_method_22_code 27 = .ok (.iconst (-1), 1) := by decide +kernel
theorem d16_28 : decode jdk_43_method_22_code 28 = .ok (.ireturn, 1) := by decide +kernel
theorem ef_l1i_0 (m : MethodId) (s_ : Addr) (ch_ : Int32) : entryFrame m #[(rr s_), (.int ch_), (ii 0), (ii 0)] 4 = mkF m 0 #[vr s_, vi ch_, vi 0, vi 0] [] := by first | (simp [entryFrame, mkF, argsToLocals, Value.category]; done) | rfl
def Q_l1i_0 (Z : State) (s_ : Addr) (ks_ : ClassId) (ch_ : Int32) (h0 : Heap) (n0 : Nat) (v : Option Value) (h : Heap) (L : List Loc) : Prop := v = some (ii (-1)) ∧ Fr n0 L ∧ h = h0
set_option maxRecDepth 65536 in
set_option maxHeartbeats 40000000 in
theorem rm_l1i_0 (l : Launch) (Z : State) (a0 : Array Value) (hw : HW Z a0) (ws : List Jvm.Cond) (s_ : Addr) (ks_ : ClassId) (ch_ : Int32) (h0 : Heap) (n0 : Nat) (O0 : Old Z n0 h0) (A0_ : Arv Z h0 s_ ks_ .byte (0 : Int32) [] (ii 0)) (h1_ : ¬ (ch_ < (0 : Int32))) (h2_ : ¬ ((255 : Int32) < ch_)) :
  MFP l Z (⟨nm5, "indexOf", "([BIII)I"⟩ : MethodName) jdk_43_method_22_code 4 (some .int) ({ frames := 1, cells := 0, slots := 0, locals := 13 } : Room) ws #[(rr s_), (.int ch_), (ii 0), (ii 0)] h0 (Q_l1i_0 Z s_ ks_ ch_ h0 n0) := by
 refine MetFree.of_bodySF (plainFor_of_name pn_java_lang_StringLatin1) hisR ?_
 intro p e s m args below meth c s₁ Bd hml0 hP hK
 obtain ⟨rfl, hZ, hh⟩ := hP
 have hx := Bd.exec
 have hby := Bd.bytes
 have hml : c.maxLocals = 4 := hml0
 have hown : s.vm.findClass nm5 = some m.cls := findClass_of_methodNamed Bd.named
 have hnm := (name_of_methodNamed Bd.named Bd.method).1
 have X0 : Stand p l e ({ frames := 1, cells := 0, slots := 0, locals := 13 } : Room) s m #[(rr s_), (.int ch_), (ii 0), (ii 0)] below meth c s₁ [] 0 0 := Stand.of_body Bd
 have e0 : s₁.heap = h0 := by rw [← hh, Bd.state]; rfl
 have N0 := Fr.nil n0
 have kp0 : Keep h0 h0 [] := Keep.refl _ _
 have c0 : ∀ t, S_ p e below s₁ m 0 #[vr s_, vi ch_, vi 0, vi 0] [] t → Steps p.tables e below (s₁.setTop (entryFrame m #[(rr s_), (.int ch_), (ii 0), (ii 0)] 4)) t := fun t k => castTop (ef_l1i_0 m s_ ch_) k
 generalize s₁.setTop (entryFrame m #[(rr s_), (.int ch_), (ii 0), (ii 0)] 4) = st0 at c0 ⊢
 replace c0 : Kt p e below s₁ st0 (mkF m 0 #[vr s_, vi ch_, vi 0, vi 0] []) := c0
 have c1 : Kt p e below s₁ st0 (mkF m 1 #[vr s_, vi ch_, vi 0, vi 0] [(.int ch_)]) := fun t k => by
  refine c0 t ?_
  show S_ p e below s₁ m 0 #[vr s_, vi ch_, vi 0, vi 0] [] t
  refine XS.iloadN X0.here hx rfl (hb hby d16_0) rfl ?_
  exact k
 obtain ⟨_, T2, L2, X2, hQ2, c2⟩ := kstat X0 hx hZ hown (w61 hw) (w62 hw) (w59 hw) (w63 hw) (rm_ceI l Z a0 hw [] ch_ h0 n0 O0 h1_ h2_) e0 c1 hml pd_pIrZ [(.int ch_)] [] 0 (hb hby d16_1) rfl rfl rfl rfl rfl rfl
 obtain ⟨rfl, N3q, K4⟩ := hQ2
 have N3 := Fr.app N0 N3q
 have c5 : Kt p e below T2 st0 (mkF m 11 #[vr s_, vi ch_, vi 0, vi 0] [(ii 0), (ii 0)]) := fun t k => by
  refine c2 t ?_
  show S_ p e below T2 m 4 #[vr s_, vi ch_, vi 0, vi 0] [(ii 1)] t
  refine yI X2.here hx rfl 4 9 rfl (hb hby d16_4) rfl rfl ?_
  refine XS.iloadN X2.here hx rfl (hb hby d16_9) rfl ?_
  refine XS.iconst X2.here hx rfl (hb hby d16_10) ?_
  exact k
 obtain ⟨_, T6, L6, X6, hQ6, c6⟩ := kstat X2 hx hZ hown (w64 hw) (w65 hw) (w66 hw) (w67 hw) (rm_mx0 l Z a0 hw []  h0 n0 O0 ) K4 c5 hml pd_pIIrI [(ii 0), (ii 0)] [] 0 (hb hby d16_11) rfl rfl rfl rfl rfl rfl
 obtain ⟨rfl, N7q, K8⟩ := hQ6
 have N7 := Fr.app N3 N7q
 have c9 : Kt p e below T6 st0 (mkF m 18 #[vr s_, vi ch_, vi 0, vi 0] [(ii 0), (ii 0)]) := fun t k => by
  refine c6 t ?_
  show S_ p e below T6 m 14 #[vr s_, vi ch_, vi 0, vi 0] [(ii 0)] t
  refine XS.istoreN X6.here hx rfl (hb hby d16_14) rfl (l' := #[vr s_, vi ch_, vi 0, vi 0]) rfl ?_
  refine XS.iloadN X6.here hx rfl (hb hby d16_15) rfl ?_
  refine XS.aloadN X6.here hx rfl (hb hby d16_16) rfl rfl ?_
  refine ldLen X6 hx hZ K8 A0_ rfl rfl (hb hby d16_17) ?_
  exact k
 obtain ⟨_, T10, L10, X10, hQ10, c10⟩ := kstat X6 hx hZ hown (w68 hw) (w69 hw) (w66 hw) (w70 hw) (rm_mn0 l Z a0 hw []  h0 n0 O0 ) K8 c9 hml pd_pIIrI [(ii 0), (ii 0)] [] 0 (hb hby d16_18) rfl rfl rfl rfl rfl rfl
 obtain ⟨rfl, N11q, K12⟩ := hQ10
 have N11 := Fr.app N7 N11q
 obtain ⟨fs, hr, hrun, hended, hW, hsame⟩ := X10.leave (v := some (ii (-1))) (fun h => by rw [Bd.returns] at h; cases h)
 refine ⟨_, _, c10 _ ?_, hrun, hended, _, _, rfl, ?_, ⟨_, rfl⟩, hW, hsame.mono (by decide) (by decide)⟩
 ·show S_ p e below T10 m 21 #[vr s_, vi ch_, vi 0, vi 0] [(ii 0)] _
  refine XS.istoreN X10.here hx rfl (hb hby d16_21) rfl (l' := #[vr s_, vi ch_, vi 0, vi 0]) rfl ?_
  refine XS.iloadN X10.here hx rfl (hb hby d16_22) rfl ?_
  refine XS.iloadN X10.here hx rfl (hb hby d16_23) rfl ?_
  refine XS.icmpNo X10.here hx rfl (hb hby d16_24) rfl rfl ?_
  refine XS.iconst X10.here hx rfl (hb hby d16_27) ?_
  show S_ p e below T10 m 28 #[vr s_, vi ch_, vi 0, vi 0] [(ii (-1))] _
  exact retOut X10 hx Bd.returns rfl (Or.inl ⟨rfl, Or.inl rfl, _, rfl⟩) (hb hby d16_28) hr
 ·show Q_l1i_0 Z s_ ks_ ch_ h0 n0 _ T10.heap _
  rw [K12]
  exact ⟨rfl, N11, rfl⟩
theorem d17_0 : decode jdk_42_method_54_code 0 = .ok (.aload_n 0, 1) := by decide +kernel
theorem d17_1 : decode jdk_42_method_54_code 1 = .ok (.getfield 9, 3) := by decide +kernel
theorem d17_4 : decode jdk_42_method_54_code 4 = .ok (.arraylength, 1) := by decide +kernel
theorem d17_5 : decode jdk_42_method_54_code 5 = .ok (.aload_n 0, 1) := by decide +kernel
theorem d17_6 : decode jdk_42_method_54_code 6 = .ok (.invokevirtual 335, 3) := by decide +kernel
theorem pd_prB : parseMethodDescriptor "()B" = some ⟨[], some .byte⟩ := by decide +kernel
theorem d17_9 : decode jdk_42_method_54_code 9 = .ok (.ishr, 1) := by decide +kernel
theorem d17_10 : decode jdk_42_method_54_code 10 = .ok (.ireturn, 1) := by decide +kernel
theorem ef_lenL_0 (m : MethodId) (x_ : Addr) : entryFrame m #[(rr x_)] 1 = mkF m 0 #[vr x_] [] := by first | (simp [entryFrame, mkF, argsToLocals, Value.category]; done) | rfl
def Q_lenL_0 (Z : State) (x_ : Addr) (s_ : Addr) (ks_ : ClassId) (vs_ : List Value) (z_ : Int32) (h0 : Heap) (n0 : Nat) (v : Option Value) (h : Heap) (L : List Loc) : Prop := v = some (ii 0) ∧ Fr n0 L ∧ h = h0
set_option maxRecDepth 65536 in
set_option maxHeartbeats 40000000 in
theorem rm_lenL_0 (l : Launch) (Z : State) (a0 : Array Value) (hw : HW Z a0) (ws : List Jvm.Cond) (x_ : Addr) (s_ : Addr) (ks_ : ClassId) (vs_ : List Value) (z_ : Int32) (h0 : Heap) (n0 : Nat) (O0 : Old Z n0 h0) (E0_ : Exa Z h0 x_ nm0) (F1_ : Fld Z h0 x_ nm0 "coder" "B" (ii 0)) (F2_ : Fld Z h0 x_ nm0 "value" "[B" (rr s_)) (A3_ : Arv Z h0 s_ ks_ .byte (0 : Int32) vs_ (ii 0)) (ZS4_ : Sta Z Z.heap nm0 "COMPACT_STRINGS" "Z" (.int z_)) (hz_ : ¬ (z_ = (0 : Int32))) :
  MFP l Z (⟨nm0, "length", "()I"⟩ : MethodName) jdk_42_method_54_code 1 (some .int) ({ frames := 1, cells := 0, slots := 0, locals := 13 } : Room) ws #[(rr x_)] h0 (Q_lenL_0 Z x_ s_ ks_ vs_ z_ h0 n0) := by
 refine MetFree.of_bodySF (plainFor_of_name pn_java_lang_String) hisR ?_
 intro p e s m args below meth c s₁ Bd hml0 hP hK
 obtain ⟨rfl, hZ, hh⟩ := hP
 have hx := Bd.exec
 have hby := Bd.bytes
 have hml : c.maxLocals = 1 := hml0
 have hown : s.vm.findClass nm0 = some m.cls := findClass_of_methodNamed Bd.named
 have hnm := (name_of_methodNamed Bd.named Bd.method).1
 have X0 : Stand p l e ({ frames := 1, cells := 0, slots := 0, locals := 13 } : Room) s m #[(rr x_)] below meth c s₁ [] 0 0 := Stand.of_body Bd
 have e0 : s₁.heap = h0 := by rw [← hh, Bd.state]; rfl
 have N0 := Fr.nil n0
 have kp0 : Keep h0 h0 [] := Keep.refl _ _
 have c0 : ∀ t, S_ p e below s₁ m 0 #[vr x_] [] t → Steps p.tables e below (s₁.setTop (entryFrame m #[(rr x_)] 1)) t := fun t k => castTop (ef_lenL_0 m x_) k
 generalize s₁.setTop (entryFrame m #[(rr x_)] 1) = st0 at c0 ⊢
 replace c0 : Kt p e below s₁ st0 (mkF m 0 #[vr x_] []) := c0
 have c1 : Kt p e below s₁ st0 (mkF m 1 #[vr x_] [(rr x_)]) := fun t k => by
  refine c0 t ?_
  show S_ p e below s₁ m 0 #[vr x_] [] t
  refine XS.aloadN X0.here hx rfl (hb hby d17_0) rfl rfl ?_
  exact k
 obtain ⟨T2, X2, e2, c2⟩ := kget X0 hx hZ hown (host := "") (Or.inl (w24 hw)) Via.refl e0 F2_ c1 rfl rfl (hb hby d17_1)
 have c3 : Kt p e below T2 st0 (mkF m 6 #[vr x_] [(rr x_), (ii 0)]) := fun t k => by
  refine c2 t ?_
  show S_ p e below T2 m 4 #[vr x_] [(rr s_)] t
  refine ldLen X2 hx hZ e2 A3_ rfl rfl (hb hby d17_4) ?_
  refine XS.aloadN X2.here hx rfl (hb hby d17_5) rfl rfl ?_
  exact k
 obtain ⟨_, T4, L4, X4, hQ4, c4⟩ := kvirt X2 hx hZ hown (w52 hw) (w53 hw) (w55 hw) (w54 hw) (w56 hw) (w6 hw) (rm_codL l Z a0 hw [] x_ z_ h0 n0 O0 F1_ ZS4_ hz_) e2 E0_ c3 hml pd_prB [] [(ii 0)] 1 (hb hby d17_6) rfl rfl rfl rfl rfl rfl
 obtain ⟨rfl, N5q, K6⟩ := hQ4
 have N5 := Fr.app N0 N5q
 obtain ⟨fs, hr, hrun, hended, hW, hsame⟩ := X4.leave (v := some (ii 0)) (fun h => by rw [Bd.returns] at h; cases h)
 refine ⟨_, _, c4 _ ?_, hrun, hended, _, _, rfl, ?_, ⟨_, rfl⟩, hW, hsame.mono (by decide) (by decide)⟩
 ·show S_ p e below T4 m 9 #[vr x_] [(ii 0), (ii 0)] _
  refine XS.ishr X4.here hx rfl (hb hby d17_9) rfl ?_
  show S_ p e below T4 m 10 #[vr x_] [(ii 0)] _
  exact retOut X4 hx Bd.returns rfl (Or.inl ⟨rfl, Or.inl rfl, _, rfl⟩) (hb hby d17_10) hr
 ·show Q_lenL_0 Z x_ s_ ks_ vs_ z_ h0 n0 _ T4.heap _
  rw [K6]
  exact ⟨rfl, N5, rfl⟩
theorem d18_0 : decode jdk_42_method_80_code 0 = .ok (.aload_n 0, 1) := by decide +kernel
theorem d18_1 : decode jdk_42_method_80_code 1 = .ok (.invokevirtual 492, 3) := by decide +kernel
theorem pd_prZ : parseMethodDescriptor "()Z" = some ⟨[], some .boolean⟩ := by decide +kernel
theorem d18_4 : decode jdk_42_method_80_code 4 = .ok (.ifCond .eq 19, 3) := by decide +kernel
theorem d18_7 : decode jdk_42_method_80_code 7 = .ok (.aload_n 0, 1) := by decide +kernel
theorem d18_8 : decode jdk_42_method_80_code 8 = .ok (.getfield 9, 3) := by decide +kernel
theorem d18_11 : decode jdk_42_method_80_code 11 = .ok (.iload_n 1, 1) := by decide +kernel
theorem d18_12 : decode jdk_42_method_80_code 12 = .ok (.iload_n 2, 1) := by decide +kernel
theorem d18_13 : decode jdk_42_method_80_code 13 = .ok (.aload_n 0, 1) := by decide +kernel
theorem d18_14 : decode jdk_42_method_80_code 14 = .ok (.invokevirtual 505, 3) := by decide +kernel
theorem pd_prI : parseMethodDescriptor "()I" = some ⟨[], some .int⟩ := by decide +kernel
theorem d18_17 : decode jdk_42_method_80_code 17 = .ok (.invokestatic 637, 3) := by decide +kernel
theorem pd_pABIIIrI : parseMethodDescriptor "([BIII)I" = some ⟨[(.array .byte), .int, .int, .int], some .int⟩ := by decide +kernel
theorem d18_20 : decode jdk_42_method_80_code 20 = .ok (.goto 16, 3) := by decide +kernel
theorem d18_36 : decode jdk_42_method_80_code 36 = .ok (.ireturn, 1) := by decide +kernel
theorem ef_six2L_0 (m : MethodId) (x_ : Addr) (ch_ : Int32) : entryFrame m #[(rr x_), (.int ch_), (ii 0)] 3 = mkF m 0 #[vr x_, vi ch_, vi 0] [] := by first | (simp [entryFrame, mkF, argsToLocals, Value.category]; done) | rfl
def Q_six2L_0 (Z : State) (x_ : Addr) (z_ : Int32) (s_ : Addr) (ks_ : ClassId) (ch_ : Int32) (h0 : Heap) (n0 : Nat) (v : Option Value) (h : Heap) (L : List Loc) : Prop := v = some (ii (-1)) ∧ Fr n0 L ∧ h = h0
set_option maxRecDepth 65536 in
set_option maxHeartbeats 40000000 in
theorem rm_six2L_0 (l : Launch) (Z : State) (a0 : Array Value) (hw : HW Z a0) (ws : List Jvm.Cond) (x_ : Addr) (z_ : Int32) (s_ : Addr) (ks_ : ClassId) (ch_ : Int32) (h0 : Heap) (n0 : Nat) (O0 : Old Z n0 h0) (E0_ : Exa Z h0 x_ nm0) (F1_ : Fld Z h0 x_ nm0 "coder" "B" (ii 0)) (F2_ : Fld Z h0 x_ nm0 "value" "[B" (rr s_)) (A3_ : Arv Z h0 s_ ks_ .byte (0 : Int32) [] (ii 0)) (ZS4_ : Sta Z Z.heap nm0 "COMPACT_STRINGS" "Z" (.int z_)) (hz_ : ¬ (z_ = (0 : Int32))) (h1_ : ¬ (ch_ < (0 : Int32))) (h2_ : ¬ ((255 : Int32) < ch_)) :
  MFP l Z (⟨nm0, "indexOf", "(II)I"⟩ : MethodName) jdk_42_method_80_code 3 (some .int) ({ frames := 2, cells := 0, slots := 0, locals := 28 } : Room) ws #[(rr x_), (.int ch_), (ii 0)] h0 (Q_six2L_0 Z x_ z_ s_ ks_ ch_ h0 n0) := by
 refine MetFree.of_bodySF (plainFor_of_name pn_java_lang_String) hisR ?_
 intro p e s m args below meth c s₁ Bd hml0 hP hK
 obtain ⟨rfl, hZ, hh⟩ := hP
 have hx := Bd.exec
 have hby := Bd.bytes
 have hml : c.maxLocals = 3 := hml0
 have hown : s.vm.findClass nm0 = some m.cls := findClass_of_methodNamed Bd.named
 have hnm := (name_of_methodNamed Bd.named Bd.method).1
 have X0 : Stand p l e ({ frames := 2, cells := 0, slots := 0, locals := 28 } : Room) s m #[(rr x_), (.int ch_), (ii 0)] below meth c s₁ [] 0 0 := Stand.of_body Bd
 have e0 : s₁.heap = h0 := by rw [← hh, Bd.state]; rfl
 have N0 := Fr.nil n0
 have kp0 : Keep h0 h0 [] := Keep.refl _ _
 have c0 : ∀ t, S_ p e below s₁ m 0 #[vr x_, vi ch_, vi 0] [] t → Steps p.tables e below (s₁.setTop (entryFrame m #[(rr x_), (.int ch_), (ii 0)] 3)) t := fun t k => castTop (ef_six2L_0 m x_ ch_) k
 generalize s₁.setTop (entryFrame m #[(rr x_), (.int ch_), (ii 0)] 3) = st0 at c0 ⊢
 replace c0 : Kt p e below s₁ st0 (mkF m 0 #[vr x_, vi ch_, vi 0] []) := c0
 have c1 : Kt p e below s₁ st0 (mkF m 1 #[vr x_, vi ch_, vi 0] [(rr x_)]) := fun t k => by
  refine c0 t ?_
  show S_ p e below s₁ m 0 #[vr x_, vi ch_, vi 0] [] t
  refine XS.aloadN X0.here hx rfl (hb hby d18_0) rfl rfl ?_
  exact k
 obtain ⟨_, T2, L2, X2, hQ2, c2⟩ := kvirt X0 hx hZ hown (w41 hw) (w42 hw) (w44 hw) (w43 hw) (w45 hw) (w6 hw) (rm_islL l Z a0 hw [] x_ z_ h0 n0 O0 F1_ ZS4_ hz_) e0 E0_ c1 hml pd_prZ [] [] 0 (hb hby d18_1) rfl rfl rfl rfl rfl rfl
 obtain ⟨rfl, N3q, K4⟩ := hQ2
 have N3 := Fr.app N0 N3q
 have c5 : Kt p e below T2 st0 (mkF m 8 #[vr x_, vi ch_, vi 0] [(rr x_)]) := fun t k => by
  refine c2 t ?_
  show S_ p e below T2 m 4 #[vr x_, vi ch_, vi 0] [(ii 1)] t
  refine XS.ifNo X2.here hx rfl (hb hby d18_4) rfl rfl ?_
  refine XS.aloadN X2.here hx rfl (hb hby d18_7) rfl rfl ?_
  exact k
 obtain ⟨T6, X6, e6, c6⟩ := kget X2 hx hZ hown (host := "") (Or.inl (w24 hw)) Via.refl K4 F2_ c5 rfl rfl (hb hby d18_8)
 have c7 : Kt p e below T6 st0 (mkF m 14 #[vr x_, vi ch_, vi 0] [(rr x_), (ii 0), (.int ch_), (rr s_)]) := fun t k => by
  refine c6 t ?_
  show S_ p e below T6 m 11 #[vr x_, vi ch_, vi 0] [(rr s_)] t
  refine XS.iloadN X6.here hx rfl (hb hby d18_11) rfl ?_
  refine XS.iloadN X6.here hx rfl (hb hby d18_12) rfl ?_
  refine XS.aloadN X6.here hx rfl (hb hby d18_13) rfl rfl ?_
  exact k
 obtain ⟨_, T8, L8, X8, hQ8, c8⟩ := kvirt X6 hx hZ hown (w47 hw) (w48 hw) (w50 hw) (w49 hw) (w51 hw) (w6 hw) (rm_lenL_0 l Z a0 hw [] x_ s_ ks_ [] z_ h0 n0 O0 E0_ F1_ F2_ A3_ ZS4_ hz_) e6 E0_ c7 hml pd_prI [] [(ii 0), (.int ch_), (rr s_)] 3 (hb hby d18_14) rfl rfl rfl rfl rfl rfl
 obtain ⟨rfl, N9q, K10⟩ := hQ8
 have N9 := Fr.app N3 N9q
 obtain ⟨_, T11, L11, X11, hQ11, c11⟩ := kstat X8 hx hZ hown (w57 hw) (w58 hw) (w59 hw) (w60 hw) (rm_l1i_0 l Z a0 hw [] s_ ks_ ch_ h0 n0 O0 A3_ h1_ h2_) K10 c8 hml pd_pABIIIrI [(rr s_), (.int ch_), (ii 0), (ii 0)] [] 0 (hb hby d18_17) rfl rfl rfl rfl rfl rfl
 obtain ⟨rfl, N12q, K13⟩ := hQ11
 have N12 := Fr.app N9 N12q
 obtain ⟨fs, hr, hrun, hended, hW, hsame⟩ := X11.leave (v := some (ii (-1))) (fun h => by rw [Bd.returns] at h; cases h)
 refine ⟨_, _, c11 _ ?_, hrun, hended, _, _, rfl, ?_, ⟨_, rfl⟩, hW, hsame.mono (by decide) (by decide)⟩
 ·show S_ p e below T11 m 20 #[vr x_, vi ch_, vi 0] [(ii (-1))] _
  refine yG X11.here hx rfl 20 36 rfl (hb hby d18_20) ?_
  show S_ p e below T11 m 36 #[vr x_, vi ch_, vi 0] [(ii (-1))] _
  exact retOut X11 hx Bd.returns rfl (Or.inl ⟨rfl, Or.inl rfl, _, rfl⟩) (hb hby d18_36) hr
 ·show Q_six2L_0 Z x_ z_ s_ ks_ ch_ h0 n0 _ T11.heap _
  rw [K13]
  exact ⟨rfl, N12, rfl⟩
theorem d19_0 : decode jdk_42_method_79_code 0 = .ok (.aload_n 0, 1) := by decide +kernel
theorem d19_1 : decode jdk_42_method_79_code 1 = .ok (.iload_n 1, 1) := by decide +kernel
theorem d19_2 : decode jdk_42_method_79_code 2 = .ok (.iconst 0, 1) := by decide +kernel
theorem d19_3 : decode jdk_42_method_79_code 3 = .ok (.invokevirtual 633, 3) := by decide +kernel
theorem d19_6 : decode jdk_42_method_79_code 6 = .ok (.ireturn, 1) := by decide +kernel
theorem ef_six1L_0 (m : MethodId) (x_ : Addr) (ch_ : Int32) : entryFrame m #[(rr x_), (.int ch_)] 2 = mkF m 0 #[vr x_, vi ch_] [] := by first | (simp [entryFrame, mkF, argsToLocals, Value.category]; done) | rfl
def Q_six1L_0 (Z : State) (x_ : Addr) (z_ : Int32) (s_ : Addr) (ks_ : ClassId) (ch_ : Int32) (h0 : Heap) (n0 : Nat) (v : Option Value) (h : Heap) (L : List Loc) : Prop := v = some (ii (-1)) ∧ Fr n0 L ∧ h = h0
set_option maxRecDepth 65536 in
set_option maxHeartbeats 40000000 in
theorem rm_six1L_0 (l : Launch) (Z : State) (a0 : Array Value) (hw : HW Z a0) (ws : List Jvm.Cond) (x_ : Addr) (z_ : Int32) (s_ : Addr) (ks_ : ClassId) (ch_ : Int32) (h0 : Heap) (n0 : Nat) (O0 : Old Z n0 h0) (E0_ : Exa Z h0 x_ nm0) (F1_ : Fld Z h0 x_ nm0 "coder" "B" (ii 0)) (F2_ : Fld Z h0 x_ nm0 "value" "[B" (rr s_)) (A3_ : Arv Z h0 s_ ks_ .byte (0 : Int32) [] (ii 0)) (ZS4_ : Sta Z Z.heap nm0 "COMPACT_STRINGS" "Z" (.int z_)) (hz_ : ¬ (z_ = (0 : Int32))) (h1_ : ¬ (ch_ < (0 : Int32))) (h2_ : ¬ ((255 : Int32) < ch_)) :
  MFP l Z (⟨nm0, "indexOf", "(I)I"⟩ : MethodName) jdk_42_method_79_code 2 (some .int) ({ frames := 3, cells := 0, slots := 0, locals := 42 } : Room) ws #[(rr x_), (.int ch_)] h0 (Q_six1L_0 Z x_ z_ s_ ks_ ch_ h0 n0) := by
 refine MetFree.of_bodySF (plainFor_of_name pn_java_lang_String) hisR ?_
 intro p e s m args below meth c s₁ Bd hml0 hP hK
 obtain ⟨rfl, hZ, hh⟩ := hP
 have hx := Bd.exec
 have hby := Bd.bytes
 have hml : c.maxLocals = 2 := hml0
 have hown : s.vm.findClass nm0 = some m.cls := findClass_of_methodNamed Bd.named
 have hnm := (name_of_methodNamed Bd.named Bd.method).1
 have X0 : Stand p l e ({ frames := 3, cells := 0, slots := 0, locals := 42 } : Room) s m #[(rr x_), (.int ch_)] below meth c s₁ [] 0 0 := Stand.of_body Bd
 have e0 : s₁.heap = h0 := by rw [← hh, Bd.state]; rfl
 have N0 := Fr.nil n0
 have kp0 : Keep h0 h0 [] := Keep.refl _ _
 have c0 : ∀ t, S_ p e below s₁ m 0 #[vr x_, vi ch_] [] t → Steps p.tables e below (s₁.setTop (entryFrame m #[(rr x_), (.int ch_)] 2)) t := fun t k => castTop (ef_six1L_0 m x_ ch_) k
 generalize s₁.setTop (entryFrame m #[(rr x_), (.int ch_)] 2) = st0 at c0 ⊢
 replace c0 : Kt p e below s₁ st0 (mkF m 0 #[vr x_, vi ch_] []) := c0
 have c1 : Kt p e below s₁ st0 (mkF m 3 #[vr x_, vi ch_] [(ii 0), (.int ch_), (rr x_)]) := fun t k => by
  refine c0 t ?_
  show S_ p e below s₁ m 0 #[vr x_, vi ch_] [] t
  refine XS.aloadN X0.here hx rfl (hb hby d19_0) rfl rfl ?_
  refine XS.iloadN X0.here hx rfl (hb hby d19_1) rfl ?_
  refine XS.iconst X0.here hx rfl (hb hby d19_2) ?_
  exact k
 obtain ⟨_, T2, L2, X2, hQ2, c2⟩ := kvirt X0 hx hZ hown (w36 hw) (w37 hw) (w39 hw) (w38 hw) (w40 hw) (w6 hw) (rm_six2L_0 l Z a0 hw [] x_ z_ s_ ks_ ch_ h0 n0 O0 E0_ F1_ F2_ A3_ ZS4_ hz_ h1_ h2_) e0 E0_ c1 hml pd_pIIrI [(.int ch_), (ii 0)] [] 0 (hb hby d19_3) rfl rfl rfl rfl rfl rfl
 obtain ⟨rfl, N3q, K4⟩ := hQ2
 have N3 := Fr.app N0 N3q
 obtain ⟨fs, hr, hrun, hended, hW, hsame⟩ := X2.leave (v := some (ii (-1))) (fun h => by rw [Bd.returns] at h; cases h)
 refine ⟨_, _, c2 _ ?_, hrun, hended, _, _, rfl, ?_, ⟨_, rfl⟩, hW, hsame.mono (by decide) (by decide)⟩
 ·show S_ p e below T2 m 6 #[vr x_, vi ch_] [(ii (-1))] _
  exact retOut X2 hx Bd.returns rfl (Or.inl ⟨rfl, Or.inl rfl, _, rfl⟩) (hb hby d19_6) hr
 ·show Q_six1L_0 Z x_ z_ s_ ks_ ch_ h0 n0 _ T2.heap _
  rw [K4]
  exact ⟨rfl, N3, rfl⟩
theorem ef_mn1 (m : MethodId) : entryFrame m #[(ii 1), (ii 1)] 2 = mkF m 0 #[vi 1, vi 1] [] := by first | (simp [entryFrame, mkF, argsToLocals, Value.category]; done) | rfl
def Q_mn1 (Z : State) (h0 : Heap) (n0 : Nat) (v : Option Value) (h : Heap) (L : List Loc) : Prop := v = some (ii 1) ∧ Fr n0 L ∧ h = h0
set_option maxRecDepth 65536 in
set_option maxHeartbeats 40000000 in
theorem rm_mn1 (l : Launch) (Z : State) (a0 : Array Value) (hw : HW Z a0) (ws : List Jvm.Cond) (h0 : Heap) (n0 : Nat) (O0 : Old Z n0 h0) :
  MFP l Z (⟨"java/lang/Math", "min", "(II)I"⟩ : MethodName) jdk_29_method_69_code 2 (some .int) ({ frames := 0, cells := 0, slots := 0, locals := 0 } : Room) ws #[(ii 1), (ii 1)] h0 (Q_mn1 Z h0 n0) := by
 refine MetFree.of_bodySF (Jvm.Free.JP.mathPlain rfl (by decide +kernel)) hisR ?_
 intro p e s m args below meth c s₁ Bd hml0 hP hK
 obtain ⟨rfl, hZ, hh⟩ := hP
 have hx := Bd.exec
 have hby := Bd.bytes
 have hml : c.maxLocals = 2 := hml0
 have hown : s.vm.findClass "java/lang/Math" = some m.cls := findClass_of_methodNamed Bd.named
 have hnm := (name_of_methodNamed Bd.named Bd.method).1
 have X0 : Stand p l e ({ frames := 0, cells := 0, slots := 0, locals := 0 } : Room) s m #[(ii 1), (ii 1)] below meth c s₁ [] 0 0 := Stand.of_body Bd
 have e0 : s₁.heap = h0 := by rw [← hh, Bd.state]; rfl
 have N0 := Fr.nil n0
 have kp0 : Keep h0 h0 [] := Keep.refl _ _
 have c0 : ∀ t, S_ p e below s₁ m 0 #[vi 1, vi 1] [] t → Steps p.tables e below (s₁.setTop (entryFrame m #[(ii 1), (ii 1)] 2)) t := fun t k => castTop (ef_mn1 m) k
 generalize s₁.setTop (entryFrame m #[(ii 1), (ii 1)] 2) = st0 at c0 ⊢
 replace c0 : Kt p e below s₁ st0 (mkF m 0 #[vi 1, vi 1] []) := c0
 obtain ⟨fs, hr, hrun, hended, hW, hsame⟩ := X0.leave (v := some (ii 1)) (fun h => by rw [Bd.returns] at h; cases h)
 refine ⟨_, _, c0 _ ?_, hrun, hended, _, _, rfl, ?_, ⟨_, rfl⟩, hW, hsame.mono (by decide) (by decide)⟩
 ·show S_ p e below s₁ m 0 #[vi 1, vi 1] [] _
  refine XS.iloadN X0.here hx rfl (hb hby d15_0) rfl ?_
  refine XS.iloadN X0.here hx rfl (hb hby d15_1) rfl ?_
  refine XS.icmpNo X0.here hx rfl (hb hby d15_2) rfl rfl ?_
  refine XS.iloadN X0.here hx rfl (hb hby d15_5) rfl ?_
  refine yG X0.here hx rfl 6 10 rfl (hb hby d15_6) ?_
  show S_ p e below s₁ m 10 #[vi 1, vi 1] [(ii 1)] _
  exact retOut X0 hx Bd.returns rfl (Or.inl ⟨rfl, Or.inl rfl, _, rfl⟩) (hb hby d15_10) hr
 ·show Q_mn1 Z h0 n0 _ s₁.heap _
  rw [e0]
  exact ⟨rfl, N0, rfl⟩
theorem d20_0 : decode jdk_43_method_23_code 0 = .ok (.iload_n 1, 1) := by decide +kernel
theorem d20_1 : decode jdk_43_method_23_code 1 = .ok (.i2b, 1) := by decide +kernel
theorem d20_2 : decode jdk_43_method_23_code 2 = .ok (.istore 4, 2) := by decide +kernel
theorem d20_4 : decode jdk_43_method_23_code 4 = .ok (.iload_n 2, 1) := by decide +kernel
theorem d20_5 : decode jdk_43_method_23_code 5 = .ok (.istore 5, 2) := by decide +kernel
theorem d20_7 : decode jdk_43_method_23_code 7 = .ok (.iload 5, 2) := by decide +kernel
theorem d20_9 : decode jdk_43_method_23_code 9 = .ok (.iload_n 3, 1) := by decide +kernel
theorem d20_10 : decode jdk_43_method_23_code 10 = .ok (.if_icmp .ge 21, 3) := by decide +kernel
theorem d20_13 : decode jdk_43_method_23_code 13 = .ok (.aload_n 0, 1) := by decide +kernel
theorem d20_14 : decode jdk_43_method_23_code 14 = .ok (.iload 5, 2) := by decide +kernel
theorem d20_16 : decode jdk_43_method_23_code 16 = .ok (.baload, 1) := by decide +kernel
theorem d20_17 : decode jdk_43_method_23_code 17 = .ok (.iload 4, 2) := by decide +kernel
theorem d20_19 : decode jdk_43_method_23_code 19 = .ok (.if_icmp .ne 6, 3) := by decide +kernel
theorem d20_22 : decode jdk_43_method_23_code 22 = .ok (.iload 5, 2) := by decide +kernel
theorem d20_24 : decode jdk_43_method_23_code 24 = .ok (.ireturn, 1) := by decide +kernel
theorem d20_25 : decode jdk_43_method_23_code 25 = .ok (.iinc 5 1, 3) := by decide +kernel
theorem d20_28 : decode jdk_43_method_23_code 28 = .ok (.goto (-21), 3) := by decide +kernel
theorem d20_31 : decode jdk_43_method_23_code 31 = .ok (.iconst (-1), 1) := by decide +kernel
theorem d20_32 : decode jdk_43_method_23_code 32 = .ok (.ireturn, 1) := by decide +kernel
theorem ef_l1x_1 (m : MethodId) (s_ : Addr) (ch_ : Int32) : entryFrame m #[(rr s_), (.int ch_), (ii 0), (ii 1)] 6 = mkF m 0 #[vr s_, vi ch_, vi 0, vi 1, u_, u_] [] := by first | (simp [entryFrame, mkF, argsToLocals, Value.category]; done) | rfl
def Q_l1x_1 (Z : State) (s_ : Addr) (ks_ : ClassId) (ch_ : Int32) (v0_ : Int32) (h0 : Heap) (n0 : Nat) (v : Option Value) (h : Heap) (L : List Loc) : Prop := (∃ (r_ : Int32), v = some (.int r_) ∧ Fr n0 L ∧ h = h0 ∧ ¬ (r_ < (0 : Int32)) ∧ v0_ = (ch_.toInt8.toInt32)) ∨ (v = some (ii (-1)) ∧ Fr n0 L ∧ h = h0 ∧ ¬ (v0_ = (ch_.toInt8.toInt32)))
set_option maxRecDepth 65536 in
set_option maxHeartbeats 40000000 in
theorem rm_l1x_1 (l : Launch) (Z : State) (a0 : Array Value) (hw : HW Z a0) (ws : List Jvm.Cond) (s_ : Addr) (ks_ : ClassId) (ch_ : Int32) (v0_ : Int32) (h0 : Heap) (n0 : Nat) (O0 : Old Z n0 h0) (A0_ : Arv Z h0 s_ ks_ .byte (1 : Int32) [(.int v0_)] (ii 0)) :
  MFP l Z (⟨nm5, "indexOfChar", "([BIII)I"⟩ : MethodName) jdk_43_method_23_code 6 (some .int) ({ frames := 0, cells := 0, slots := 0, locals := 0 } : Room) ws #[(rr s_), (.int ch_), (ii 0), (ii 1)] h0 (Q_l1x_1 Z s_ ks_ ch_ v0_ h0 n0) := by
 refine MetFree.of_bodySF (plainFor_of_name pn_java_lang_StringLatin1) hisR ?_
 intro p e s m args below meth c s₁ Bd hml0 hP hK
 obtain ⟨rfl, hZ, hh⟩ := hP
 have hx := Bd.exec
 have hby := Bd.bytes
 have hml : c.maxLocals = 6 := hml0
 have hown : s.vm.findClass nm5 = some m.cls := findClass_of_methodNamed Bd.named
 have hnm := (name_of_methodNamed Bd.named Bd.method).1
 have X0 : Stand p l e ({ frames := 0, cells := 0, slots := 0, locals := 0 } : Room) s m #[(rr s_), (.int ch_), (ii 0), (ii 1)] below meth c s₁ [] 0 0 := Stand.of_body Bd
 have e0 : s₁.heap = h0 := by rw [← hh, Bd.state]; rfl
 have N0 := Fr.nil n0
 have kp0 : Keep h0 h0 [] := Keep.refl _ _
 have c0 : ∀ t, S_ p e below s₁ m 0 #[vr s_, vi ch_, vi 0, vi 1, u_, u_] [] t → Steps p.tables e below (s₁.setTop (entryFrame m #[(rr s_), (.int ch_), (ii 0), (ii 1)] 6)) t := fun t k => castTop (ef_l1x_1 m s_ ch_) k
 generalize s₁.setTop (entryFrame m #[(rr s_), (.int ch_), (ii 0), (ii 1)] 6) = st0 at c0 ⊢
 replace c0 : Kt p e below s₁ st0 (mkF m 0 #[vr s_, vi ch_, vi 0, vi 1, u_, u_] []) := c0
 have c1 : Kt p e below s₁ st0 (mkF m 19 #[vr s_, vi ch_, vi 0, vi 1, .val (.int (ch_.toInt8.toInt32)), vi 0] [(.int (ch_.toInt8.toInt32)), (.int v0_)]) := fun t k => by
  refine c0 t ?_
  show S_ p e below s₁ m 0 #[vr s_, vi ch_, vi 0, vi 1, u_, u_] [] t
  refine XS.iloadN X0.here hx rfl (hb hby d20_0) rfl ?_
  refine XS.i2b X0.here hx rfl (hb hby d20_1) rfl ?_
  refine XS.istore X0.here hx rfl (hb hby d20_2) rfl (l' := #[vr s_, vi ch_, vi 0, vi 1, .val (.int (ch_.toInt8.toInt32)), u_]) rfl ?_
  refine XS.iloadN X0.here hx rfl (hb hby d20_4) rfl ?_
  refine XS.istore X0.here hx rfl (hb hby d20_5) rfl (l' := #[vr s_, vi ch_, vi 0, vi 1, .val (.int (ch_.toInt8.toInt32)), vi 0]) rfl ?_
  refine XS.iload X0.here hx rfl (hb hby d20_7) rfl ?_
  refine XS.iloadN X0.here hx rfl (hb hby d20_9) rfl ?_
  refine XS.icmpNo X0.here hx rfl (hb hby d20_10) rfl rfl ?_
  show S_ p e below s₁ m 13 #[vr s_, vi ch_, vi 0, vi 1, .val (.int (ch_.toInt8.toInt32)), vi 0] [] t
  refine XS.aloadN X0.here hx rfl (hb hby d20_13) rfl rfl ?_
  refine XS.iload X0.here hx rfl (hb hby d20_14) rfl ?_
  refine ldB X0 hx hZ e0 A0_ (v := (.int v0_)) (by decide) (by decide) rfl rfl rfl (hb hby d20_16) ?_
  refine XS.iload X0.here hx rfl (hb hby d20_17) rfl ?_
  exact k
 by_cases hc2 : v0_ = (ch_.toInt8.toInt32)
 ·obtain ⟨fs, hr, hrun, hended, hW, hsame⟩ := X0.leave (v := some (ii 0)) (fun h => by rw [Bd.returns] at h; cases h)
  refine ⟨_, _, c1 _ ?_, hrun, hended, _, _, rfl, ?_, ⟨_, rfl⟩, hW, hsame.mono (by decide) (by decide)⟩
  ·show S_ p e below s₁ m 19 #[vr s_, vi ch_, vi 0, vi 1, .val (.int (ch_.toInt8.toInt32)), vi 0] [(.int (ch_.toInt8.toInt32)), (.int v0_)] _
   refine XS.icmpNo X0.here hx rfl (hb hby d20_19) rfl (teq hc2).2 ?_
   refine XS.iload X0.here hx rfl (hb hby d20_22) rfl ?_
   show S_ p e below s₁ m 24 #[vr s_, vi ch_, vi 0, vi 1, .val (.int (ch_.toInt8.toInt32)), vi 0] [(ii 0)] _
   exact retOut X0 hx Bd.returns rfl (Or.inl ⟨rfl, Or.inl rfl, _, rfl⟩) (hb hby d20_24) hr
  ·show Q_l1x_1 Z s_ ks_ ch_ v0_ h0 n0 _ s₁.heap _
   rw [e0]
   exact (Or.inl ⟨(0 : Int32), rfl, N0, rfl, (by decide), (hc2)⟩)
 ·obtain ⟨fs, hr, hrun, hended, hW, hsame⟩ := X0.leave (v := some (ii (-1))) (fun h => by rw [Bd.returns] at h; cases h)
  refine ⟨_, _, c1 _ ?_, hrun, hended, _, _, rfl, ?_, ⟨_, rfl⟩, hW, hsame.mono (by decide) (by decide)⟩
  ·show S_ p e below s₁ m 19 #[vr s_, vi ch_, vi 0, vi 1, .val (.int (ch_.toInt8.toInt32)), vi 0] [(.int (ch_.toInt8.toInt32)), (.int v0_)] _
   refine yC X0.here hx rfl 19 25 rfl (hb hby d20_19) rfl (feq hc2).2 ?_
   refine XS.iinc X0.here hx rfl (hb hby d20_25) rfl (l' := #[vr s_, vi ch_, vi 0, vi 1, .val (.int (ch_.toInt8.toInt32)), vi 1]) rfl ?_
   refine yG X0.here hx rfl 28 7 rfl (hb hby d20_28) ?_
   refine XS.iload X0.here hx rfl (hb hby d20_7) rfl ?_
   refine XS.iloadN X0.here hx rfl (hb hby d20_9) rfl ?_
   refine yC X0.here hx rfl 10 31 rfl (hb hby d20_10) rfl rfl ?_
   refine XS.iconst X0.here hx rfl (hb hby d20_31) ?_
   show S_ p e below s₁ m 32 #[vr s_, vi ch_, vi 0, vi 1, .val (.int (ch_.toInt8.toInt32)), vi 1] [(ii (-1))] _
   exact retOut X0 hx Bd.returns rfl (Or.inl ⟨rfl, Or.inl rfl, _, rfl⟩) (hb hby d20_32) hr
  ·show Q_l1x_1 Z s_ ks_ ch_ v0_ h0 n0 _ s₁.heap _
   rw [e0]
   exact (Or.inr (⟨rfl, N0, rfl, hc2⟩))
theorem d16_29 : decode jdk_43_method_22_code 29 = .ok (.aload_n 0, 1) := by decide +kernel
theorem d16_30 : decode jdk_43_method_22_code 30 = .ok (.iload_n 1, 1) := by decide +kernel
theorem d16_31 : decode jdk_43_method_22_code 31 = .ok (.iload_n 2, 1) := by decide +kernel
theorem d16_32 : decode jdk_43_method_22_code 32 = .ok (.iload_n 3, 1) := by decide +kernel
theorem d16_33 : decode jdk_43_method_22_code 33 = .ok (.invokestatic 95, 3) := by decide +kernel
theorem d16_36 : decode jdk_43_method_22_code 36 = .ok (.ireturn, 1) := by decide +kernel
theorem ef_l1i_1 (m : MethodId) (s_ : Addr) (ch_ : Int32) : entryFrame m #[(rr s_), (.int ch_), (ii 0), (ii 1)] 4 = mkF m 0 #[vr s_, vi ch_, vi 0, vi 1] [] := by first | (simp [entryFrame, mkF, argsToLocals, Value.category]; done) | rfl
def Q_l1i_1 (Z : State) (s_ : Addr) (ks_ : ClassId) (ch_ : Int32) (v0_ : Int32) (h0 : Heap) (n0 : Nat) (v : Option Value) (h : Heap) (L : List Loc) : Prop := (∃ (r_ : Int32), v = some (.int r_) ∧ Fr n0 L ∧ h = h0 ∧ ¬ (r_ < (0 : Int32)) ∧ v0_ = (ch_.toInt8.toInt32)) ∨ (v = some (ii (-1)) ∧ Fr n0 L ∧ h = h0 ∧ ¬ (v0_ = (ch_.toInt8.toInt32)))
set_option maxRecDepth 65536 in
set_option maxHeartbeats 40000000 in
theorem rm_l1i_1 (l : Launch) (Z : State) (a0 : Array Value) (hw : HW Z a0) (ws : List Jvm.Cond) (s_ : Addr) (ks_ : ClassId) (ch_ : Int32) (v0_ : Int32) (h0 : Heap) (n0 : Nat) (O0 : Old Z n0 h0) (A0_ : Arv Z h0 s_ ks_ .byte (1 : Int32) [(.int v0_)] (ii 0)) (h1_ : ¬ (ch_ < (0 : Int32))) (h2_ : ¬ ((255 : Int32) < ch_)) :
  MFP l Z (⟨nm5, "indexOf", "([BIII)I"⟩ : MethodName) jdk_43_method_22_code 4 (some .int) ({ frames := 1, cells := 0, slots := 0, locals := 17 } : Room) ws #[(rr s_), (.int ch_), (ii 0), (ii 1)] h0 (Q_l1i_1 Z s_ ks_ ch_ v0_ h0 n0) := by
 refine MetFree.of_bodySF (plainFor_of_name pn_java_lang_StringLatin1) hisR ?_
 intro p e s m args below meth c s₁ Bd hml0 hP hK
 obtain ⟨rfl, hZ, hh⟩ := hP
 have hx := Bd.exec
 have hby := Bd.bytes
 have hml : c.maxLocals = 4 := hml0
 have hown : s.vm.findClass nm5 = some m.cls := findClass_of_methodNamed Bd.named
 have hnm := (name_of_methodNamed Bd.named Bd.method).1
 have X0 : Stand p l e ({ frames := 1, cells := 0, slots := 0, locals := 17 } : Room) s m #[(rr s_), (.int ch_), (ii 0), (ii 1)] below meth c s₁ [] 0 0 := Stand.of_body Bd
 have e0 : s₁.heap = h0 := by rw [← hh, Bd.state]; rfl
 have N0 := Fr.nil n0
 have kp0 : Keep h0 h0 [] := Keep.refl _ _
 have c0 : ∀ t, S_ p e below s₁ m 0 #[vr s_, vi ch_, vi 0, vi 1] [] t → Steps p.tables e below (s₁.setTop (entryFrame m #[(rr s_), (.int ch_), (ii 0), (ii 1)] 4)) t := fun t k => castTop (ef_l1i_1 m s_ ch_) k
 generalize s₁.setTop (entryFrame m #[(rr s_), (.int ch_), (ii 0), (ii 1)] 4) = st0 at c0 ⊢
 replace c0 : Kt p e below s₁ st0 (mkF m 0 #[vr s_, vi ch_, vi 0, vi 1] []) := c0
 have c1 : Kt p e below s₁ st0 (mkF m 1 #[vr s_, vi ch_, vi 0, vi 1] [(.int ch_)]) := fun t k => by
  refine c0 t ?_
  show S_ p e below s₁ m 0 #[vr s_, vi ch_, vi 0, vi 1] [] t
  refine XS.iloadN X0.here hx rfl (hb hby d16_0) rfl ?_
  exact k
 obtain ⟨_, T2, L2, X2, hQ2, c2⟩ := kstat X0 hx hZ hown (w61 hw) (w62 hw) (w59 hw) (w63 hw) (rm_ceI l Z a0 hw [] ch_ h0 n0 O0 h1_ h2_) e0 c1 hml pd_pIrZ [(.int ch_)] [] 0 (hb hby d16_1) rfl rfl rfl rfl rfl rfl
 obtain ⟨rfl, N3q, K4⟩ := hQ2
 have N3 := Fr.app N0 N3q
 have c5 : Kt p e below T2 st0 (mkF m 11 #[vr s_, vi ch_, vi 0, vi 1] [(ii 0), (ii 0)]) := fun t k => by
  refine c2 t ?_
  show S_ p e below T2 m 4 #[vr s_, vi ch_, vi 0, vi 1] [(ii 1)] t
  refine yI X2.here hx rfl 4 9 rfl (hb hby d16_4) rfl rfl ?_
  refine XS.iloadN X2.here hx rfl (hb hby d16_9) rfl ?_
  refine XS.iconst X2.here hx rfl (hb hby d16_10) ?_
  exact k
 obtain ⟨_, T6, L6, X6, hQ6, c6⟩ := kstat X2 hx hZ hown (w64 hw) (w65 hw) (w66 hw) (w67 hw) (rm_mx0 l Z a0 hw []  h0 n0 O0 ) K4 c5 hml pd_pIIrI [(ii 0), (ii 0)] [] 0 (hb hby d16_11) rfl rfl rfl rfl rfl rfl
 obtain ⟨rfl, N7q, K8⟩ := hQ6
 have N7 := Fr.app N3 N7q
 have c9 : Kt p e below T6 st0 (mkF m 18 #[vr s_, vi ch_, vi 0, vi 1] [(ii 1), (ii 1)]) := fun t k => by
  refine c6 t ?_
  show S_ p e below T6 m 14 #[vr s_, vi ch_, vi 0, vi 1] [(ii 0)] t
  refine XS.istoreN X6.here hx rfl (hb hby d16_14) rfl (l' := #[vr s_, vi ch_, vi 0, vi 1]) rfl ?_
  refine XS.iloadN X6.here hx rfl (hb hby d16_15) rfl ?_
  refine XS.aloadN X6.here hx rfl (hb hby d16_16) rfl rfl ?_
  refine ldLen X6 hx hZ K8 A0_ rfl rfl (hb hby d16_17) ?_
  exact k
 obtain ⟨_, T10, L10, X10, hQ10, c10⟩ := kstat X6 hx hZ hown (w68 hw) (w69 hw) (w66 hw) (w70 hw) (rm_mn1 l Z a0 hw []  h0 n0 O0 ) K8 c9 hml pd_pIIrI [(ii 1), (ii 1)] [] 0 (hb hby d16_18) rfl rfl rfl rfl rfl rfl
 obtain ⟨rfl, N11q, K12⟩ := hQ10
 have N11 := Fr.app N7 N11q
 have c13 : Kt p e below T10 st0 (mkF m 33 #[vr s_, vi ch_, vi 0, vi 1] [(ii 1), (ii 0), (.int ch_), (rr s_)]) := fun t k => by
  refine c10 t ?_
  show S_ p e below T10 m 21 #[vr s_, vi ch_, vi 0, vi 1] [(ii 1)] t
  refine XS.istoreN X10.here hx rfl (hb hby d16_21) rfl (l' := #[vr s_, vi ch_, vi 0, vi 1]) rfl ?_
  refine XS.iloadN X10.here hx rfl (hb hby d16_22) rfl ?_
  refine XS.iloadN X10.here hx rfl (hb hby d16_23) rfl ?_
  refine yC X10.here hx rfl 24 29 rfl (hb hby d16_24) rfl rfl ?_
  refine XS.aloadN X10.here hx rfl (hb hby d16_29) rfl rfl ?_
  refine XS.iloadN X10.here hx rfl (hb hby d16_30) rfl ?_
  refine XS.iloadN X10.here hx rfl (hb hby d16_31) rfl ?_
  refine XS.iloadN X10.here hx rfl (hb hby d16_32) rfl ?_
  exact k
 obtain ⟨_, T14, L14, X14, hQ14, c14⟩ := kstat X10 hx hZ hown (w122 hw) (w123 hw) (w59 hw) (w124 hw) (rm_l1x_1 l Z a0 hw [] s_ ks_ ch_ v0_ h0 n0 O0 A0_) K12 c13 hml pd_pABIIIrI [(rr s_), (.int ch_), (ii 0), (ii 1)] [] 0 (hb hby d16_33) rfl rfl rfl rfl rfl rfl
 rcases hQ14 with hQ14 | hQ14
 ·obtain ⟨i15, rfl, N16q, K17, p18, p19⟩ := hQ14
  have N16 := Fr.app N11 N16q
  obtain ⟨fs, hr, hrun, hended, hW, hsame⟩ := X14.leave (v := some (.int i15)) (fun h => by rw [Bd.returns] at h; cases h)
  refine ⟨_, _, c14 _ ?_, hrun, hended, _, _, rfl, ?_, ⟨_, rfl⟩, hW, hsame.mono (by decide) (by decide)⟩
  ·show S_ p e below T14 m 36 #[vr s_, vi ch_, vi 0, vi 1] [(.int i15)] _
   exact retOut X14 hx Bd.returns rfl (Or.inl ⟨rfl, Or.inl rfl, _, rfl⟩) (hb hby d16_36) hr
  ·show Q_l1i_1 Z s_ ks_ ch_ v0_ h0 n0 _ T14.heap _
   rw [K17]
   exact (Or.inl ⟨i15, rfl, N16, rfl, p18, p19⟩)
 ·obtain ⟨rfl, N20q, K21, p22⟩ := hQ14
  have N20 := Fr.app N11 N20q
  obtain ⟨fs, hr, hrun, hended, hW, hsame⟩ := X14.leave (v := some (ii (-1))) (fun h => by rw [Bd.returns] at h; cases h)
  refine ⟨_, _, c14 _ ?_, hrun, hended, _, _, rfl, ?_, ⟨_, rfl⟩, hW, hsame.mono (by decide) (by decide)⟩
  ·show S_ p e below T14 m 36 #[vr s_, vi ch_, vi 0, vi 1] [(ii (-1))] _
   exact retOut X14 hx Bd.returns rfl (Or.inl ⟨rfl, Or.inl rfl, _, rfl⟩) (hb hby d16_36) hr
  ·show Q_l1i_1 Z s_ ks_ ch_ v0_ h0 n0 _ T14.heap _
   rw [K21]
   exact (Or.inr (⟨rfl, N20, rfl, p22⟩))
theorem ef_lenL_1 (m : MethodId) (x_ : Addr) : entryFrame m #[(rr x_)] 1 = mkF m 0 #[vr x_] [] := by first | (simp [entryFrame, mkF, argsToLocals, Value.category]; done) | rfl
def Q_lenL_1 (Z : State) (x_ : Addr) (s_ : Addr) (ks_ : ClassId) (vs_ : List Value) (z_ : Int32) (h0 : Heap) (n0 : Nat) (v : Option Value) (h : Heap) (L : List Loc) : Prop := v = some (ii 1) ∧ Fr n0 L ∧ h = h0
set_option maxRecDepth 65536 in
set_option maxHeartbeats 40000000 in
theorem rm_lenL_1 (l : Launch) (Z : State) (a0 : Array Value) (hw : HW Z a0) (ws : List Jvm.Cond) (x_ : Addr) (s_ : Addr) (ks_ : ClassId) (vs_ : List Value) (z_ : Int32) (h0 : Heap) (n0 : Nat) (O0 : Old Z n0 h0) (E0_ : Exa Z h0 x_ nm0) (F1_ : Fld Z h0 x_ nm0 "coder" "B" (ii 0)) (F2_ : Fld Z h0 x_ nm0 "value" "[B" (rr s_)) (A3_ : Arv Z h0 s_ ks_ .byte (1 : Int32) vs_ (ii 0)) (ZS4_ : Sta Z Z.heap nm0 "COMPACT_STRINGS" "Z" (.int z_)) (hz_ : ¬ (z_ = (0 : Int32))) :
  MFP l Z (⟨nm0, "length", "()I"⟩ : MethodName) jdk_42_method_54_code 1 (some .int) ({ frames := 1, cells := 0, slots := 0, locals := 13 } : Room) ws #[(rr x_)] h0 (Q_lenL_1 Z x_ s_ ks_ vs_ z_ h0 n0) := by
 refine MetFree.of_bodySF (plainFor_of_name pn_java_lang_String) hisR ?_
 intro p e s m args below meth c s₁ Bd hml0 hP hK
 obtain ⟨rfl, hZ, hh⟩ := hP
 have hx := Bd.exec
 have hby := Bd.bytes
 have hml : c.maxLocals = 1 := hml0
 have hown : s.vm.findClass nm0 = some m.cls := findClass_of_methodNamed Bd.named
 have hnm := (name_of_methodNamed Bd.named Bd.method).1
 have X0 : Stand p l e ({ frames := 1, cells := 0, slots := 0, locals := 13 } : Room) s m #[(rr x_)] below meth c s₁ [] 0 0 := Stand.of_body Bd
 have e0 : s₁.heap = h0 := by rw [← hh, Bd.state]; rfl
 have N0 := Fr.nil n0
 have kp0 : Keep h0 h0 [] := Keep.refl _ _
 have c0 : ∀ t, S_ p e below s₁ m 0 #[vr x_] [] t → Steps p.tables e below (s₁.setTop (entryFrame m #[(rr x_)] 1)) t := fun t k => castTop (ef_lenL_1 m x_) k
 generalize s₁.setTop (entryFrame m #[(rr x_)] 1) = st0 at c0 ⊢
 replace c0 : Kt p e below s₁ st0 (mkF m 0 #[vr x_] []) := c0
 have c1 : Kt p e below s₁ st0 (mkF m 1 #[vr x_] [(rr x_)]) := fun t k => by
  refine c0 t ?_
  show S_ p e below s₁ m 0 #[vr x_] [] t
  refine XS.aloadN X0.here hx rfl (hb hby d17_0) rfl rfl ?_
  exact k
 obtain ⟨T2, X2, e2, c2⟩ := kget X0 hx hZ hown (host := "") (Or.inl (w24 hw)) Via.refl e0 F2_ c1 rfl rfl (hb hby d17_1)
 have c3 : Kt p e below T2 st0 (mkF m 6 #[vr x_] [(rr x_), (ii 1)]) := fun t k => by
  refine c2 t ?_
  show S_ p e below T2 m 4 #[vr x_] [(rr s_)] t
  refine ldLen X2 hx hZ e2 A3_ rfl rfl (hb hby d17_4) ?_
  refine XS.aloadN X2.here hx rfl (hb hby d17_5) rfl rfl ?_
  exact k
 obtain ⟨_, T4, L4, X4, hQ4, c4⟩ := kvirt X2 hx hZ hown (w52 hw) (w53 hw) (w55 hw) (w54 hw) (w56 hw) (w6 hw) (rm_codL l Z a0 hw [] x_ z_ h0 n0 O0 F1_ ZS4_ hz_) e2 E0_ c3 hml pd_prB [] [(ii 1)] 1 (hb hby d17_6) rfl rfl rfl rfl rfl rfl
 obtain ⟨rfl, N5q, K6⟩ := hQ4
 have N5 := Fr.app N0 N5q
 obtain ⟨fs, hr, hrun, hended, hW, hsame⟩ := X4.leave (v := some (ii 1)) (fun h => by rw [Bd.returns] at h; cases h)
 refine ⟨_, _, c4 _ ?_, hrun, hended, _, _, rfl, ?_, ⟨_, rfl⟩, hW, hsame.mono (by decide) (by decide)⟩
 ·show S_ p e below T4 m 9 #[vr x_] [(ii 0), (ii 1)] _
  refine XS.ishr X4.here hx rfl (hb hby d17_9) rfl ?_
  show S_ p e below T4 m 10 #[vr x_] [(ii 1)] _
  exact retOut X4 hx Bd.returns rfl (Or.inl ⟨rfl, Or.inl rfl, _, rfl⟩) (hb hby d17_10) hr
 ·show Q_lenL_1 Z x_ s_ ks_ vs_ z_ h0 n0 _ T4.heap _
  rw [K6]
  exact ⟨rfl, N5, rfl⟩
theorem ef_six2L_1 (m : MethodId) (x_ : Addr) (ch_ : Int32) : entryFrame m #[(rr x_), (.int ch_), (ii 0)] 3 = mkF m 0 #[vr x_, vi ch_, vi 0] [] := by first | (simp [entryFrame, mkF, argsToLocals, Value.category]; done) | rfl
def Q_six2L_1 (Z : State) (x_ : Addr) (z_ : Int32) (s_ : Addr) (ks_ : ClassId) (ch_ : Int32) (v0_ : Int32) (h0 : Heap) (n0 : Nat) (v : Option Value) (h : Heap) (L : List Loc) : Prop := (∃ (r_ : Int32), v = some (.int r_) ∧ Fr n0 L ∧ h = h0 ∧ ¬ (r_ < (0 : Int32)) ∧ v0_ = (ch_.toInt8.toInt32)) ∨ (v = some (ii (-1)) ∧ Fr n0 L ∧ h = h0 ∧ ¬ (v0_ = (ch_.toInt8.toInt32)))
set_option maxRecDepth 65536 in
set_option maxHeartbeats 40000000 in
theorem rm_six2L_1 (l : Launch) (Z : State) (a0 : Array Value) (hw : HW Z a0) (ws : List Jvm.Cond) (x_ : Addr) (z_ : Int32) (s_ : Addr) (ks_ : ClassId) (ch_ : Int32) (v0_ : Int32) (h0 : Heap) (n0 : Nat) (O0 : Old Z n0 h0) (E0_ : Exa Z h0 x_ nm0) (F1_ : Fld Z h0 x_ nm0 "coder" "B" (ii 0)) (F2_ : Fld Z h0 x_ nm0 "value" "[B" (rr s_)) (A3_ : Arv Z h0 s_ ks_ .byte (1 : Int32) [(.int v0_)] (ii 0)) (ZS4_ : Sta Z Z.heap nm0 "COMPACT_STRINGS" "Z" (.int z_)) (hz_ : ¬ (z_ = (0 : Int32))) (h1_ : ¬ (ch_ < (0 : Int32))) (h2_ : ¬ ((255 : Int32) < ch_)) :
  MFP l Z (⟨nm0, "indexOf", "(II)I"⟩ : MethodName) jdk_42_method_80_code 3 (some .int) ({ frames := 2, cells := 0, slots := 0, locals := 32 } : Room) ws #[(rr x_), (.int ch_), (ii 0)] h0 (Q_six2L_1 Z x_ z_ s_ ks_ ch_ v0_ h0 n0) := by
 refine MetFree.of_bodySF (plainFor_of_name pn_java_lang_String) hisR ?_
 intro p e s m args below meth c s₁ Bd hml0 hP hK
 obtain ⟨rfl, hZ, hh⟩ := hP
 have hx := Bd.exec
 have hby := Bd.bytes
 have hml : c.maxLocals = 3 := hml0
 have hown : s.vm.findClass nm0 = some m.cls := findClass_of_methodNamed Bd.named
 have hnm := (name_of_methodNamed Bd.named Bd.method).1
 have X0 : Stand p l e ({ frames := 2, cells := 0, slots := 0, locals := 32 } : Room) s m #[(rr x_), (.int ch_), (ii 0)] below meth c s₁ [] 0 0 := Stand.of_body Bd
 have e0 : s₁.heap = h0 := by rw [← hh, Bd.state]; rfl
 have N0 := Fr.nil n0
 have kp0 : Keep h0 h0 [] := Keep.refl _ _
 have c0 : ∀ t, S_ p e below s₁ m 0 #[vr x_, vi ch_, vi 0] [] t → Steps p.tables e below (s₁.setTop (entryFrame m #[(rr x_), (.int ch_), (ii 0)] 3)) t := fun t k => castTop (ef_six2L_1 m x_ ch_) k
 generalize s₁.setTop (entryFrame m #[(rr x_), (.int ch_), (ii 0)] 3) = st0 at c0 ⊢
 replace c0 : Kt p e below s₁ st0 (mkF m 0 #[vr x_, vi ch_, vi 0] []) := c0
 have c1 : Kt p e below s₁ st0 (mkF m 1 #[vr x_, vi ch_, vi 0] [(rr x_)]) := fun t k => by
  refine c0 t ?_
  show S_ p e below s₁ m 0 #[vr x_, vi ch_, vi 0] [] t
  refine XS.aloadN X0.here hx rfl (hb hby d18_0) rfl rfl ?_
  exact k
 obtain ⟨_, T2, L2, X2, hQ2, c2⟩ := kvirt X0 hx hZ hown (w41 hw) (w42 hw) (w44 hw) (w43 hw) (w45 hw) (w6 hw) (rm_islL l Z a0 hw [] x_ z_ h0 n0 O0 F1_ ZS4_ hz_) e0 E0_ c1 hml pd_prZ [] [] 0 (hb hby d18_1) rfl rfl rfl rfl rfl rfl
 obtain ⟨rfl, N3q, K4⟩ := hQ2
 have N3 := Fr.app N0 N3q
 have c5 : Kt p e below T2 st0 (mkF m 8 #[vr x_, vi ch_, vi 0] [(rr x_)]) := fun t k => by
  refine c2 t ?_
  show S_ p e below T2 m 4 #[vr x_, vi ch_, vi 0] [(ii 1)] t
  refine XS.ifNo X2.here hx rfl (hb hby d18_4) rfl rfl ?_
  refine XS.aloadN X2.here hx rfl (hb hby d18_7) rfl rfl ?_
  exact k
 obtain ⟨T6, X6, e6, c6⟩ := kget X2 hx hZ hown (host := "") (Or.inl (w24 hw)) Via.refl K4 F2_ c5 rfl rfl (hb hby d18_8)
 have c7 : Kt p e below T6 st0 (mkF m 14 #[vr x_, vi ch_, vi 0] [(rr x_), (ii 0), (.int ch_), (rr s_)]) := fun t k => by
  refine c6 t ?_
  show S_ p e below T6 m 11 #[vr x_, vi ch_, vi 0] [(rr s_)] t
  refine XS.iloadN X6.here hx rfl (hb hby d18_11) rfl ?_
  refine XS.iloadN X6.here hx rfl (hb hby d18_12) rfl ?_
  refine XS.aloadN X6.here hx rfl (hb hby d18_13) rfl rfl ?_
  exact k
 obtain ⟨_, T8, L8, X8, hQ8, c8⟩ := kvirt X6 hx hZ hown (w47 hw) (w48 hw) (w50 hw) (w49 hw) (w51 hw) (w6 hw) (rm_lenL_1 l Z a0 hw [] x_ s_ ks_ [(.int v0_)] z_ h0 n0 O0 E0_ F1_ F2_ A3_ ZS4_ hz_) e6 E0_ c7 hml pd_prI [] [(ii 0), (.int ch_), (rr s_)] 3 (hb hby d18_14) rfl rfl rfl rfl rfl rfl
 obtain ⟨rfl, N9q, K10⟩ := hQ8
 have N9 := Fr.app N3 N9q
 obtain ⟨_, T11, L11, X11, hQ11, c11⟩ := kstat X8 hx hZ hown (w57 hw) (w58 hw) (w59 hw) (w60 hw) (rm_l1i_1 l Z a0 hw [] s_ ks_ ch_ v0_ h0 n0 O0 A3_ h1_ h2_) K10 c8 hml pd_pABIIIrI [(rr s_), (.int ch_), (ii 0), (ii 1)] [] 0 (hb hby d18_17) rfl rfl rfl rfl rfl rfl
 rcases hQ11 with hQ11 | hQ11
 ·obtain ⟨i12, rfl, N13q, K14, p15, p16⟩ := hQ11
  have N13 := Fr.app N9 N13q
  obtain ⟨fs, hr, hrun, hended, hW, hsame⟩ := X11.leave (v := some (.int i12)) (fun h => by rw [Bd.returns] at h; cases h)
  refine ⟨_, _, c11 _ ?_, hrun, hended, _, _, rfl, ?_, ⟨_, rfl⟩, hW, hsame.mono (by decide) (by decide)⟩
  ·show S_ p e below T11 m 20 #[vr x_, vi ch_, vi 0] [(.int i12)] _
   refine yG X11.here hx rfl 20 36 rfl (hb hby d18_20) ?_
   show S_ p e below T11 m 36 #[vr x_, vi ch_, vi 0] [(.int i12)] _
   exact retOut X11 hx Bd.returns rfl (Or.inl ⟨rfl, Or.inl rfl, _, rfl⟩) (hb hby d18_36) hr
  ·show Q_six2L_1 Z x_ z_ s_ ks_ ch_ v0_ h0 n0 _ T11.heap _
   rw [K14]
   exact (Or.inl ⟨i12, rfl, N13, rfl, p15, p16⟩)
 ·obtain ⟨rfl, N17q, K18, p19⟩ := hQ11
  have N17 := Fr.app N9 N17q
  obtain ⟨fs, hr, hrun, hended, hW, hsame⟩ := X11.leave (v := some (ii (-1))) (fun h => by rw [Bd.returns] at h; cases h)
  refine ⟨_, _, c11 _ ?_, hrun, hended, _, _, rfl, ?_, ⟨_, rfl⟩, hW, hsame.mono (by decide) (by decide)⟩
  ·show S_ p e below T11 m 20 #[vr x_, vi ch_, vi 0] [(ii (-1))] _
   refine yG X11.here hx rfl 20 36 rfl (hb hby d18_20) ?_
   show S_ p e below T11 m 36 #[vr x_, vi ch_, vi 0] [(ii (-1))] _
   exact retOut X11 hx Bd.returns rfl (Or.inl ⟨rfl, Or.inl rfl, _, rfl⟩) (hb hby d18_36) hr
  ·show Q_six2L_1 Z x_ z_ s_ ks_ ch_ v0_ h0 n0 _ T11.heap _
   rw [K18]
   exact (Or.inr (⟨rfl, N17, rfl, p19⟩))
theorem ef_six1L_1 (m : MethodId) (x_ : Addr) (ch_ : Int32) : entryFrame m #[(rr x_), (.int ch_)] 2 = mkF m 0 #[vr x_, vi ch_] [] := by first | (simp [entryFrame, mkF, argsToLocals, Value.category]; done) | rfl
def Q_six1L_1 (Z : State) (x_ : Addr) (z_ : Int32) (s_ : Addr) (ks_ : ClassId) (ch_ : Int32) (v0_ : Int32) (h0 : Heap) (n0 : Nat) (v : Option Value) (h : Heap) (L : List Loc) : Prop := (∃ (r_ : Int32), v = some (.int r_) ∧ Fr n0 L ∧ h = h0 ∧ ¬ (r_ < (0 : Int32)) ∧ v0_ = (ch_.toInt8.toInt32)) ∨ (v = some (ii (-1)) ∧ Fr n0 L ∧ h = h0 ∧ ¬ (v0_ = (ch_.toInt8.toInt32)))
set_option maxRecDepth 65536 in
set_option maxHeartbeats 40000000 in
theorem rm_six1L_1 (l : Launch) (Z : State) (a0 : Array Value) (hw : HW Z a0) (ws : List Jvm.Cond) (x_ : Addr) (z_ : Int32) (s_ : Addr) (ks_ : ClassId) (ch_ : Int32) (v0_ : Int32) (h0 : Heap) (n0 : Nat) (O0 : Old Z n0 h0) (E0_ : Exa Z h0 x_ nm0) (F1_ : Fld Z h0 x_ nm0 "coder" "B" (ii 0)) (F2_ : Fld Z h0 x_ nm0 "value" "[B" (rr s_)) (A3_ : Arv Z h0 s_ ks_ .byte (1 : Int32) [(.int v0_)] (ii 0)) (ZS4_ : Sta Z Z.heap nm0 "COMPACT_STRINGS" "Z" (.int z_)) (hz_ : ¬ (z_ = (0 : Int32))) (h1_ : ¬ (ch_ < (0 : Int32))) (h2_ : ¬ ((255 : Int32) < ch_)) :
  MFP l Z (⟨nm0, "indexOf", "(I)I"⟩ : MethodName) jdk_42_method_79_code 2 (some .int) ({ frames := 3, cells := 0, slots := 0, locals := 46 } : Room) ws #[(rr x_), (.int ch_)] h0 (Q_six1L_1 Z x_ z_ s_ ks_ ch_ v0_ h0 n0) := by
 refine MetFree.of_bodySF (plainFor_of_name pn_java_lang_String) hisR ?_
 intro p e s m args below meth c s₁ Bd hml0 hP hK
 obtain ⟨rfl, hZ, hh⟩ := hP
 have hx := Bd.exec
 have hby := Bd.bytes
 have hml : c.maxLocals = 2 := hml0
 have hown : s.vm.findClass nm0 = some m.cls := findClass_of_methodNamed Bd.named
 have hnm := (name_of_methodNamed Bd.named Bd.method).1
 have X0 : Stand p l e ({ frames := 3, cells := 0, slots := 0, locals := 46 } : Room) s m #[(rr x_), (.int ch_)] below meth c s₁ [] 0 0 := Stand.of_body Bd
 have e0 : s₁.heap = h0 := by rw [← hh, Bd.state]; rfl
 have N0 := Fr.nil n0
 have kp0 : Keep h0 h0 [] := Keep.refl _ _
 have c0 : ∀ t, S_ p e below s₁ m 0 #[vr x_, vi ch_] [] t → Steps p.tables e below (s₁.setTop (entryFrame m #[(rr x_), (.int ch_)] 2)) t := fun t k => castTop (ef_six1L_1 m x_ ch_) k
 generalize s₁.setTop (entryFrame m #[(rr x_), (.int ch_)] 2) = st0 at c0 ⊢
 replace c0 : Kt p e below s₁ st0 (mkF m 0 #[vr x_, vi ch_] []) := c0
 have c1 : Kt p e below s₁ st0 (mkF m 3 #[vr x_, vi ch_] [(ii 0), (.int ch_), (rr x_)]) := fun t k => by
  refine c0 t ?_
  show S_ p e below s₁ m 0 #[vr x_, vi ch_] [] t
  refine XS.aloadN X0.here hx rfl (hb hby d19_0) rfl rfl ?_
  refine XS.iloadN X0.here hx rfl (hb hby d19_1) rfl ?_
  refine XS.iconst X0.here hx rfl (hb hby d19_2) ?_
  exact k
 obtain ⟨_, T2, L2, X2, hQ2, c2⟩ := kvirt X0 hx hZ hown (w36 hw) (w37 hw) (w39 hw) (w38 hw) (w40 hw) (w6 hw) (rm_six2L_1 l Z a0 hw [] x_ z_ s_ ks_ ch_ v0_ h0 n0 O0 E0_ F1_ F2_ A3_ ZS4_ hz_ h1_ h2_) e0 E0_ c1 hml pd_pIIrI [(.int ch_), (ii 0)] [] 0 (hb hby d19_3) rfl rfl rfl rfl rfl rfl
 rcases hQ2 with hQ2 | hQ2
 ·obtain ⟨i3, rfl, N4q, K5, p6, p7⟩ := hQ2
  have N4 := Fr.app N0 N4q
  obtain ⟨fs, hr, hrun, hended, hW, hsame⟩ := X2.leave (v := some (.int i3)) (fun h => by rw [Bd.returns] at h; cases h)
  refine ⟨_, _, c2 _ ?_, hrun, hended, _, _, rfl, ?_, ⟨_, rfl⟩, hW, hsame.mono (by decide) (by decide)⟩
  ·show S_ p e below T2 m 6 #[vr x_, vi ch_] [(.int i3)] _
   exact retOut X2 hx Bd.returns rfl (Or.inl ⟨rfl, Or.inl rfl, _, rfl⟩) (hb hby d19_6) hr
  ·show Q_six1L_1 Z x_ z_ s_ ks_ ch_ v0_ h0 n0 _ T2.heap _
   rw [K5]
   exact (Or.inl ⟨i3, rfl, N4, rfl, p6, p7⟩)
 ·obtain ⟨rfl, N8q, K9, p10⟩ := hQ2
  have N8 := Fr.app N0 N8q
  obtain ⟨fs, hr, hrun, hended, hW, hsame⟩ := X2.leave (v := some (ii (-1))) (fun h => by rw [Bd.returns] at h; cases h)
  refine ⟨_, _, c2 _ ?_, hrun, hended, _, _, rfl, ?_, ⟨_, rfl⟩, hW, hsame.mono (by decide) (by decide)⟩
  ·show S_ p e below T2 m 6 #[vr x_, vi ch_] [(ii (-1))] _
   exact retOut X2 hx Bd.returns rfl (Or.inl ⟨rfl, Or.inl rfl, _, rfl⟩) (hb hby d19_6) hr
  ·show Q_six1L_1 Z x_ z_ s_ ks_ ch_ v0_ h0 n0 _ T2.heap _
   rw [K9]
   exact (Or.inr (⟨rfl, N8, rfl, p10⟩))
theorem d21_0 : decode jdk_52_method_6_code 0 = .ok (.aload_n 0, 1) := by decide +kernel
theorem d21_1 : decode jdk_52_method_6_code 1 = .ok (.arraylength, 1) := by decide +kernel
theorem d21_2 : decode jdk_52_method_6_code 2 = .ok (.iconst 1, 1) := by decide +kernel
theorem d21_3 : decode jdk_52_method_6_code 3 = .ok (.ishr, 1) := by decide +kernel
theorem d21_4 : decode jdk_52_method_6_code 4 = .ok (.ireturn, 1) := by decide +kernel
theorem ef_u16len_1 (m : MethodId) (s_ : Addr) : entryFrame m #[(rr s_)] 1 = mkF m 0 #[vr s_] [] := by first | (simp [entryFrame, mkF, argsToLocals, Value.category]; done) | rfl
def Q_u16len_1 (Z : State) (s_ : Addr) (ks_ : ClassId) (vs_ : List Value) (h0 : Heap) (n0 : Nat) (v : Option Value) (h : Heap) (L : List Loc) : Prop := v = some (ii 1) ∧ Fr n0 L ∧ h = h0
set_option maxRecDepth 65536 in
set_option maxHeartbeats 40000000 in
theorem rm_u16len_1 (l : Launch) (Z : State) (a0 : Array Value) (hw : HW Z a0) (ws : List Jvm.Cond) (s_ : Addr) (ks_ : ClassId) (vs_ : List Value) (h0 : Heap) (n0 : Nat) (O0 : Old Z n0 h0) (A0_ : Arv Z h0 s_ ks_ .byte (2 : Int32) vs_ (ii 0)) :
  MFP l Z (⟨nm1, "length", "([B)I"⟩ : MethodName) jdk_52_method_6_code 1 (some .int) ({ frames := 0, cells := 0, slots := 0, locals := 0 } : Room) ws #[(rr s_)] h0 (Q_u16len_1 Z s_ ks_ vs_ h0 n0) := by
 refine MetFree.of_bodySF (plainFor_of_name pn_java_lang_StringUTF16) hisR ?_
 intro p e s m args below meth c s₁ Bd hml0 hP hK
 obtain ⟨rfl, hZ, hh⟩ := hP
 have hx := Bd.exec
 have hby := Bd.bytes
 have hml : c.maxLocals = 1 := hml0
 have hown : s.vm.findClass nm1 = some m.cls := findClass_of_methodNamed Bd.named
 have hnm := (name_of_methodNamed Bd.named Bd.method).1
 have X0 : Stand p l e ({ frames := 0, cells := 0, slots := 0, locals := 0 } : Room) s m #[(rr s_)] below meth c s₁ [] 0 0 := Stand.of_body Bd
 have e0 : s₁.heap = h0 := by rw [← hh, Bd.state]; rfl
 have N0 := Fr.nil n0
 have kp0 : Keep h0 h0 [] := Keep.refl _ _
 have c0 : ∀ t, S_ p e below s₁ m 0 #[vr s_] [] t → Steps p.tables e below (s₁.setTop (entryFrame m #[(rr s_)] 1)) t := fun t k => castTop (ef_u16len_1 m s_) k
 generalize s₁.setTop (entryFrame m #[(rr s_)] 1) = st0 at c0 ⊢
 replace c0 : Kt p e below s₁ st0 (mkF m 0 #[vr s_] []) := c0
 obtain ⟨fs, hr, hrun, hended, hW, hsame⟩ := X0.leave (v := some (ii 1)) (fun h => by rw [Bd.returns] at h; cases h)
 refine ⟨_, _, c0 _ ?_, hrun, hended, _, _, rfl, ?_, ⟨_, rfl⟩, hW, hsame.mono (by decide) (by decide)⟩
 ·show S_ p e below s₁ m 0 #[vr s_] [] _
  refine XS.aloadN X0.here hx rfl (hb hby d21_0) rfl rfl ?_
  refine ldLen X0 hx hZ e0 A0_ rfl rfl (hb hby d21_1) ?_
  refine XS.iconst X0.here hx rfl (hb hby d21_2) ?_
  refine XS.ishr X0.here hx rfl (hb hby d21_3) rfl ?_
  show S_ p e below s₁ m 4 #[vr s_] [(ii 1)] _
  exact retOut X0 hx Bd.returns rfl (Or.inl ⟨rfl, Or.inl rfl, _, rfl⟩) (hb hby d21_4) hr
 ·show Q_u16len_1 Z s_ ks_ vs_ h0 n0 _ s₁.heap _
  rw [e0]
  exact ⟨rfl, N0, rfl⟩
theorem pn_jdk_internal_util_Preconditions : plainName nm4 = true := by first | (simp [plainName, overriddenIn]; done) | decide +kernel
theorem d22_0 : decode jdk_41_method_12_code 0 = .ok (.iload_n 0, 1) := by decide +kernel
theorem d22_1 : decode jdk_41_method_12_code 1 = .ok (.ifCond .lt 13, 3) := by decide +kernel
theorem d22_4 : decode jdk_41_method_12_code 4 = .ok (.iload_n 0, 1) := by decide +kernel
theorem d22_5 : decode jdk_41_method_12_code 5 = .ok (.iload_n 1, 1) := by decide +kernel
theorem d22_6 : decode jdk_41_method_12_code 6 = .ok (.if_icmp .gt 8, 3) := by decide +kernel
theorem d22_9 : decode jdk_41_method_12_code 9 = .ok (.iload_n 1, 1) := by decide +kernel
theorem d22_10 : decode jdk_41_method_12_code 10 = .ok (.iload_n 2, 1) := by decide +kernel
theorem d22_11 : decode jdk_41_method_12_code 11 = .ok (.if_icmp .le 11, 3) := by decide +kernel
theorem d22_22 : decode jdk_41_method_12_code 22 = .ok (.iload_n 0, 1) := by decide +kernel
theorem d22_23 : decode jdk_41_method_12_code 23 = .ok (.ireturn, 1) := by decide +kernel
theorem ef_cft_1 (m : MethodId) (fm_ : Value) (hfm_ : fm_.isRef = true) : entryFrame m #[(ii 0), (ii 1), (ii 1), fm_] 4 = mkF m 0 #[vi 0, vi 1, vi 1, .val fm_] [] := by (rcases ref_cases hfm_ with rfl | ⟨_, rfl⟩) <;> first | (simp [entryFrame, mkF, argsToLocals, Value.category]; done) | rfl
def Q_cft_1 (Z : State) (fm_ : Value) (h0 : Heap) (n0 : Nat) (v : Option Value) (h : Heap) (L : List Loc) : Prop := v = some (ii 0) ∧ Fr n0 L ∧ h = h0
set_option maxRecDepth 65536 in
set_option maxHeartbeats 40000000 in
theorem rm_cft_1 (l : Launch) (Z : State) (a0 : Array Value) (hw : HW Z a0) (ws : List Jvm.Cond) (fm_ : Value) (h0 : Heap) (n0 : Nat) (O0 : Old Z n0 h0) (hfm_ : fm_.isRef = true) :
  MFP l Z (⟨nm4, "checkFromToIndex", "(IIILjava/util/function/BiFunction;)I"⟩ : MethodName) jdk_41_method_12_code 4 (some .int) ({ frames := 0, cells := 0, slots := 0, locals := 0 } : Room) ws #[(ii 0), (ii 1), (ii 1), fm_] h0 (Q_cft_1 Z fm_ h0 n0) := by
 refine MetFree.of_bodySF (plainFor_of_name pn_jdk_internal_util_Preconditions) hisR ?_
 intro p e s m args below meth c s₁ Bd hml0 hP hK
 obtain ⟨rfl, hZ, hh⟩ := hP
 have hx := Bd.exec
 have hby := Bd.bytes
 have hml : c.maxLocals = 4 := hml0
 have hown : s.vm.findClass nm4 = some m.cls := findClass_of_methodNamed Bd.named
 have hnm := (name_of_methodNamed Bd.named Bd.method).1
 have X0 : Stand p l e ({ frames := 0, cells := 0, slots := 0, locals := 0 } : Room) s m #[(ii 0), (ii 1), (ii 1), fm_] below meth c s₁ [] 0 0 := Stand.of_body Bd
 have e0 : s₁.heap = h0 := by rw [← hh, Bd.state]; rfl
 have N0 := Fr.nil n0
 have kp0 : Keep h0 h0 [] := Keep.refl _ _
 have c0 : ∀ t, S_ p e below s₁ m 0 #[vi 0, vi 1, vi 1, .val fm_] [] t → Steps p.tables e below (s₁.setTop (entryFrame m #[(ii 0), (ii 1), (ii 1), fm_] 4)) t := fun t k => castTop (ef_cft_1 m fm_ hfm_) k
 generalize s₁.setTop (entryFrame m #[(ii 0), (ii 1), (ii 1), fm_] 4) = st0 at c0 ⊢
 replace c0 : Kt p e below s₁ st0 (mkF m 0 #[vi 0, vi 1, vi 1, .val fm_] []) := c0
 obtain ⟨fs, hr, hrun, hended, hW, hsame⟩ := X0.leave (v := some (ii 0)) (fun h => by rw [Bd.returns] at h; cases h)
 refine ⟨_, _, c0 _ ?_, hrun, hended, _, _, rfl, ?_, ⟨_, rfl⟩, hW, hsame.mono (by decide) (by decide)⟩
 ·show S_ p e below s₁ m 0 #[vi 0, vi 1, vi 1, .val fm_] [] _
  refine XS.iloadN X0.here hx rfl (hb hby d22_0) rfl ?_
  refine XS.ifNo X0.here hx rfl (hb hby d22_1) rfl rfl ?_
  refine XS.iloadN X0.here hx rfl (hb hby d22_4) rfl ?_
  refine XS.iloadN X0.here hx rfl (hb hby d22_5) rfl ?_
  refine XS.icmpNo X0.here hx rfl (hb hby d22_6) rfl rfl ?_
  refine XS.iloadN X0.here hx rfl (hb hby d22_9) rfl ?_
  refine XS.iloadN X0.here hx rfl (hb hby d22_10) rfl ?_
  refine yC X0.here hx rfl 11 22 rfl (hb hby d22_11) rfl rfl ?_
  show S_ p e below s₁ m 22 #[vi 0, vi 1, vi 1, .val fm_] [] _
  refine XS.iloadN X0.here hx rfl (hb hby d22_22) rfl ?_
  show S_ p e below s₁ m 23 #[vi 0, vi 1, vi 1, .val fm_] [(ii 0)] _
  exact retOut X0 hx Bd.returns rfl (Or.inl ⟨rfl, Or.inl rfl, _, rfl⟩) (hb hby d22_23) hr
 ·show Q_cft_1 Z fm_ h0 n0 _ s₁.heap _
  rw [e0]
  exact ⟨rfl, N0, rfl⟩
theorem d23_0 : decode jdk_42_method_158_code 0 = .ok (.iload_n 0, 1) := by decide +kernel
theorem d23_1 : decode jdk_42_method_158_code 1 = .ok (.iload_n 1, 1) := by decide +kernel
theorem d23_2 : decode jdk_42_method_158_code 2 = .ok (.iload_n 2, 1) := by decide +kernel
theorem d23_3 : decode jdk_42_method_158_code 3 = .ok (.getstatic 1053, 3) := by decide +kernel
theorem d23_6 : decode jdk_42_method_158_code 6 = .ok (.invokestatic 1062, 3) := by decide +kernel
theorem pd_pIIILjava_util_function_BiFunction_rI : parseMethodDescriptor "(IIILjava/util/function/BiFunction;)I" = some ⟨[.int, .int, .int, (.object "java/util/function/BiFunction")], some .int⟩ := by decide +kernel
theorem d23_9 : decode jdk_42_method_158_code 9 = .ok (.pop, 1) := by decide +kernel
theorem d23_10 : decode jdk_42_method_158_code 10 = .ok (.return_, 1) := by decide +kernel
theorem ef_cbe_1 (m : MethodId) : entryFrame m #[(ii 0), (ii 1), (ii 1)] 3 = mkF m 0 #[vi 0, vi 1, vi 1] [] := by first | (simp [entryFrame, mkF, argsToLocals, Value.category]; done) | rfl
def Q_cbe_1 (Z : State) (fm_ : Value) (h0 : Heap) (n0 : Nat) (v : Option Value) (h : Heap) (L : List Loc) : Prop := v = none ∧ Fr n0 L ∧ h = h0
set_option maxRecDepth 65536 in
set_option maxHeartbeats 40000000 in
theorem rm_cbe_1 (l : Launch) (Z : State) (a0 : Array Value) (hw : HW Z a0) (ws : List Jvm.Cond) (fm_ : Value) (h0 : Heap) (n0 : Nat) (O0 : Old Z n0 h0) (ZS0_ : Sta Z Z.heap nm4 "SIOOBE_FORMATTER" nm6 fm_) (hfm_ : fm_.isRef = true) :
  MFP l Z (⟨nm0, "checkBoundsBeginEnd", "(III)V"⟩ : MethodName) jdk_42_method_158_code 3 none ({ frames := 1, cells := 0, slots := 0, locals := 15 } : Room) ws #[(ii 0), (ii 1), (ii 1)] h0 (Q_cbe_1 Z fm_ h0 n0) := by
 refine MetFree.of_bodySF (plainFor_of_name pn_java_lang_String) hisR ?_
 intro p e s m args below meth c s₁ Bd hml0 hP hK
 obtain ⟨rfl, hZ, hh⟩ := hP
 have hx := Bd.exec
 have hby := Bd.bytes
 have hml : c.maxLocals = 3 := hml0
 have hown : s.vm.findClass nm0 = some m.cls := findClass_of_methodNamed Bd.named
 have hnm := (name_of_methodNamed Bd.named Bd.method).1
 have X0 : Stand p l e ({ frames := 1, cells := 0, slots := 0, locals := 15 } : Room) s m #[(ii 0), (ii 1), (ii 1)] below meth c s₁ [] 0 0 := Stand.of_body Bd
 have e0 : s₁.heap = h0 := by rw [← hh, Bd.state]; rfl
 have N0 := Fr.nil n0
 have kp0 : Keep h0 h0 [] := Keep.refl _ _
 have c0 : ∀ t, S_ p e below s₁ m 0 #[vi 0, vi 1, vi 1] [] t → Steps p.tables e below (s₁.setTop (entryFrame m #[(ii 0), (ii 1), (ii 1)] 3)) t := fun t k => castTop (ef_cbe_1 m) k
 generalize s₁.setTop (entryFrame m #[(ii 0), (ii 1), (ii 1)] 3) = st0 at c0 ⊢
 replace c0 : Kt p e below s₁ st0 (mkF m 0 #[vi 0, vi 1, vi 1] []) := c0
 have c1 : Kt p e below s₁ st0 (mkF m 3 #[vi 0, vi 1, vi 1] [(ii 1), (ii 1), (ii 0)]) := fun t k => by
  refine c0 t ?_
  show S_ p e below s₁ m 0 #[vi 0, vi 1, vi 1] [] t
  refine XS.iloadN X0.here hx rfl (hb hby d23_0) rfl ?_
  refine XS.iloadN X0.here hx rfl (hb hby d23_1) rfl ?_
  refine XS.iloadN X0.here hx rfl (hb hby d23_2) rfl ?_
  exact k
 obtain ⟨T2, X2, e2, c2⟩ := kgetS X0 hx hZ hown (host := "") (Or.inl (w182 hw)) Via.refl e0 (ZS0_.ext O0.2) c1 rfl (hb hby d23_3)
 obtain ⟨_, T3, L3, X3, hQ3, c3⟩ := kstat X2 hx hZ hown (w184 hw) (w185 hw) (w183 hw) (w186 hw) (rm_cft_1 l Z a0 hw [] fm_ h0 n0 O0 hfm_) e2 c2 hml pd_pIIILjava_util_function_BiFunction_rI [(ii 0), (ii 1), (ii 1), fm_] [] 0 (hb hby d23_6) rfl rfl rfl rfl rfl rfl
 obtain ⟨rfl, N4q, K5⟩ := hQ3
 have N4 := Fr.app N0 N4q
 obtain ⟨fs, hr, hrun, hended, hW, hsame⟩ := X3.leave (v := none) (fun _ => rfl)
 refine ⟨_, _, c3 _ ?_, hrun, hended, _, _, rfl, ?_, ⟨_, rfl⟩, hW, hsame.mono (by decide) (by decide)⟩
 ·show S_ p e below T3 m 9 #[vi 0, vi 1, vi 1] [(ii 0)] _
  refine XS.pop X3.here hx rfl (hb hby d23_9) rfl rfl ?_
  show S_ p e below T3 m 10 #[vi 0, vi 1, vi 1] [] _
  exact X3.returnOut hx Bd.returns (hb hby d23_10) hr
 ·show Q_cbe_1 Z fm_ h0 n0 _ T3.heap _
  rw [K5]
  exact ⟨rfl, N4, rfl⟩
theorem d24_0 : decode jdk_52_method_93_code 0 = .ok (.iload_n 0, 1) := by decide +kernel
theorem d24_1 : decode jdk_52_method_93_code 1 = .ok (.iload_n 1, 1) := by decide +kernel
theorem d24_2 : decode jdk_52_method_93_code 2 = .ok (.aload_n 2, 1) := by decide +kernel
theorem d24_3 : decode jdk_52_method_93_code 3 = .ok (.invokestatic 48, 3) := by decide +kernel
theorem pd_pABrI : parseMethodDescriptor "([B)I" = some ⟨[(.array .byte)], some .int⟩ := by decide +kernel
theorem d24_6 : decode jdk_52_method_93_code 6 = .ok (.invokestatic 241, 3) := by decide +kernel
theorem pd_pIIIrV : parseMethodDescriptor "(III)V" = some ⟨[.int, .int, .int], none⟩ := by decide +kernel
theorem d24_9 : decode jdk_52_method_93_code 9 = .ok (.return_, 1) := by decide +kernel
theorem ef_ucbe_1 (m : MethodId) (s_ : Addr) : entryFrame m #[(ii 0), (ii 1), (rr s_)] 3 = mkF m 0 #[vi 0, vi 1, vr s_] [] := by first | (simp [entryFrame, mkF, argsToLocals, Value.category]; done) | rfl
def Q_ucbe_1 (Z : State) (s_ : Addr) (ks_ : ClassId) (vs_ : List Value) (fm_ : Value) (h0 : Heap) (n0 : Nat) (v : Option Value) (h : Heap) (L : List Loc) : Prop := v = none ∧ Fr n0 L ∧ h = h0
set_option maxRecDepth 65536 in
set_option maxHeartbeats 40000000 in
theorem rm_ucbe_1 (l : Launch) (Z : State) (a0 : Array Value) (hw : HW Z a0) (ws : List Jvm.Cond) (s_ : Addr) (ks_ : ClassId) (vs_ : List Value) (fm_ : Value) (h0 : Heap) (n0 : Nat) (O0 : Old Z n0 h0) (A0_ : Arv Z h0 s_ ks_ .byte (2 : Int32) vs_ (ii 0)) (ZS1_ : Sta Z Z.heap nm4 "SIOOBE_FORMATTER" nm6 fm_) (hfm_ : fm_.isRef = true) :
  MFP l Z (⟨nm1, "checkBoundsBeginEnd", "(II[B)V"⟩ : MethodName) jdk_52_method_93_code 3 none ({ frames := 2, cells := 0, slots := 0, locals := 29 } : Room) ws #[(ii 0), (ii 1), (rr s_)] h0 (Q_ucbe_1 Z s_ ks_ vs_ fm_ h0 n0) := by
 refine MetFree.of_bodySF (plainFor_of_name pn_java_lang_StringUTF16) hisR ?_
 intro p e s m args below meth c s₁ Bd hml0 hP hK
 obtain ⟨rfl, hZ, hh⟩ := hP
 have hx := Bd.exec
 have hby := Bd.bytes
 have hml : c.maxLocals = 3 := hml0
 have hown : s.vm.findClass nm1 = some m.cls := findClass_of_methodNamed Bd.named
 have hnm := (name_of_methodNamed Bd.named Bd.method).1
 have X0 : Stand p l e ({ frames := 2, cells := 0, slots := 0, locals := 29 } : Room) s m #[(ii 0), (ii 1), (rr s_)] below meth c s₁ [] 0 0 := Stand.of_body Bd
 have e0 : s₁.heap = h0 := by rw [← hh, Bd.state]; rfl
 have N0 := Fr.nil n0
 have kp0 : Keep h0 h0 [] := Keep.refl _ _
 have c0 : ∀ t, S_ p e below s₁ m 0 #[vi 0, vi 1, vr s_] [] t → Steps p.tables e below (s₁.setTop (entryFrame m #[(ii 0), (ii 1), (rr s_)] 3)) t := fun t k => castTop (ef_ucbe_1 m s_) k
 generalize s₁.setTop (entryFrame m #[(ii 0), (ii 1), (rr s_)] 3) = st0 at c0 ⊢
 replace c0 : Kt p e below s₁ st0 (mkF m 0 #[vi 0, vi 1, vr s_] []) := c0
 have c1 : Kt p e below s₁ st0 (mkF m 3 #[vi 0, vi 1, vr s_] [(rr s_), (ii 1), (ii 0)]) := fun t k => by
  refine c0 t ?_
  show S_ p e below s₁ m 0 #[vi 0, vi 1, vr s_] [] t
  refine XS.iloadN X0.here hx rfl (hb hby d24_0) rfl ?_
  refine XS.iloadN X0.here hx rfl (hb hby d24_1) rfl ?_
  refine XS.aloadN X0.here hx rfl (hb hby d24_2) rfl rfl ?_
  exact k
 obtain ⟨_, T2, L2, X2, hQ2, c2⟩ := kstat X0 hx hZ hown (w176 hw) (w177 hw) (w127 hw) (w178 hw) (rm_u16len_1 l Z a0 hw [] s_ ks_ vs_ h0 n0 O0 A0_) e0 c1 hml pd_pABrI [(rr s_)] [(ii 1), (ii 0)] 2 (hb hby d24_3) rfl rfl rfl rfl rfl rfl
 obtain ⟨rfl, N3q, K4⟩ := hQ2
 have N3 := Fr.app N0 N3q
 obtain ⟨_, T5, L5, X5, hQ5, c5⟩ := kstat X2 hx hZ hown (w179 hw) (w180 hw) (w6 hw) (w181 hw) (rm_cbe_1 l Z a0 hw [] fm_ h0 n0 O0 ZS1_ hfm_) K4 c2 hml pd_pIIIrV [(ii 0), (ii 1), (ii 1)] [] 0 (hb hby d24_6) rfl rfl rfl rfl rfl rfl
 obtain ⟨rfl, N6q, K7⟩ := hQ5
 have N6 := Fr.app N3 N6q
 obtain ⟨fs, hr, hrun, hended, hW, hsame⟩ := X5.leave (v := none) (fun _ => rfl)
 refine ⟨_, _, c5 _ ?_, hrun, hended, _, _, rfl, ?_, ⟨_, rfl⟩, hW, hsame.mono (by decide) (by decide)⟩
 ·show S_ p e below T5 m 9 #[vi 0, vi 1, vr s_] [] _
  exact X5.returnOut hx Bd.returns (hb hby d24_9) hr
 ·show Q_ucbe_1 Z s_ ks_ vs_ fm_ h0 n0 _ T5.heap _
  rw [K7]
  exact ⟨rfl, N6, rfl⟩
theorem d25_0 : decode jdk_52_method_48_code 0 = .ok (.iload_n 2, 1) := by decide +kernel
theorem d25_1 : decode jdk_52_method_48_code 1 = .ok (.istore 4, 2) := by decide +kernel
theorem d25_3 : decode jdk_52_method_48_code 3 = .ok (.iload 4, 2) := by decide +kernel
theorem d25_5 : decode jdk_52_method_48_code 5 = .ok (.iload_n 3, 1) := by decide +kernel
theorem d25_6 : decode jdk_52_method_48_code 6 = .ok (.if_icmp .ge 22, 3) := by decide +kernel
theorem d25_9 : decode jdk_52_method_48_code 9 = .ok (.aload_n 0, 1) := by decide +kernel
theorem d25_10 : decode jdk_52_method_48_code 10 = .ok (.iload 4, 2) := by decide +kernel
theorem d25_12 : decode jdk_52_method_48_code 12 = .ok (.invokestatic 71, 3) := by decide +kernel
theorem d25_15 : decode jdk_52_method_48_code 15 = .ok (.iload_n 1, 1) := by decide +kernel
theorem d25_16 : decode jdk_52_method_48_code 16 = .ok (.if_icmp .ne 6, 3) := by decide +kernel
theorem d25_19 : decode jdk_52_method_48_code 19 = .ok (.iload 4, 2) := by decide +kernel
theorem d25_21 : decode jdk_52_method_48_code 21 = .ok (.ireturn, 1) := by decide +kernel
theorem d25_22 : decode jdk_52_method_48_code 22 = .ok (.iinc 4 1, 3) := by decide +kernel
theorem d25_25 : decode jdk_52_method_48_code 25 = .ok (.goto (-22), 3) := by decide +kernel
theorem d25_28 : decode jdk_52_method_48_code 28 = .ok (.iconst (-1), 1) := by decide +kernel
theorem d25_29 : decode jdk_52_method_48_code 29 = .ok (.ireturn, 1) := by decide +kernel
theorem ef_uxu_1 (m : MethodId) (s_ : Addr) (ch_ : Int32) : entryFrame m #[(rr s_), (.int ch_), (ii 0), (ii 1)] 5 = mkF m 0 #[vr s_, vi ch_, vi 0, vi 1, u_] [] := by first | (simp [entryFrame, mkF, argsToLocals, Value.category]; done) | rfl
def Q_uxu_1 (Z : State) (s_ : Addr) (ks_ : ClassId) (ch_ : Int32) (c0_ : Int32) (h0 : Heap) (n0 : Nat) (v : Option Value) (h : Heap) (L : List Loc) : Prop := (∃ (r_ : Int32), v = some (.int r_) ∧ Fr n0 L ∧ h = h0 ∧ ¬ (r_ < (0 : Int32)) ∧ c0_ = ch_) ∨ (v = some (ii (-1)) ∧ Fr n0 L ∧ h = h0 ∧ ¬ (c0_ = ch_))
set_option maxRecDepth 65536 in
set_option maxHeartbeats 40000000 in
theorem rm_uxu_1 (l : Launch) (Z : State) (a0 : Array Value) (hw : HW Z a0) (ws : List Jvm.Cond) (s_ : Addr) (ks_ : ClassId) (ch_ : Int32) (c0_ : Int32) (h0 : Heap) (n0 : Nat) (O0 : Old Z n0 h0) (A0_ : Arv Z h0 s_ ks_ .byte (2 : Int32) [(.int (nar .byte ((c0_ >>> ((0 : Int32) &&& 31)).toInt8.toInt32))), (.int (nar .byte ((c0_ >>> ((8 : Int32) &&& 31)).toInt8.toInt32)))] (ii 0)) (ZS1_ : Sta Z Z.heap nm1 "$assertionsDisabled" "Z" (ii 1)) (ZS2_ : Sta Z Z.heap nm1 "HI_BYTE_SHIFT" "I" (ii 0)) (ZS3_ : Sta Z Z.heap nm1 "LO_BYTE_SHIFT" "I" (ii 8)) (hc0_ : nar .char c0_ = c0_) :
  MFP l Z (⟨nm1, "indexOfCharUnsafe", "([BIII)I"⟩ : MethodName) jdk_52_method_48_code 5 (some .int) ({ frames := 1, cells := 0, slots := 0, locals := 13 } : Room) ws #[(rr s_), (.int ch_), (ii 0), (ii 1)] h0 (Q_uxu_1 Z s_ ks_ ch_ c0_ h0 n0) := by
 refine MetFree.of_bodySF (plainFor_of_name pn_java_lang_StringUTF16) hisR ?_
 intro p e s m args below meth c s₁ Bd hml0 hP hK
 obtain ⟨rfl, hZ, hh⟩ := hP
 have hx := Bd.exec
 have hby := Bd.bytes
 have hml : c.maxLocals = 5 := hml0
 have hown : s.vm.findClass nm1 = some m.cls := findClass_of_methodNamed Bd.named
 have hnm := (name_of_methodNamed Bd.named Bd.method).1
 have X0 : Stand p l e ({ frames := 1, cells := 0, slots := 0, locals := 13 } : Room) s m #[(rr s_), (.int ch_), (ii 0), (ii 1)] below meth c s₁ [] 0 0 := Stand.of_body Bd
 have e0 : s₁.heap = h0 := by rw [← hh, Bd.state]; rfl
 have N0 := Fr.nil n0
 have kp0 : Keep h0 h0 [] := Keep.refl _ _
 have c0 : ∀ t, S_ p e below s₁ m 0 #[vr s_, vi ch_, vi 0, vi 1, u_] [] t → Steps p.tables e below (s₁.setTop (entryFrame m #[(rr s_), (.int ch_), (ii 0), (ii 1)] 5)) t := fun t k => castTop (ef_uxu_1 m s_ ch_) k
 generalize s₁.setTop (entryFrame m #[(rr s_), (.int ch_), (ii 0), (ii 1)] 5) = st0 at c0 ⊢
 replace c0 : Kt p e below s₁ st0 (mkF m 0 #[vr s_, vi ch_, vi 0, vi 1, u_] []) := c0
 have c1 : Kt p e below s₁ st0 (mkF m 12 #[vr s_, vi ch_, vi 0, vi 1, vi 0] [(ii 0), (rr s_)]) := fun t k => by
  refine c0 t ?_
  show S_ p e below s₁ m 0 #[vr s_, vi ch_, vi 0, vi 1, u_] [] t
  refine XS.iloadN X0.here hx rfl (hb hby d25_0) rfl ?_
  refine XS.istore X0.here hx rfl (hb hby d25_1) rfl (l' := #[vr s_, vi ch_, vi 0, vi 1, vi 0]) rfl ?_
  refine XS.iload X0.here hx rfl (hb hby d25_3) rfl ?_
  refine XS.iloadN X0.here hx rfl (hb hby d25_5) rfl ?_
  refine XS.icmpNo X0.here hx rfl (hb hby d25_6) rfl rfl ?_
  refine XS.aloadN X0.here hx rfl (hb hby d25_9) rfl rfl ?_
  refine XS.iload X0.here hx rfl (hb hby d25_10) rfl ?_
  exact k
 obtain ⟨_, T2, L2, X2, hQ2, c2⟩ := kstat X0 hx hZ hown (w161 hw) (w162 hw) (w127 hw) (w163 hw) (rm_getc l Z a0 hw [] s_ ks_ (2 : Int32) [(.int (nar .byte ((c0_ >>> ((0 : Int32) &&& 31)).toInt8.toInt32))), (.int (nar .byte ((c0_ >>> ((8 : Int32) &&& 31)).toInt8.toInt32)))] (0 : Int32) ((nar .byte ((c0_ >>> ((0 : Int32) &&& 31)).toInt8.toInt32))) ((nar .byte ((c0_ >>> ((8 : Int32) &&& 31)).toInt8.toInt32))) c0_ h0 n0 O0 A0_ ZS1_ ZS2_ ZS3_ (by decide) (by decide) (by decide) (by decide) rfl rfl (own_get16 hc0_)) e0 c1 hml pd_pABIrC [(rr s_), (ii 0)] [] 0 (hb hby d25_12) rfl rfl rfl rfl rfl rfl
 obtain ⟨rfl, N3q, K4⟩ := hQ2
 have N3 := Fr.app N0 N3q
 have c5 : Kt p e below T2 st0 (mkF m 16 #[vr s_, vi ch_, vi 0, vi 1, vi 0] [(.int ch_), (.int c0_)]) := fun t k => by
  refine c2 t ?_
  show S_ p e below T2 m 15 #[vr s_, vi ch_, vi 0, vi 1, vi 0] [(.int c0_)] t
  refine XS.iloadN X2.here hx rfl (hb hby d25_15) rfl ?_
  exact k
 by_cases hc6 : c0_ = ch_
 ·obtain ⟨fs, hr, hrun, hended, hW, hsame⟩ := X2.leave (v := some (ii 0)) (fun h => by rw [Bd.returns] at h; cases h)
  refine ⟨_, _, c5 _ ?_, hrun, hended, _, _, rfl, ?_, ⟨_, rfl⟩, hW, hsame.mono (by decide) (by decide)⟩
  ·show S_ p e below T2 m 16 #[vr s_, vi ch_, vi 0, vi 1, vi 0] [(.int ch_), (.int c0_)] _
   refine XS.icmpNo X2.here hx rfl (hb hby d25_16) rfl (teq hc6).2 ?_
   refine XS.iload X2.here hx rfl (hb hby d25_19) rfl ?_
   show S_ p e below T2 m 21 #[vr s_, vi ch_, vi 0, vi 1, vi 0] [(ii 0)] _
   exact retOut X2 hx Bd.returns rfl (Or.inl ⟨rfl, Or.inl rfl, _, rfl⟩) (hb hby d25_21) hr
  ·show Q_uxu_1 Z s_ ks_ ch_ c0_ h0 n0 _ T2.heap _
   rw [K4]
   exact (Or.inl ⟨(0 : Int32), rfl, N3, rfl, (by decide), (hc6)⟩)
 ·obtain ⟨fs, hr, hrun, hended, hW, hsame⟩ := X2.leave (v := some (ii (-1))) (fun h => by rw [Bd.returns] at h; cases h)
  refine ⟨_, _, c5 _ ?_, hrun, hended, _, _, rfl, ?_, ⟨_, rfl⟩, hW, hsame.mono (by decide) (by decide)⟩
  ·show S_ p e below T2 m 16 #[vr s_, vi ch_, vi 0, vi 1, vi 0] [(.int ch_), (.int c0_)] _
   refine yC X2.here hx rfl 16 22 rfl (hb hby d25_16) rfl (feq hc6).2 ?_
   refine XS.iinc X2.here hx rfl (hb hby d25_22) rfl (l' := #[vr s_, vi ch_, vi 0, vi 1, vi 1]) rfl ?_
   refine yG X2.here hx rfl 25 3 rfl (hb hby d25_25) ?_
   refine XS.iload X2.here hx rfl (hb hby d25_3) rfl ?_
   refine XS.iloadN X2.here hx rfl (hb hby d25_5) rfl ?_
   refine yC X2.here hx rfl 6 28 rfl (hb hby d25_6) rfl rfl ?_
   refine XS.iconst X2.here hx rfl (hb hby d25_28) ?_
   show S_ p e below T2 m 29 #[vr s_, vi ch_, vi 0, vi 1, vi 1] [(ii (-1))] _
   exact retOut X2 hx Bd.returns rfl (Or.inl ⟨rfl, Or.inl rfl, _, rfl⟩) (hb hby d25_29) hr
  ·show Q_uxu_1 Z s_ ks_ ch_ c0_ h0 n0 _ T2.heap _
   rw [K4]
   exact (Or.inr (⟨rfl, N3, rfl, hc6⟩))
theorem d26_0 : decode jdk_52_method_47_code 0 = .ok (.iload_n 2, 1) := by decide +kernel
theorem d26_1 : decode jdk_52_method_47_code 1 = .ok (.iload_n 3, 1) := by decide +kernel
theorem d26_2 : decode jdk_52_method_47_code 2 = .ok (.aload_n 0, 1) := by decide +kernel
theorem d26_3 : decode jdk_52_method_47_code 3 = .ok (.invokestatic 96, 3) := by decide +kernel
theorem pd_pIIABrV : parseMethodDescriptor "(II[B)V" = some ⟨[.int, .int, (.array .byte)], none⟩ := by decide +kernel
theorem d26_6 : decode jdk_52_method_47_code 6 = .ok (.aload_n 0, 1) := by decide +kernel
theorem d26_7 : decode jdk_52_method_47_code 7 = .ok (.iload_n 1, 1) := by decide +kernel
theorem d26_8 : decode jdk_52_method_47_code 8 = .ok (.iload_n 2, 1) := by decide +kernel
theorem d26_9 : decode jdk_52_method_47_code 9 = .ok (.iload_n 3, 1) := by decide +kernel
theorem d26_10 : decode jdk_52_method_47_code 10 = .ok (.invokestatic 244, 3) := by decide +kernel
theorem d26_13 : decode jdk_52_method_47_code 13 = .ok (.ireturn, 1) := by decide +kernel
theorem ef_ux_1 (m : MethodId) (s_ : Addr) (ch_ : Int32) : entryFrame m #[(rr s_), (.int ch_), (ii 0), (ii 1)] 4 = mkF m 0 #[vr s_, vi ch_, vi 0, vi 1] [] := by first | (simp [entryFrame, mkF, argsToLocals, Value.category]; done) | rfl
def Q_ux_1 (Z : State) (s_ : Addr) (ks_ : ClassId) (ch_ : Int32) (c0_ : Int32) (fm_ : Value) (h0 : Heap) (n0 : Nat) (v : Option Value) (h : Heap) (L : List Loc) : Prop := (∃ (r_ : Int32), v = some (.int r_) ∧ Fr n0 L ∧ h = h0 ∧ ¬ (r_ < (0 : Int32)) ∧ c0_ = ch_) ∨ (v = some (ii (-1)) ∧ Fr n0 L ∧ h = h0 ∧ ¬ (c0_ = ch_))
set_option maxRecDepth 65536 in
set_option maxHeartbeats 40000000 in
theorem rm_ux_1 (l : Launch) (Z : State) (a0 : Array Value) (hw : HW Z a0) (ws : List Jvm.Cond) (s_ : Addr) (ks_ : ClassId) (ch_ : Int32) (c0_ : Int32) (fm_ : Value) (h0 : Heap) (n0 : Nat) (O0 : Old Z n0 h0) (A0_ : Arv Z h0 s_ ks_ .byte (2 : Int32) [(.int (nar .byte ((c0_ >>> ((0 : Int32) &&& 31)).toInt8.toInt32))), (.int (nar .byte ((c0_ >>> ((8 : Int32) &&& 31)).toInt8.toInt32)))] (ii 0)) (ZS1_ : Sta Z Z.heap nm1 "$assertionsDisabled" "Z" (ii 1)) (ZS2_ : Sta Z Z.heap nm1 "HI_BYTE_SHIFT" "I" (ii 0)) (ZS3_ : Sta Z Z.heap nm1 "LO_BYTE_SHIFT" "I" (ii 8)) (hc0_ : nar .char c0_ = c0_) (ZS5_ : Sta Z Z.heap nm4 "SIOOBE_FORMATTER" nm6 fm_) (hfm_ : fm_.isRef = true) :
  MFP l Z (⟨nm1, "indexOfChar", "([BIII)I"⟩ : MethodName) jdk_52_method_47_code 4 (some .int) ({ frames := 3, cells := 0, slots := 0, locals := 43 } : Room) ws #[(rr s_), (.int ch_), (ii 0), (ii 1)] h0 (Q_ux_1 Z s_ ks_ ch_ c0_ fm_ h0 n0) := by
 refine MetFree.of_bodySF (plainFor_of_name pn_java_lang_StringUTF16) hisR ?_
 intro p e s m args below meth c s₁ Bd hml0 hP hK
 obtain ⟨rfl, hZ, hh⟩ := hP
 have hx := Bd.exec
 have hby := Bd.bytes
 have hml : c.maxLocals = 4 := hml0
 have hown : s.vm.findClass nm1 = some m.cls := findClass_of_methodNamed Bd.named
 have hnm := (name_of_methodNamed Bd.named Bd.method).1
 have X0 : Stand p l e ({ frames := 3, cells := 0, slots := 0, locals := 43 } : Room) s m #[(rr s_), (.int ch_), (ii 0), (ii 1)] below meth c s₁ [] 0 0 := Stand.of_body Bd
 have e0 : s₁.heap = h0 := by rw [← hh, Bd.state]; rfl
 have N0 := Fr.nil n0
 have kp0 : Keep h0 h0 [] := Keep.refl _ _
 have c0 : ∀ t, S_ p e below s₁ m 0 #[vr s_, vi ch_, vi 0, vi 1] [] t → Steps p.tables e below (s₁.setTop (entryFrame m #[(rr s_), (.int ch_), (ii 0), (ii 1)] 4)) t := fun t k => castTop (ef_ux_1 m s_ ch_) k
 generalize s₁.setTop (entryFrame m #[(rr s_), (.int ch_), (ii 0), (ii 1)] 4) = st0 at c0 ⊢
 replace c0 : Kt p e below s₁ st0 (mkF m 0 #[vr s_, vi ch_, vi 0, vi 1] []) := c0
 have c1 : Kt p e below s₁ st0 (mkF m 3 #[vr s_, vi ch_, vi 0, vi 1] [(rr s_), (ii 1), (ii 0)]) := fun t k => by
  refine c0 t ?_
  show S_ p e below s₁ m 0 #[vr s_, vi ch_, vi 0, vi 1] [] t
  refine XS.iloadN X0.here hx rfl (hb hby d26_0) rfl ?_
  refine XS.iloadN X0.here hx rfl (hb hby d26_1) rfl ?_
  refine XS.aloadN X0.here hx rfl (hb hby d26_2) rfl rfl ?_
  exact k
 obtain ⟨_, T2, L2, X2, hQ2, c2⟩ := kstat X0 hx hZ hown (w173 hw) (w174 hw) (w127 hw) (w175 hw) (rm_ucbe_1 l Z a0 hw [] s_ ks_ [(.int (nar .byte ((c0_ >>> ((0 : Int32) &&& 31)).toInt8.toInt32))), (.int (nar .byte ((c0_ >>> ((8 : Int32) &&& 31)).toInt8.toInt32)))] fm_ h0 n0 O0 A0_ ZS5_ hfm_) e0 c1 hml pd_pIIABrV [(ii 0), (ii 1), (rr s_)] [] 0 (hb hby d26_3) rfl rfl rfl rfl rfl rfl
 obtain ⟨rfl, N3q, K4⟩ := hQ2
 have N3 := Fr.app N0 N3q
 have c5 : Kt p e below T2 st0 (mkF m 10 #[vr s_, vi ch_, vi 0, vi 1] [(ii 1), (ii 0), (.int ch_), (rr s_)]) := fun t k => by
  refine c2 t ?_
  show S_ p e below T2 m 6 #[vr s_, vi ch_, vi 0, vi 1] [] t
  refine XS.aloadN X2.here hx rfl (hb hby d26_6) rfl rfl ?_
  refine XS.iloadN X2.here hx rfl (hb hby d26_7) rfl ?_
  refine XS.iloadN X2.here hx rfl (hb hby d26_8) rfl ?_
  refine XS.iloadN X2.here hx rfl (hb hby d26_9) rfl ?_
  exact k
 obtain ⟨_, T6, L6, X6, hQ6, c6⟩ := kstat X2 hx hZ hown (w187 hw) (w188 hw) (w127 hw) (w189 hw) (rm_uxu_1 l Z a0 hw [] s_ ks_ ch_ c0_ h0 n0 O0 A0_ ZS1_ ZS2_ ZS3_ hc0_) K4 c5 hml pd_pABIIIrI [(rr s_), (.int ch_), (ii 0), (ii 1)] [] 0 (hb hby d26_10) rfl rfl rfl rfl rfl rfl
 rcases hQ6 with hQ6 | hQ6
 ·obtain ⟨i7, rfl, N8q, K9, p10, p11⟩ := hQ6
  have N8 := Fr.app N3 N8q
  obtain ⟨fs, hr, hrun, hended, hW, hsame⟩ := X6.leave (v := some (.int i7)) (fun h => by rw [Bd.returns] at h; cases h)
  refine ⟨_, _, c6 _ ?_, hrun, hended, _, _, rfl, ?_, ⟨_, rfl⟩, hW, hsame.mono (by decide) (by decide)⟩
  ·show S_ p e below T6 m 13 #[vr s_, vi ch_, vi 0, vi 1] [(.int i7)] _
   exact retOut X6 hx Bd.returns rfl (Or.inl ⟨rfl, Or.inl rfl, _, rfl⟩) (hb hby d26_13) hr
  ·show Q_ux_1 Z s_ ks_ ch_ c0_ fm_ h0 n0 _ T6.heap _
   rw [K9]
   exact (Or.inl ⟨i7, rfl, N8, rfl, p10, p11⟩)
 ·obtain ⟨rfl, N12q, K13, p14⟩ := hQ6
  have N12 := Fr.app N3 N12q
  obtain ⟨fs, hr, hrun, hended, hW, hsame⟩ := X6.leave (v := some (ii (-1))) (fun h => by rw [Bd.returns] at h; cases h)
  refine ⟨_, _, c6 _ ?_, hrun, hended, _, _, rfl, ?_, ⟨_, rfl⟩, hW, hsame.mono (by decide) (by decide)⟩
  ·show S_ p e below T6 m 13 #[vr s_, vi ch_, vi 0, vi 1] [(ii (-1))] _
   exact retOut X6 hx Bd.returns rfl (Or.inl ⟨rfl, Or.inl rfl, _, rfl⟩) (hb hby d26_13) hr
  ·show Q_ux_1 Z s_ ks_ ch_ c0_ fm_ h0 n0 _ T6.heap _
   rw [K13]
   exact (Or.inr (⟨rfl, N12, rfl, p14⟩))
theorem d27_0 : decode jdk_52_method_40_code 0 = .ok (.iload_n 2, 1) := by decide +kernel
theorem d27_1 : decode jdk_52_method_40_code 1 = .ok (.iconst 0, 1) := by decide +kernel
theorem d27_2 : decode jdk_52_method_40_code 2 = .ok (.invokestatic 224, 3) := by decide +kernel
theorem d27_5 : decode jdk_52_method_40_code 5 = .ok (.istore_n 2, 1) := by decide +kernel
theorem d27_6 : decode jdk_52_method_40_code 6 = .ok (.iload_n 3, 1) := by decide +kernel
theorem d27_7 : decode jdk_52_method_40_code 7 = .ok (.aload_n 0, 1) := by decide +kernel
theorem d27_8 : decode jdk_52_method_40_code 8 = .ok (.arraylength, 1) := by decide +kernel
theorem d27_9 : decode jdk_52_method_40_code 9 = .ok (.iconst 1, 1) := by decide +kernel
theorem d27_10 : decode jdk_52_method_40_code 10 = .ok (.ishr, 1) := by decide +kernel
theorem d27_11 : decode jdk_52_method_40_code 11 = .ok (.invokestatic 183, 3) := by decide +kernel
theorem d27_14 : decode jdk_52_method_40_code 14 = .ok (.istore_n 3, 1) := by decide +kernel
theorem d27_15 : decode jdk_52_method_40_code 15 = .ok (.iload_n 2, 1) := by decide +kernel
theorem d27_16 : decode jdk_52_method_40_code 16 = .ok (.iload_n 3, 1) := by decide +kernel
theorem d27_17 : decode jdk_52_method_40_code 17 = .ok (.if_icmp .lt 5, 3) := by decide +kernel
theorem d27_22 : decode jdk_52_method_40_code 22 = .ok (.iload_n 1, 1) := by decide +kernel
theorem d27_23 : decode jdk_52_method_40_code 23 = .ok (.ldc 227, 2) := by decide +kernel
theorem d27_25 : decode jdk_52_method_40_code 25 = .ok (.if_icmp .ge 11, 3) := by decide +kernel
theorem d27_28 : decode jdk_52_method_40_code 28 = .ok (.aload_n 0, 1) := by decide +kernel
theorem d27_29 : decode jdk_52_method_40_code 29 = .ok (.iload_n 1, 1) := by decide +kernel
theorem d27_30 : decode jdk_52_method_40_code 30 = .ok (.iload_n 2, 1) := by decide +kernel
theorem d27_31 : decode jdk_52_method_40_code 31 = .ok (.iload_n 3, 1) := by decide +kernel
theorem d27_32 : decode jdk_52_method_40_code 32 = .ok (.invokestatic 228, 3) := by decide +kernel
theorem d27_35 : decode jdk_52_method_40_code 35 = .ok (.ireturn, 1) := by decide +kernel
theorem ef_ui_1 (m : MethodId) (s_ : Addr) (ch_ : Int32) : entryFrame m #[(rr s_), (.int ch_), (ii 0), (ii 1)] 4 = mkF m 0 #[vr s_, vi ch_, vi 0, vi 1] [] := by first | (simp [entryFrame, mkF, argsToLocals, Value.category]; done) | rfl
def Q_ui_1 (Z : State) (s_ : Addr) (ks_ : ClassId) (ch_ : Int32) (c0_ : Int32) (fm_ : Value) (h0 : Heap) (n0 : Nat) (v : Option Value) (h : Heap) (L : List Loc) : Prop := (∃ (r_ : Int32), v = some (.int r_) ∧ Fr n0 L ∧ h = h0 ∧ ¬ (r_ < (0 : Int32)) ∧ c0_ = ch_) ∨ (v = some (ii (-1)) ∧ Fr n0 L ∧ h = h0 ∧ ¬ (c0_ = ch_))
set_option maxRecDepth 65536 in
set_option maxHeartbeats 40000000 in
theorem rm_ui_1 (l : Launch) (Z : State) (a0 : Array Value) (hw : HW Z a0) (ws : List Jvm.Cond) (s_ : Addr) (ks_ : ClassId) (ch_ : Int32) (c0_ : Int32) (fm_ : Value) (h0 : Heap) (n0 : Nat) (O0 : Old Z n0 h0) (A0_ : Arv Z h0 s_ ks_ .byte (2 : Int32) [(.int (nar .byte ((c0_ >>> ((0 : Int32) &&& 31)).toInt8.toInt32))), (.int (nar .byte ((c0_ >>> ((8 : Int32) &&& 31)).toInt8.toInt32)))] (ii 0)) (ZS1_ : Sta Z Z.heap nm1 "$assertionsDisabled" "Z" (ii 1)) (ZS2_ : Sta Z Z.heap nm1 "HI_BYTE_SHIFT" "I" (ii 0)) (ZS3_ : Sta Z Z.heap nm1 "LO_BYTE_SHIFT" "I" (ii 8)) (hc0_ : nar .char c0_ = c0_) (ZS5_ : Sta Z Z.heap nm4 "SIOOBE_FORMATTER" nm6 fm_) (hfm_ : fm_.isRef = true) (h3_ : ch_ < (65536 : Int32)) :
  MFP l Z (⟨nm1, "indexOf", "([BIII)I"⟩ : MethodName) jdk_52_method_40_code 4 (some .int) ({ frames := 4, cells := 0, slots := 0, locals := 58 } : Room) ws #[(rr s_), (.int ch_), (ii 0), (ii 1)] h0 (Q_ui_1 Z s_ ks_ ch_ c0_ fm_ h0 n0) := by
 refine MetFree.of_bodySF (plainFor_of_name pn_java_lang_StringUTF16) hisR ?_
 intro p e s m args below meth c s₁ Bd hml0 hP hK
 obtain ⟨rfl, hZ, hh⟩ := hP
 have hx := Bd.exec
 have hby := Bd.bytes
 have hml : c.maxLocals = 4 := hml0
 have hown : s.vm.findClass nm1 = some m.cls := findClass_of_methodNamed Bd.named
 have hnm := (name_of_methodNamed Bd.named Bd.method).1
 have X0 : Stand p l e ({ frames := 4, cells := 0, slots := 0, locals := 58 } : Room) s m #[(rr s_), (.int ch_), (ii 0), (ii 1)] below meth c s₁ [] 0 0 := Stand.of_body Bd
 have e0 : s₁.heap = h0 := by rw [← hh, Bd.state]; rfl
 have N0 := Fr.nil n0
 have kp0 : Keep h0 h0 [] := Keep.refl _ _
 have c0 : ∀ t, S_ p e below s₁ m 0 #[vr s_, vi ch_, vi 0, vi 1] [] t → Steps p.tables e below (s₁.setTop (entryFrame m #[(rr s_), (.int ch_), (ii 0), (ii 1)] 4)) t := fun t k => castTop (ef_ui_1 m s_ ch_) k
 generalize s₁.setTop (entryFrame m #[(rr s_), (.int ch_), (ii 0), (ii 1)] 4) = st0 at c0 ⊢
 replace c0 : Kt p e below s₁ st0 (mkF m 0 #[vr s_, vi ch_, vi 0, vi 1] []) := c0
 have c1 : Kt p e below s₁ st0 (mkF m 2 #[vr s_, vi ch_, vi 0, vi 1] [(ii 0), (ii 0)]) := fun t k => by
  refine c0 t ?_
  show S_ p e below s₁ m 0 #[vr s_, vi ch_, vi 0, vi 1] [] t
  refine XS.iloadN X0.here hx rfl (hb hby d27_0) rfl ?_
  refine XS.iconst X0.here hx rfl (hb hby d27_1) ?_
  exact k
 obtain ⟨_, T2, L2, X2, hQ2, c2⟩ := kstat X0 hx hZ hown (w167 hw) (w65 hw) (w66 hw) (w67 hw) (rm_mx0 l Z a0 hw []  h0 n0 O0 ) e0 c1 hml pd_pIIrI [(ii 0), (ii 0)] [] 0 (hb hby d27_2) rfl rfl rfl rfl rfl rfl
 obtain ⟨rfl, N3q, K4⟩ := hQ2
 have N3 := Fr.app N0 N3q
 have c5 : Kt p e below T2 st0 (mkF m 11 #[vr s_, vi ch_, vi 0, vi 1] [(ii 1), (ii 1)]) := fun t k => by
  refine c2 t ?_
  show S_ p e below T2 m 5 #[vr s_, vi ch_, vi 0, vi 1] [(ii 0)] t
  refine XS.istoreN X2.here hx rfl (hb hby d27_5) rfl (l' := #[vr s_, vi ch_, vi 0, vi 1]) rfl ?_
  refine XS.iloadN X2.here hx rfl (hb hby d27_6) rfl ?_
  refine XS.aloadN X2.here hx rfl (hb hby d27_7) rfl rfl ?_
  refine ldLen X2 hx hZ K4 A0_ rfl rfl (hb hby d27_8) ?_
  refine XS.iconst X2.here hx rfl (hb hby d27_9) ?_
  refine XS.ishr X2.here hx rfl (hb hby d27_10) rfl ?_
  exact k
 obtain ⟨_, T6, L6, X6, hQ6, c6⟩ := kstat X2 hx hZ hown (w168 hw) (w69 hw) (w66 hw) (w70 hw) (rm_mn1 l Z a0 hw []  h0 n0 O0 ) K4 c5 hml pd_pIIrI [(ii 1), (ii 1)] [] 0 (hb hby d27_11) rfl rfl rfl rfl rfl rfl
 obtain ⟨rfl, N7q, K8⟩ := hQ6
 have N7 := Fr.app N3 N7q
 have c9 : Kt p e below T6 st0 (mkF m 32 #[vr s_, vi ch_, vi 0, vi 1] [(ii 1), (ii 0), (.int ch_), (rr s_)]) := fun t k => by
  refine c6 t ?_
  show S_ p e below T6 m 14 #[vr s_, vi ch_, vi 0, vi 1] [(ii 1)] t
  refine XS.istoreN X6.here hx rfl (hb hby d27_14) rfl (l' := #[vr s_, vi ch_, vi 0, vi 1]) rfl ?_
  refine XS.iloadN X6.here hx rfl (hb hby d27_15) rfl ?_
  refine XS.iloadN X6.here hx rfl (hb hby d27_16) rfl ?_
  refine yC X6.here hx rfl 17 22 rfl (hb hby d27_17) rfl rfl ?_
  refine XS.iloadN X6.here hx rfl (hb hby d27_22) rfl ?_
  show S_ p e below T6 m 23 #[vr s_, vi ch_, vi 0, vi 1] [(.int ch_)] t
  refine X6.ldcInt hx hown (mvT hZ (w169 hw)) (g := (mkF m 23 #[vr s_, vi ch_, vi 0, vi 1] [(.int ch_)])) rfl (hb hby d27_23) _ ?_
  refine XS.icmpNo X6.here hx rfl (hb hby d27_25) rfl (tlt h3_).2.1 ?_
  refine XS.aloadN X6.here hx rfl (hb hby d27_28) rfl rfl ?_
  refine XS.iloadN X6.here hx rfl (hb hby d27_29) rfl ?_
  refine XS.iloadN X6.here hx rfl (hb hby d27_30) rfl ?_
  refine XS.iloadN X6.here hx rfl (hb hby d27_31) rfl ?_
  exact k
 obtain ⟨_, T10, L10, X10, hQ10, c10⟩ := kstat X6 hx hZ hown (w170 hw) (w171 hw) (w127 hw) (w172 hw) (rm_ux_1 l Z a0 hw [] s_ ks_ ch_ c0_ fm_ h0 n0 O0 A0_ ZS1_ ZS2_ ZS3_ hc0_ ZS5_ hfm_) K8 c9 hml pd_pABIIIrI [(rr s_), (.int ch_), (ii 0), (ii 1)] [] 0 (hb hby d27_32) rfl rfl rfl rfl rfl rfl
 rcases hQ10 with hQ10 | hQ10
 ·obtain ⟨i11, rfl, N12q, K13, p14, p15⟩ := hQ10
  have N12 := Fr.app N7 N12q
  obtain ⟨fs, hr, hrun, hended, hW, hsame⟩ := X10.leave (v := some (.int i11)) (fun h => by rw [Bd.returns] at h; cases h)
  refine ⟨_, _, c10 _ ?_, hrun, hended, _, _, rfl, ?_, ⟨_, rfl⟩, hW, hsame.mono (by decide) (by decide)⟩
  ·show S_ p e below T10 m 35 #[vr s_, vi ch_, vi 0, vi 1] [(.int i11)] _
   exact retOut X10 hx Bd.returns rfl (Or.inl ⟨rfl, Or.inl rfl, _, rfl⟩) (hb hby d27_35) hr
  ·show Q_ui_1 Z s_ ks_ ch_ c0_ fm_ h0 n0 _ T10.heap _
   rw [K13]
   exact (Or.inl ⟨i11, rfl, N12, rfl, p14, p15⟩)
 ·obtain ⟨rfl, N16q, K17, p18⟩ := hQ10
  have N16 := Fr.app N7 N16q
  obtain ⟨fs, hr, hrun, hended, hW, hsame⟩ := X10.leave (v := some (ii (-1))) (fun h => by rw [Bd.returns] at h; cases h)
  refine ⟨_, _, c10 _ ?_, hrun, hended, _, _, rfl, ?_, ⟨_, rfl⟩, hW, hsame.mono (by decide) (by decide)⟩
  ·show S_ p e below T10 m 35 #[vr s_, vi ch_, vi 0, vi 1] [(ii (-1))] _
   exact retOut X10 hx Bd.returns rfl (Or.inl ⟨rfl, Or.inl rfl, _, rfl⟩) (hb hby d27_35) hr
  ·show Q_ui_1 Z s_ ks_ ch_ c0_ fm_ h0 n0 _ T10.heap _
   rw [K17]
   exact (Or.inr (⟨rfl, N16, rfl, p18⟩))
theorem ef_lenU_1 (m : MethodId) (x_ : Addr) : entryFrame m #[(rr x_)] 1 = mkF m 0 #[vr x_] [] := by first | (simp [entryFrame, mkF, argsToLocals, Value.category]; done) | rfl
def Q_lenU_1 (Z : State) (x_ : Addr) (s_ : Addr) (ks_ : ClassId) (vs_ : List Value) (z_ : Int32) (h0 : Heap) (n0 : Nat) (v : Option Value) (h : Heap) (L : List Loc) : Prop := v = some (ii 1) ∧ Fr n0 L ∧ h = h0
set_option maxRecDepth 65536 in
set_option maxHeartbeats 40000000 in
theorem rm_lenU_1 (l : Launch) (Z : State) (a0 : Array Value) (hw : HW Z a0) (ws : List Jvm.Cond) (x_ : Addr) (s_ : Addr) (ks_ : ClassId) (vs_ : List Value) (z_ : Int32) (h0 : Heap) (n0 : Nat) (O0 : Old Z n0 h0) (E0_ : Exa Z h0 x_ nm0) (F1_ : Fld Z h0 x_ nm0 "coder" "B" (ii 1)) (F2_ : Fld Z h0 x_ nm0 "value" "[B" (rr s_)) (A3_ : Arv Z h0 s_ ks_ .byte (2 : Int32) vs_ (ii 0)) (ZS4_ : Sta Z Z.heap nm0 "COMPACT_STRINGS" "Z" (.int z_)) (hz_ : ¬ (z_ = (0 : Int32))) :
  MFP l Z (⟨nm0, "length", "()I"⟩ : MethodName) jdk_42_method_54_code 1 (some .int) ({ frames := 1, cells := 0, slots := 0, locals := 13 } : Room) ws #[(rr x_)] h0 (Q_lenU_1 Z x_ s_ ks_ vs_ z_ h0 n0) := by
 refine MetFree.of_bodySF (plainFor_of_name pn_java_lang_String) hisR ?_
 intro p e s m args below meth c s₁ Bd hml0 hP hK
 obtain ⟨rfl, hZ, hh⟩ := hP
 have hx := Bd.exec
 have hby := Bd.bytes
 have hml : c.maxLocals = 1 := hml0
 have hown : s.vm.findClass nm0 = some m.cls := findClass_of_methodNamed Bd.named
 have hnm := (name_of_methodNamed Bd.named Bd.method).1
 have X0 : Stand p l e ({ frames := 1, cells := 0, slots := 0, locals := 13 } : Room) s m #[(rr x_)] below meth c s₁ [] 0 0 := Stand.of_body Bd
 have e0 : s₁.heap = h0 := by rw [← hh, Bd.state]; rfl
 have N0 := Fr.nil n0
 have kp0 : Keep h0 h0 [] := Keep.refl _ _
 have c0 : ∀ t, S_ p e below s₁ m 0 #[vr x_] [] t → Steps p.tables e below (s₁.setTop (entryFrame m #[(rr x_)] 1)) t := fun t k => castTop (ef_lenU_1 m x_) k
 generalize s₁.setTop (entryFrame m #[(rr x_)] 1) = st0 at c0 ⊢
 replace c0 : Kt p e below s₁ st0 (mkF m 0 #[vr x_] []) := c0
 have c1 : Kt p e below s₁ st0 (mkF m 1 #[vr x_] [(rr x_)]) := fun t k => by
  refine c0 t ?_
  show S_ p e below s₁ m 0 #[vr x_] [] t
  refine XS.aloadN X0.here hx rfl (hb hby d17_0) rfl rfl ?_
  exact k
 obtain ⟨T2, X2, e2, c2⟩ := kget X0 hx hZ hown (host := "") (Or.inl (w24 hw)) Via.refl e0 F2_ c1 rfl rfl (hb hby d17_1)
 have c3 : Kt p e below T2 st0 (mkF m 6 #[vr x_] [(rr x_), (ii 2)]) := fun t k => by
  refine c2 t ?_
  show S_ p e below T2 m 4 #[vr x_] [(rr s_)] t
  refine ldLen X2 hx hZ e2 A3_ rfl rfl (hb hby d17_4) ?_
  refine XS.aloadN X2.here hx rfl (hb hby d17_5) rfl rfl ?_
  exact k
 obtain ⟨_, T4, L4, X4, hQ4, c4⟩ := kvirt X2 hx hZ hown (w52 hw) (w53 hw) (w55 hw) (w54 hw) (w56 hw) (w6 hw) (rm_codU l Z a0 hw [] x_ z_ h0 n0 O0 F1_ ZS4_ hz_) e2 E0_ c3 hml pd_prB [] [(ii 2)] 1 (hb hby d17_6) rfl rfl rfl rfl rfl rfl
 obtain ⟨rfl, N5q, K6⟩ := hQ4
 have N5 := Fr.app N0 N5q
 obtain ⟨fs, hr, hrun, hended, hW, hsame⟩ := X4.leave (v := some (ii 1)) (fun h => by rw [Bd.returns] at h; cases h)
 refine ⟨_, _, c4 _ ?_, hrun, hended, _, _, rfl, ?_, ⟨_, rfl⟩, hW, hsame.mono (by decide) (by decide)⟩
 ·show S_ p e below T4 m 9 #[vr x_] [(ii 1), (ii 2)] _
  refine XS.ishr X4.here hx rfl (hb hby d17_9) rfl ?_
  show S_ p e below T4 m 10 #[vr x_] [(ii 1)] _
  exact retOut X4 hx Bd.returns rfl (Or.inl ⟨rfl, Or.inl rfl, _, rfl⟩) (hb hby d17_10) hr
 ·show Q_lenU_1 Z x_ s_ ks_ vs_ z_ h0 n0 _ T4.heap _
  rw [K6]
  exact ⟨rfl, N5, rfl⟩
theorem d18_23 : decode jdk_42_method_80_code 23 = .ok (.aload_n 0, 1) := by decide +kernel
theorem d18_24 : decode jdk_42_method_80_code 24 = .ok (.getfield 9, 3) := by decide +kernel
theorem d18_27 : decode jdk_42_method_80_code 27 = .ok (.iload_n 1, 1) := by decide +kernel
theorem d18_28 : decode jdk_42_method_80_code 28 = .ok (.iload_n 2, 1) := by decide +kernel
theorem d18_29 : decode jdk_42_method_80_code 29 = .ok (.aload_n 0, 1) := by decide +kernel
theorem d18_30 : decode jdk_42_method_80_code 30 = .ok (.invokevirtual 505, 3) := by decide +kernel
theorem d18_33 : decode jdk_42_method_80_code 33 = .ok (.invokestatic 640, 3) := by decide +kernel
theorem ef_six2U_1 (m : MethodId) (x_ : Addr) (ch_ : Int32) : entryFrame m #[(rr x_), (.int ch_), (ii 0)] 3 = mkF m 0 #[vr x_, vi ch_, vi 0] [] := by first | (simp [entryFrame, mkF, argsToLocals, Value.category]; done) | rfl
def Q_six2U_1 (Z : State) (x_ : Addr) (z_ : Int32) (s_ : Addr) (ks_ : ClassId) (ch_ : Int32) (c0_ : Int32) (fm_ : Value) (h0 : Heap) (n0 : Nat) (v : Option Value) (h : Heap) (L : List Loc) : Prop := (∃ (r_ : Int32), v = some (.int r_) ∧ Fr n0 L ∧ h = h0 ∧ ¬ (r_ < (0 : Int32)) ∧ c0_ = ch_) ∨ (v = some (ii (-1)) ∧ Fr n0 L ∧ h = h0 ∧ ¬ (c0_ = ch_))
set_option maxRecDepth 65536 in
set_option maxHeartbeats 40000000 in
theorem rm_six2U_1 (l : Launch) (Z : State) (a0 : Array Value) (hw : HW Z a0) (ws : List Jvm.Cond) (x_ : Addr) (z_ : Int32) (s_ : Addr) (ks_ : ClassId) (ch_ : Int32) (c0_ : Int32) (fm_ : Value) (h0 : Heap) (n0 : Nat) (O0 : Old Z n0 h0) (E0_ : Exa Z h0 x_ nm0) (F1_ : Fld Z h0 x_ nm0 "coder" "B" (ii 1)) (F2_ : Fld Z h0 x_ nm0 "value" "[B" (rr s_)) (A3_ : Arv Z h0 s_ ks_ .byte (2 : Int32) [(.int (nar .byte ((c0_ >>> ((0 : Int32) &&& 31)).toInt8.toInt32))), (.int (nar .byte ((c0_ >>> ((8 : Int32) &&& 31)).toInt8.toInt32)))] (ii 0)) (ZS4_ : Sta Z Z.heap nm0 "COMPACT_STRINGS" "Z" (.int z_)) (hz_ : ¬ (z_ = (0 : Int32))) (ZS6_ : Sta Z Z.heap nm1 "$assertionsDisabled" "Z" (ii 1)) (ZS7_ : Sta Z Z.heap nm1 "HI_BYTE_SHIFT" "I" (ii 0)) (ZS8_ : Sta Z Z.heap nm1 "LO_BYTE_SHIFT" "I" (ii 8)) (hc0_ : nar .char c0_ = c0_) (ZS10_ : Sta Z Z.heap nm4 "SIOOBE_FORMATTER" nm6 fm_) (hfm_ : fm_.isRef = true) (h3_ : ch_ < (65536 : Int32)) :
  MFP l Z (⟨nm0, "indexOf", "(II)I"⟩ : MethodName) jdk_42_method_80_code 3 (some .int) ({ frames := 5, cells := 0, slots := 0, locals := 73 } : Room) ws #[(rr x_), (.int ch_), (ii 0)] h0 (Q_six2U_1 Z x_ z_ s_ ks_ ch_ c0_ fm_ h0 n0) := by
 refine MetFree.of_bodySF (plainFor_of_name pn_java_lang_String) hisR ?_
 intro p e s m args below meth c s₁ Bd hml0 hP hK
 obtain ⟨rfl, hZ, hh⟩ := hP
 have hx := Bd.exec
 have hby := Bd.bytes
 have hml : c.maxLocals = 3 := hml0
 have hown : s.vm.findClass nm0 = some m.cls := findClass_of_methodNamed Bd.named
 have hnm := (name_of_methodNamed Bd.named Bd.method).1
 have X0 : Stand p l e ({ frames := 5, cells := 0, slots := 0, locals := 73 } : Room) s m #[(rr x_), (.int ch_), (ii 0)] below meth c s₁ [] 0 0 := Stand.of_body Bd
 have e0 : s₁.heap = h0 := by rw [← hh, Bd.state]; rfl
 have N0 := Fr.nil n0
 have kp0 : Keep h0 h0 [] := Keep.refl _ _
 have c0 : ∀ t, S_ p e below s₁ m 0 #[vr x_, vi ch_, vi 0] [] t → Steps p.tables e below (s₁.setTop (entryFrame m #[(rr x_), (.int ch_), (ii 0)] 3)) t := fun t k => castTop (ef_six2U_1 m x_ ch_) k
 generalize s₁.setTop (entryFrame m #[(rr x_), (.int ch_), (ii 0)] 3) = st0 at c0 ⊢
 replace c0 : Kt p e below s₁ st0 (mkF m 0 #[vr x_, vi ch_, vi 0] []) := c0
 have c1 : Kt p e below s₁ st0 (mkF m 1 #[vr x_, vi ch_, vi 0] [(rr x_)]) := fun t k => by
  refine c0 t ?_
  show S_ p e below s₁ m 0 #[vr x_, vi ch_, vi 0] [] t
  refine XS.aloadN X0.here hx rfl (hb hby d18_0) rfl rfl ?_
  exact k
 obtain ⟨_, T2, L2, X2, hQ2, c2⟩ := kvirt X0 hx hZ hown (w41 hw) (w42 hw) (w44 hw) (w43 hw) (w45 hw) (w6 hw) (rm_islU l Z a0 hw [] x_ z_ h0 n0 O0 F1_ ZS4_ hz_) e0 E0_ c1 hml pd_prZ [] [] 0 (hb hby d18_1) rfl rfl rfl rfl rfl rfl
 obtain ⟨rfl, N3q, K4⟩ := hQ2
 have N3 := Fr.app N0 N3q
 have c5 : Kt p e below T2 st0 (mkF m 24 #[vr x_, vi ch_, vi 0] [(rr x_)]) := fun t k => by
  refine c2 t ?_
  show S_ p e below T2 m 4 #[vr x_, vi ch_, vi 0] [(ii 0)] t
  refine yI X2.here hx rfl 4 23 rfl (hb hby d18_4) rfl rfl ?_
  refine XS.aloadN X2.here hx rfl (hb hby d18_23) rfl rfl ?_
  exact k
 obtain ⟨T6, X6, e6, c6⟩ := kget X2 hx hZ hown (host := "") (Or.inl (w24 hw)) Via.refl K4 F2_ c5 rfl rfl (hb hby d18_24)
 have c7 : Kt p e below T6 st0 (mkF m 30 #[vr x_, vi ch_, vi 0] [(rr x_), (ii 0), (.int ch_), (rr s_)]) := fun t k => by
  refine c6 t ?_
  show S_ p e below T6 m 27 #[vr x_, vi ch_, vi 0] [(rr s_)] t
  refine XS.iloadN X6.here hx rfl (hb hby d18_27) rfl ?_
  refine XS.iloadN X6.here hx rfl (hb hby d18_28) rfl ?_
  refine XS.aloadN X6.here hx rfl (hb hby d18_29) rfl rfl ?_
  exact k
 obtain ⟨_, T8, L8, X8, hQ8, c8⟩ := kvirt X6 hx hZ hown (w47 hw) (w48 hw) (w50 hw) (w49 hw) (w51 hw) (w6 hw) (rm_lenU_1 l Z a0 hw [] x_ s_ ks_ [(.int (nar .byte ((c0_ >>> ((0 : Int32) &&& 31)).toInt8.toInt32))), (.int (nar .byte ((c0_ >>> ((8 : Int32) &&& 31)).toInt8.toInt32)))] z_ h0 n0 O0 E0_ F1_ F2_ A3_ ZS4_ hz_) e6 E0_ c7 hml pd_prI [] [(ii 0), (.int ch_), (rr s_)] 3 (hb hby d18_30) rfl rfl rfl rfl rfl rfl
 obtain ⟨rfl, N9q, K10⟩ := hQ8
 have N9 := Fr.app N3 N9q
 obtain ⟨_, T11, L11, X11, hQ11, c11⟩ := kstat X8 hx hZ hown (w164 hw) (w165 hw) (w127 hw) (w166 hw) (rm_ui_1 l Z a0 hw [] s_ ks_ ch_ c0_ fm_ h0 n0 O0 A3_ ZS6_ ZS7_ ZS8_ hc0_ ZS10_ hfm_ h3_) K10 c8 hml pd_pABIIIrI [(rr s_), (.int ch_), (ii 0), (ii 1)] [] 0 (hb hby d18_33) rfl rfl rfl rfl rfl rfl
 rcases hQ11 with hQ11 | hQ11
 ·obtain ⟨i12, rfl, N13q, K14, p15, p16⟩ := hQ11
  have N13 := Fr.app N9 N13q
  obtain ⟨fs, hr, hrun, hended, hW, hsame⟩ := X11.leave (v := some (.int i12)) (fun h => by rw [Bd.returns] at h; cases h)
  refine ⟨_, _, c11 _ ?_, hrun, hended, _, _, rfl, ?_, ⟨_, rfl⟩, hW, hsame.mono (by decide) (by decide)⟩
  ·show S_ p e below T11 m 36 #[vr x_, vi ch_, vi 0] [(.int i12)] _
   exact retOut X11 hx Bd.returns rfl (Or.inl ⟨rfl, Or.inl rfl, _, rfl⟩) (hb hby d18_36) hr
  ·show Q_six2U_1 Z x_ z_ s_ ks_ ch_ c0_ fm_ h0 n0 _ T11.heap _
   rw [K14]
   exact (Or.inl ⟨i12, rfl, N13, rfl, p15, p16⟩)
 ·obtain ⟨rfl, N17q, K18, p19⟩ := hQ11
  have N17 := Fr.app N9 N17q
  obtain ⟨fs, hr, hrun, hended, hW, hsame⟩ := X11.leave (v := some (ii (-1))) (fun h => by rw [Bd.returns] at h; cases h)
  refine ⟨_, _, c11 _ ?_, hrun, hended, _, _, rfl, ?_, ⟨_, rfl⟩, hW, hsame.mono (by decide) (by decide)⟩
  ·show S_ p e below T11 m 36 #[vr x_, vi ch_, vi 0] [(ii (-1))] _
   exact retOut X11 hx Bd.returns rfl (Or.inl ⟨rfl, Or.inl rfl, _, rfl⟩) (hb hby d18_36) hr
  ·show Q_six2U_1 Z x_ z_ s_ ks_ ch_ c0_ fm_ h0 n0 _ T11.heap _
   rw [K18]
   exact (Or.inr (⟨rfl, N17, rfl, p19⟩))
theorem ef_six1U_1 (m : MethodId) (x_ : Addr) (ch_ : Int32) : entryFrame m #[(rr x_), (.int ch_)] 2 = mkF m 0 #[vr x_, vi ch_] [] := by first | (simp [entryFrame, mkF, argsToLocals, Value.category]; done) | rfl
def Q_six1U_1 (Z : State) (x_ : Addr) (z_ : Int32) (s_ : Addr) (ks_ : ClassId) (ch_ : Int32) (c0_ : Int32) (fm_ : Value) (h0 : Heap) (n0 : Nat) (v : Option Value) (h : Heap) (L : List Loc) : Prop := (∃ (r_ : Int32), v = some (.int r_) ∧ Fr n0 L ∧ h = h0 ∧ ¬ (r_ < (0 : Int32)) ∧ c0_ = ch_) ∨ (v = some (ii (-1)) ∧ Fr n0 L ∧ h = h0 ∧ ¬ (c0_ = ch_))
set_option maxRecDepth 65536 in
set_option maxHeartbeats 40000000 in
theorem rm_six1U_1 (l : Launch) (Z : State) (a0 : Array Value) (hw : HW Z a0) (ws : List Jvm.Cond) (x_ : Addr) (z_ : Int32) (s_ : Addr) (ks_ : ClassId) (ch_ : Int32) (c0_ : Int32) (fm_ : Value) (h0 : Heap) (n0 : Nat) (O0 : Old Z n0 h0) (E0_ : Exa Z h0 x_ nm0) (F1_ : Fld Z h0 x_ nm0 "coder" "B" (ii 1)) (F2_ : Fld Z h0 x_ nm0 "value" "[B" (rr s_)) (A3_ : Arv Z h0 s_ ks_ .byte (2 : Int32) [(.int (nar .byte ((c0_ >>> ((0 : Int32) &&& 31)).toInt8.toInt32))), (.int (nar .byte ((c0_ >>> ((8 : Int32) &&& 31)).toInt8.toInt32)))] (ii 0)) (ZS4_ : Sta Z Z.heap nm0 "COMPACT_STRINGS" "Z" (.int z_)) (hz_ : ¬ (z_ = (0 : Int32))) (ZS6_ : Sta Z Z.heap nm1 "$assertionsDisabled" "Z" (ii 1)) (ZS7_ : Sta Z Z.heap nm1 "HI_BYTE_SHIFT" "I" (ii 0)) (ZS8_ : Sta Z Z.heap nm1 "LO_BYTE_SHIFT" "I" (ii 8)) (hc0_ : nar .char c0_ = c0_) (ZS10_ : Sta Z Z.heap nm4 "SIOOBE_FORMATTER" nm6 fm_) (hfm_ : fm_.isRef = true) (h3_ : ch_ < (65536 : Int32)) :
  MFP l Z (⟨nm0, "indexOf", "(I)I"⟩ : MethodName) jdk_42_method_79_code 2 (some .int) ({ frames := 6, cells := 0, slots := 0, locals := 87 } : Room) ws #[(rr x_), (.int ch_)] h0 (Q_six1U_1 Z x_ z_ s_ ks_ ch_ c0_ fm_ h0 n0) := by
 refine MetFree.of_bodySF (plainFor_of_name pn_java_lang_String) hisR ?_
 intro p e s m args below meth c s₁ Bd hml0 hP hK
 obtain ⟨rfl, hZ, hh⟩ := hP
 have hx := Bd.exec
 have hby := Bd.bytes
 have hml : c.maxLocals = 2 := hml0
 have hown : s.vm.findClass nm0 = some m.cls := findClass_of_methodNamed Bd.named
 have hnm := (name_of_methodNamed Bd.named Bd.method).1
 have X0 : Stand p l e ({ frames := 6, cells := 0, slots := 0, locals := 87 } : Room) s m #[(rr x_), (.int ch_)] below meth c s₁ [] 0 0 := Stand.of_body Bd
 have e0 : s₁.heap = h0 := by rw [← hh, Bd.state]; rfl
 have N0 := Fr.nil n0
 have kp0 : Keep h0 h0 [] := Keep.refl _ _
 have c0 : ∀ t, S_ p e below s₁ m 0 #[vr x_, vi ch_] [] t → Steps p.tables e below (s₁.setTop (entryFrame m #[(rr x_), (.int ch_)] 2)) t := fun t k => castTop (ef_six1U_1 m x_ ch_) k
 generalize s₁.setTop (entryFrame m #[(rr x_), (.int ch_)] 2) = st0 at c0 ⊢
 replace c0 : Kt p e below s₁ st0 (mkF m 0 #[vr x_, vi ch_] []) := c0
 have c1 : Kt p e below s₁ st0 (mkF m 3 #[vr x_, vi ch_] [(ii 0), (.int ch_), (rr x_)]) := fun t k => by
  refine c0 t ?_
  show S_ p e below s₁ m 0 #[vr x_, vi ch_] [] t
  refine XS.aloadN X0.here hx rfl (hb hby d19_0) rfl rfl ?_
  refine XS.iloadN X0.here hx rfl (hb hby d19_1) rfl ?_
  refine XS.iconst X0.here hx rfl (hb hby d19_2) ?_
  exact k
 obtain ⟨_, T2, L2, X2, hQ2, c2⟩ := kvirt X0 hx hZ hown (w36 hw) (w37 hw) (w39 hw) (w38 hw) (w40 hw) (w6 hw) (rm_six2U_1 l Z a0 hw [] x_ z_ s_ ks_ ch_ c0_ fm_ h0 n0 O0 E0_ F1_ F2_ A3_ ZS4_ hz_ ZS6_ ZS7_ ZS8_ hc0_ ZS10_ hfm_ h3_) e0 E0_ c1 hml pd_pIIrI [(.int ch_), (ii 0)] [] 0 (hb hby d19_3) rfl rfl rfl rfl rfl rfl
 rcases hQ2 with hQ2 | hQ2
 ·obtain ⟨i3, rfl, N4q, K5, p6, p7⟩ := hQ2
  have N4 := Fr.app N0 N4q
  obtain ⟨fs, hr, hrun, hended, hW, hsame⟩ := X2.leave (v := some (.int i3)) (fun h => by rw [Bd.returns] at h; cases h)
  refine ⟨_, _, c2 _ ?_, hrun, hended, _, _, rfl, ?_, ⟨_, rfl⟩, hW, hsame.mono (by decide) (by decide)⟩
  ·show S_ p e below T2 m 6 #[vr x_, vi ch_] [(.int i3)] _
   exact retOut X2 hx Bd.returns rfl (Or.inl ⟨rfl, Or.inl rfl, _, rfl⟩) (hb hby d19_6) hr
  ·show Q_six1U_1 Z x_ z_ s_ ks_ ch_ c0_ fm_ h0 n0 _ T2.heap _
   rw [K5]
   exact (Or.inl ⟨i3, rfl, N4, rfl, p6, p7⟩)
 ·obtain ⟨rfl, N8q, K9, p10⟩ := hQ2
  have N8 := Fr.app N0 N8q
  obtain ⟨fs, hr, hrun, hended, hW, hsame⟩ := X2.leave (v := some (ii (-1))) (fun h => by rw [Bd.returns] at h; cases h)
  refine ⟨_, _, c2 _ ?_, hrun, hended, _, _, rfl, ?_, ⟨_, rfl⟩, hW, hsame.mono (by decide) (by decide)⟩
  ·show S_ p e below T2 m 6 #[vr x_, vi ch_] [(ii (-1))] _
   exact retOut X2 hx Bd.returns rfl (Or.inl ⟨rfl, Or.inl rfl, _, rfl⟩) (hb hby d19_6) hr
  ·show Q_six1U_1 Z x_ z_ s_ ks_ ch_ c0_ fm_ h0 n0 _ T2.heap _
   rw [K9]
   exact (Or.inr (⟨rfl, N8, rfl, p10⟩))
theorem ef_mn2 (m : MethodId) : entryFrame m #[(ii 2), (ii 2)] 2 = mkF m 0 #[vi 2, vi 2] [] := by first | (simp [entryFrame, mkF, argsToLocals, Value.category]; done) | rfl
def Q_mn2 (Z : State) (h0 : Heap) (n0 : Nat) (v : Option Value) (h : Heap) (L : List Loc) : Prop := v = some (ii 2) ∧ Fr n0 L ∧ h = h0
set_option maxRecDepth 65536 in
set_option maxHeartbeats 40000000 in
theorem rm_mn2 (l : Launch) (Z : State) (a0 : Array Value) (hw : HW Z a0) (ws : List Jvm.Cond) (h0 : Heap) (n0 : Nat) (O0 : Old Z n0 h0) :
  MFP l Z (⟨"java/lang/Math", "min", "(II)I"⟩ : MethodName) jdk_29_method_69_code 2 (some .int) ({ frames := 0, cells := 0, slots := 0, locals := 0 } : Room) ws #[(ii 2), (ii 2)] h0 (Q_mn2 Z h0 n0) := by
 refine MetFree.of_bodySF (Jvm.Free.JP.mathPlain rfl (by decide +kernel)) hisR ?_
 intro p e s m args below meth c s₁ Bd hml0 hP hK
 obtain ⟨rfl, hZ, hh⟩ := hP
 have hx := Bd.exec
 have hby := Bd.bytes
 have hml : c.maxLocals = 2 := hml0
 have hown : s.vm.findClass "java/lang/Math" = some m.cls := findClass_of_methodNamed Bd.named
 have hnm := (name_of_methodNamed Bd.named Bd.method).1
 have X0 : Stand p l e ({ frames := 0, cells := 0, slots := 0, locals := 0 } : Room) s m #[(ii 2), (ii 2)] below meth c s₁ [] 0 0 := Stand.of_body Bd
 have e0 : s₁.heap = h0 := by rw [← hh, Bd.state]; rfl
 have N0 := Fr.nil n0
 have kp0 : Keep h0 h0 [] := Keep.refl _ _
 have c0 : ∀ t, S_ p e below s₁ m 0 #[vi 2, vi 2] [] t → Steps p.tables e below (s₁.setTop (entryFrame m #[(ii 2), (ii 2)] 2)) t := fun t k => castTop (ef_mn2 m) k
 generalize s₁.setTop (entryFrame m #[(ii 2), (ii 2)] 2) = st0 at c0 ⊢
 replace c0 : Kt p e below s₁ st0 (mkF m 0 #[vi 2, vi 2] []) := c0
 obtain ⟨fs, hr, hrun, hended, hW, hsame⟩ := X0.leave (v := some (ii 2)) (fun h => by rw [Bd.returns] at h; cases h)
 refine ⟨_, _, c0 _ ?_, hrun, hended, _, _, rfl, ?_, ⟨_, rfl⟩, hW, hsame.mono (by decide) (by decide)⟩
 ·show S_ p e below s₁ m 0 #[vi 2, vi 2] [] _
  refine XS.iloadN X0.here hx rfl (hb hby d15_0) rfl ?_
  refine XS.iloadN X0.here hx rfl (hb hby d15_1) rfl ?_
  refine XS.icmpNo X0.here hx rfl (hb hby d15_2) rfl rfl ?_
  refine XS.iloadN X0.here hx rfl (hb hby d15_5) rfl ?_
  refine yG X0.here hx rfl 6 10 rfl (hb hby d15_6) ?_
  show S_ p e below s₁ m 10 #[vi 2, vi 2] [(ii 2)] _
  exact retOut X0 hx Bd.returns rfl (Or.inl ⟨rfl, Or.inl rfl, _, rfl⟩) (hb hby d15_10) hr
 ·show Q_mn2 Z h0 n0 _ s₁.heap _
  rw [e0]
  exact ⟨rfl, N0, rfl⟩
theorem ef_l1x_2 (m : MethodId) (s_ : Addr) (ch_ : Int32) : entryFrame m #[(rr s_), (.int ch_), (ii 0), (ii 2)] 6 = mkF m 0 #[vr s_, vi ch_, vi 0, vi 2, u_, u_] [] := by first | (simp [entryFrame, mkF, argsToLocals, Value.category]; done) | rfl
def Q_l1x_2 (Z : State) (s_ : Addr) (ks_ : ClassId) (ch_ : Int32) (v0_ : Int32) (v1_ : Int32) (h0 : Heap) (n0 : Nat) (v : Option Value) (h : Heap) (L : List Loc) : Prop := (∃ (r_ : Int32), v = some (.int r_) ∧ Fr n0 L ∧ h = h0 ∧ ¬ (r_ < (0 : Int32)) ∧ ((v0_ = (ch_.toInt8.toInt32) ∨ v1_ = (ch_.toInt8.toInt32)))) ∨ (v = some (ii (-1)) ∧ Fr n0 L ∧ h = h0 ∧ ¬ (v0_ = (ch_.toInt8.toInt32)) ∧ ¬ (v1_ = (ch_.toInt8.toInt32)))
set_option maxRecDepth 65536 in
set_option maxHeartbeats 40000000 in
theorem rm_l1x_2 (l : Launch) (Z : State) (a0 : Array Value) (hw : HW Z a0) (ws : List Jvm.Cond) (s_ : Addr) (ks_ : ClassId) (ch_ : Int32) (v0_ : Int32) (v1_ : Int32) (h0 : Heap) (n0 : Nat) (O0 : Old Z n0 h0) (A0_ : Arv Z h0 s_ ks_ .byte (2 : Int32) [(.int v0_), (.int v1_)] (ii 0)) :
  MFP l Z (⟨nm5, "indexOfChar", "([BIII)I"⟩ : MethodName) jdk_43_method_23_code 6 (some .int) ({ frames := 0, cells := 0, slots := 0, locals := 0 } : Room) ws #[(rr s_), (.int ch_), (ii 0), (ii 2)] h0 (Q_l1x_2 Z s_ ks_ ch_ v0_ v1_ h0 n0) := by
 refine MetFree.of_bodySF (plainFor_of_name pn_java_lang_StringLatin1) hisR ?_
 intro p e s m args below meth c s₁ Bd hml0 hP hK
 obtain ⟨rfl, hZ, hh⟩ := hP
 have hx := Bd.exec
 have hby := Bd.bytes
 have hml : c.maxLocals = 6 := hml0
 have hown : s.vm.findClass nm5 = some m.cls := findClass_of_methodNamed Bd.named
 have hnm := (name_of_methodNamed Bd.named Bd.method).1
 have X0 : Stand p l e ({ frames := 0, cells := 0, slots := 0, locals := 0 } : Room) s m #[(rr s_), (.int ch_), (ii 0), (ii 2)] below meth c s₁ [] 0 0 := Stand.of_body Bd
 have e0 : s₁.heap = h0 := by rw [← hh, Bd.state]; rfl
 have N0 := Fr.nil n0
 have kp0 : Keep h0 h0 [] := Keep.refl _ _
 have c0 : ∀ t, S_ p e below s₁ m 0 #[vr s_, vi ch_, vi 0, vi 2, u_, u_] [] t → Steps p.tables e below (s₁.setTop (entryFrame m #[(rr s_), (.int ch_), (ii 0), (ii 2)] 6)) t := fun t k => castTop (ef_l1x_2 m s_ ch_) k
 generalize s₁.setTop (entryFrame m #[(rr s_), (.int ch_), (ii 0), (ii 2)] 6) = st0 at c0 ⊢
 replace c0 : Kt p e below s₁ st0 (mkF m 0 #[vr s_, vi ch_, vi 0, vi 2, u_, u_] []) := c0
 have c1 : Kt p e below s₁ st0 (mkF m 19 #[vr s_, vi ch_, vi 0, vi 2, .val (.int (ch_.toInt8.toInt32)), vi 0] [(.int (ch_.toInt8.toInt32)), (.int v0_)]) := fun t k => by
  refine c0 t ?_
  show S_ p e below s₁ m 0 #[vr s_, vi ch_, vi 0, vi 2, u_, u_] [] t
  refine XS.iloadN X0.here hx rfl (hb hby d20_0) rfl ?_
  refine XS.i2b X0.here hx rfl (hb hby d20_1) rfl ?_
  refine XS.istore X0.here hx rfl (hb hby d20_2) rfl (l' := #[vr s_, vi ch_, vi 0, vi 2, .val (.int (ch_.toInt8.toInt32)), u_]) rfl ?_
  refine XS.iloadN X0.here hx rfl (hb hby d20_4) rfl ?_
  refine XS.istore X0.here hx rfl (hb hby d20_5) rfl (l' := #[vr s_, vi ch_, vi 0, vi 2, .val (.int (ch_.toInt8.toInt32)), vi 0]) rfl ?_
  refine XS.iload X0.here hx rfl (hb hby d20_7) rfl ?_
  refine XS.iloadN X0.here hx rfl (hb hby d20_9) rfl ?_
  refine XS.icmpNo X0.here hx rfl (hb hby d20_10) rfl rfl ?_
  show S_ p e below s₁ m 13 #[vr s_, vi ch_, vi 0, vi 2, .val (.int (ch_.toInt8.toInt32)), vi 0] [] t
  refine XS.aloadN X0.here hx rfl (hb hby d20_13) rfl rfl ?_
  refine XS.iload X0.here hx rfl (hb hby d20_14) rfl ?_
  refine ldB X0 hx hZ e0 A0_ (v := (.int v0_)) (by decide) (by decide) rfl rfl rfl (hb hby d20_16) ?_
  refine XS.iload X0.here hx rfl (hb hby d20_17) rfl ?_
  exact k
 by_cases hc2 : v0_ = (ch_.toInt8.toInt32)
 ·obtain ⟨fs, hr, hrun, hended, hW, hsame⟩ := X0.leave (v := some (ii 0)) (fun h => by rw [Bd.returns] at h; cases h)
  refine ⟨_, _, c1 _ ?_, hrun, hended, _, _, rfl, ?_, ⟨_, rfl⟩, hW, hsame.mono (by decide) (by decide)⟩
  ·show S_ p e below s₁ m 19 #[vr s_, vi ch_, vi 0, vi 2, .val (.int (ch_.toInt8.toInt32)), vi 0] [(.int (ch_.toInt8.toInt32)), (.int v0_)] _
   refine XS.icmpNo X0.here hx rfl (hb hby d20_19) rfl (teq hc2).2 ?_
   refine XS.iload X0.here hx rfl (hb hby d20_22) rfl ?_
   show S_ p e below s₁ m 24 #[vr s_, vi ch_, vi 0, vi 2, .val (.int (ch_.toInt8.toInt32)), vi 0] [(ii 0)] _
   exact retOut X0 hx Bd.returns rfl (Or.inl ⟨rfl, Or.inl rfl, _, rfl⟩) (hb hby d20_24) hr
  ·show Q_l1x_2 Z s_ ks_ ch_ v0_ v1_ h0 n0 _ s₁.heap _
   rw [e0]
   exact (Or.inl ⟨(0 : Int32), rfl, N0, rfl, (by decide), (Or.inl hc2)⟩)
 ·have c3 : Kt p e below s₁ st0 (mkF m 19 #[vr s_, vi ch_, vi 0, vi 2, .val (.int (ch_.toInt8.toInt32)), vi 1] [(.int (ch_.toInt8.toInt32)), (.int v1_)]) := fun t k => by
   refine c1 t ?_
   show S_ p e below s₁ m 19 #[vr s_, vi ch_, vi 0, vi 2, .val (.int (ch_.toInt8.toInt32)), vi 0] [(.int (ch_.toInt8.toInt32)), (.int v0_)] t
   refine yC X0.here hx rfl 19 25 rfl (hb hby d20_19) rfl (feq hc2).2 ?_
   refine XS.iinc X0.here hx rfl (hb hby d20_25) rfl (l' := #[vr s_, vi ch_, vi 0, vi 2, .val (.int (ch_.toInt8.toInt32)), vi 1]) rfl ?_
   refine yG X0.here hx rfl 28 7 rfl (hb hby d20_28) ?_
   refine XS.iload X0.here hx rfl (hb hby d20_7) rfl ?_
   refine XS.iloadN X0.here hx rfl (hb hby d20_9) rfl ?_
   refine XS.icmpNo X0.here hx rfl (hb hby d20_10) rfl rfl ?_
   refine XS.aloadN X0.here hx rfl (hb hby d20_13) rfl rfl ?_
   refine XS.iload X0.here hx rfl (hb hby d20_14) rfl ?_
   show S_ p e below s₁ m 16 #[vr s_, vi ch_, vi 0, vi 2, .val (.int (ch_.toInt8.toInt32)), vi 1] [(ii 1), (rr s_)] t
   refine ldB X0 hx hZ e0 A0_ (v := (.int v1_)) (by decide) (by decide) rfl rfl rfl (hb hby d20_16) ?_
   refine XS.iload X0.here hx rfl (hb hby d20_17) rfl ?_
   exact k
  by_cases hc4 : v1_ = (ch_.toInt8.toInt32)
  ·obtain ⟨fs, hr, hrun, hended, hW, hsame⟩ := X0.leave (v := some (ii 1)) (fun h => by rw [Bd.returns] at h; cases h)
   refine ⟨_, _, c3 _ ?_, hrun, hended, _, _, rfl, ?_, ⟨_, rfl⟩, hW, hsame.mono (by decide) (by decide)⟩
   ·show S_ p e below s₁ m 19 #[vr s_, vi ch_, vi 0, vi 2, .val (.int (ch_.toInt8.toInt32)), vi 1] [(.int (ch_.toInt8.toInt32)), (.int v1_)] _
    refine XS.icmpNo X0.here hx rfl (hb hby d20_19) rfl (teq hc4).2 ?_
    refine XS.iload X0.here hx rfl (hb hby d20_22) rfl ?_
    show S_ p e below s₁ m 24 #[vr s_, vi ch_, vi 0, vi 2, .val (.int (ch_.toInt8.toInt32)), vi 1] [(ii 1)] _
    exact retOut X0 hx Bd.returns rfl (Or.inl ⟨rfl, Or.inl rfl, _, rfl⟩) (hb hby d20_24) hr
   ·show Q_l1x_2 Z s_ ks_ ch_ v0_ v1_ h0 n0 _ s₁.heap _
    rw [e0]
    exact (Or.inl ⟨(1 : Int32), rfl, N0, rfl, (by decide), (Or.inr (hc4))⟩)
  ·obtain ⟨fs, hr, hrun, hended, hW, hsame⟩ := X0.leave (v := some (ii (-1))) (fun h => by rw [Bd.returns] at h; cases h)
   refine ⟨_, _, c3 _ ?_, hrun, hended, _, _, rfl, ?_, ⟨_, rfl⟩, hW, hsame.mono (by decide) (by decide)⟩
   ·show S_ p e below s₁ m 19 #[vr s_, vi ch_, vi 0, vi 2, .val (.int (ch_.toInt8.toInt32)), vi 1] [(.int (ch_.toInt8.toInt32)), (.int v1_)] _
    refine yC X0.here hx rfl 19 25 rfl (hb hby d20_19) rfl (feq hc4).2 ?_
    refine XS.iinc X0.here hx rfl (hb hby d20_25) rfl (l' := #[vr s_, vi ch_, vi 0, vi 2, .val (.int (ch_.toInt8.toInt32)), vi 2]) rfl ?_
    refine yG X0.here hx rfl 28 7 rfl (hb hby d20_28) ?_
    refine XS.iload X0.here hx rfl (hb hby d20_7) rfl ?_
    refine XS.iloadN X0.here hx rfl (hb hby d20_9) rfl ?_
    refine yC X0.here hx rfl 10 31 rfl (hb hby d20_10) rfl rfl ?_
    refine XS.iconst X0.here hx rfl (hb hby d20_31) ?_
    show S_ p e below s₁ m 32 #[vr s_, vi ch_, vi 0, vi 2, .val (.int (ch_.toInt8.toInt32)), vi 2] [(ii (-1))] _
    exact retOut X0 hx Bd.returns rfl (Or.inl ⟨rfl, Or.inl rfl, _, rfl⟩) (hb hby d20_32) hr
   ·show Q_l1x_2 Z s_ ks_ ch_ v0_ v1_ h0 n0 _ s₁.heap _
    rw [e0]
    exact (Or.inr (⟨rfl, N0, rfl, hc2, hc4⟩))
theorem ef_l1i_2 (m : MethodId) (s_ : Addr) (ch_ : Int32) : entryFrame m #[(rr s_), (.int ch_), (ii 0), (ii 2)] 4 = mkF m 0 #[vr s_, vi ch_, vi 0, vi 2] [] := by first | (simp [entryFrame, mkF, argsToLocals, Value.category]; done) | rfl
def Q_l1i_2 (Z : State) (s_ : Addr) (ks_ : ClassId) (ch_ : Int32) (v0_ : Int32) (v1_ : Int32) (h0 : Heap) (n0 : Nat) (v : Option Value) (h : Heap) (L : List Loc) : Prop := (∃ (r_ : Int32), v = some (.int r_) ∧ Fr n0 L ∧ h = h0 ∧ ¬ (r_ < (0 : Int32)) ∧ ((v0_ = (ch_.toInt8.toInt32) ∨ v1_ = (ch_.toInt8.toInt32)))) ∨ (v = some (ii (-1)) ∧ Fr n0 L ∧ h = h0 ∧ ¬ (v0_ = (ch_.toInt8.toInt32)) ∧ ¬ (v1_ = (ch_.toInt8.toInt32)))
set_option maxRecDepth 65536 in
set_option maxHeartbeats 40000000 in
theorem rm_l1i_2 (l : Launch) (Z : State) (a0 : Array Value) (hw : HW Z a0) (ws : List Jvm.Cond) (s_ : Addr) (ks_ : ClassId) (ch_ : Int32) (v0_ : Int32) (v1_ : Int32) (h0 : Heap) (n0 : Nat) (O0 : Old Z n0 h0) (A0_ : Arv Z h0 s_ ks_ .byte (2 : Int32) [(.int v0_), (.int v1_)] (ii 0)) (h1_ : ¬ (ch_ < (0 : Int32))) (h2_ : ¬ ((255 : Int32) < ch_)) :
  MFP l Z (⟨nm5, "indexOf", "([BIII)I"⟩ : MethodName) jdk_43_method_22_code 4 (some .int) ({ frames := 1, cells := 0, slots := 0, locals := 17 } : Room) ws #[(rr s_), (.int ch_), (ii 0), (ii 2)] h0 (Q_l1i_2 Z s_ ks_ ch_ v0_ v1_ h0 n0) := by
 refine MetFree.of_bodySF (plainFor_of_name pn_java_lang_StringLatin1) hisR ?_
 intro p e s m args below meth c s₁ Bd hml0 hP hK
 obtain ⟨rfl, hZ, hh⟩ := hP
 have hx := Bd.exec
 have hby := Bd.bytes
 have hml : c.maxLocals = 4 := hml0
 have hown : s.vm.findClass nm5 = some m.cls := findClass_of_methodNamed Bd.named
 have hnm := (name_of_methodNamed Bd.named Bd.method).1
 have X0 : Stand p l e ({ frames := 1, cells := 0, slots := 0, locals := 17 } : Room) s m #[(rr s_), (.int ch_), (ii 0), (ii 2)] below meth c s₁ [] 0 0 := Stand.of_body Bd
 have e0 : s₁.heap = h0 := by rw [← hh, Bd.state]; rfl
 have N0 := Fr.nil n0
 have kp0 : Keep h0 h0 [] := Keep.refl _ _
 have c0 : ∀ t, S_ p e below s₁ m 0 #[vr s_, vi ch_, vi 0, vi 2] [] t → Steps p.tables e below (s₁.setTop (entryFrame m #[(rr s_), (.int ch_), (ii 0), (ii 2)] 4)) t := fun t k => castTop (ef_l1i_2 m s_ ch_) k
 generalize s₁.setTop (entryFrame m #[(rr s_), (.int ch_), (ii 0), (ii 2)] 4) = st0 at c0 ⊢
 replace c0 : Kt p e below s₁ st0 (mkF m 0 #[vr s_, vi ch_, vi 0, vi 2] []) := c0
 have c1 : Kt p e below s₁ st0 (mkF m 1 #[vr s_, vi ch_, vi 0, vi 2] [(.int ch_)]) := fun t k => by
  refine c0 t ?_
  show S_ p e below s₁ m 0 #[vr s_, vi ch_, vi 0, vi 2] [] t
  refine XS.iloadN X0.here hx rfl (hb hby d16_0) rfl ?_
  exact k
 obtain ⟨_, T2, L2, X2, hQ2, c2⟩ := kstat X0 hx hZ hown (w61 hw) (w62 hw) (w59 hw) (w63 hw) (rm_ceI l Z a0 hw [] ch_ h0 n0 O0 h1_ h2_) e0 c1 hml pd_pIrZ [(.int ch_)] [] 0 (hb hby d16_1) rfl rfl rfl rfl rfl rfl
 obtain ⟨rfl, N3q, K4⟩ := hQ2
 have N3 := Fr.app N0 N3q
 have c5 : Kt p e below T2 st0 (mkF m 11 #[vr s_, vi ch_, vi 0, vi 2] [(ii 0), (ii 0)]) := fun t k => by
  refine c2 t ?_
  show S_ p e below T2 m 4 #[vr s_, vi ch_, vi 0, vi 2] [(ii 1)] t
  refine yI X2.here hx rfl 4 9 rfl (hb hby d16_4) rfl rfl ?_
  refine XS.iloadN X2.here hx rfl (hb hby d16_9) rfl ?_
  refine XS.iconst X2.here hx rfl (hb hby d16_10) ?_
  exact k
 obtain ⟨_, T6, L6, X6, hQ6, c6⟩ := kstat X2 hx hZ hown (w64 hw) (w65 hw) (w66 hw) (w67 hw) (rm_mx0 l Z a0 hw []  h0 n0 O0 ) K4 c5 hml pd_pIIrI [(ii 0), (ii 0)] [] 0 (hb hby d16_11) rfl rfl rfl rfl rfl rfl
 obtain ⟨rfl, N7q, K8⟩ := hQ6
 have N7 := Fr.app N3 N7q
 have c9 : Kt p e below T6 st0 (mkF m 18 #[vr s_, vi ch_, vi 0, vi 2] [(ii 2), (ii 2)]) := fun t k => by
  refine c6 t ?_
  show S_ p e below T6 m 14 #[vr s_, vi ch_, vi 0, vi 2] [(ii 0)] t
  refine XS.istoreN X6.here hx rfl (hb hby d16_14) rfl (l' := #[vr s_, vi ch_, vi 0, vi 2]) rfl ?_
  refine XS.iloadN X6.here hx rfl (hb hby d16_15) rfl ?_
  refine XS.aloadN X6.here hx rfl (hb hby d16_16) rfl rfl ?_
  refine ldLen X6 hx hZ K8 A0_ rfl rfl (hb hby d16_17) ?_
  exact k
 obtain ⟨_, T10, L10, X10, hQ10, c10⟩ := kstat X6 hx hZ hown (w68 hw) (w69 hw) (w66 hw) (w70 hw) (rm_mn2 l Z a0 hw []  h0 n0 O0 ) K8 c9 hml pd_pIIrI [(ii 2), (ii 2)] [] 0 (hb hby d16_18) rfl rfl rfl rfl rfl rfl
 obtain ⟨rfl, N11q, K12⟩ := hQ10
 have N11 := Fr.app N7 N11q
 have c13 : Kt p e below T10 st0 (mkF m 33 #[vr s_, vi ch_, vi 0, vi 2] [(ii 2), (ii 0), (.int ch_), (rr s_)]) := fun t k => by
  refine c10 t ?_
  show S_ p e below T10 m 21 #[vr s_, vi ch_, vi 0, vi 2] [(ii 2)] t
  refine XS.istoreN X10.here hx rfl (hb hby d16_21) rfl (l' := #[vr s_, vi ch_, vi 0, vi 2]) rfl ?_
  refine XS.iloadN X10.here hx rfl (hb hby d16_22) rfl ?_
  refine XS.iloadN X10.here hx rfl (hb hby d16_23) rfl ?_
  refine yC X10.here hx rfl 24 29 rfl (hb hby d16_24) rfl rfl ?_
  refine XS.aloadN X10.here hx rfl (hb hby d16_29) rfl rfl ?_
  refine XS.iloadN X10.here hx rfl (hb hby d16_30) rfl ?_
  refine XS.iloadN X10.here hx rfl (hb hby d16_31) rfl ?_
  refine XS.iloadN X10.here hx rfl (hb hby d16_32) rfl ?_
  exact k
 obtain ⟨_, T14, L14, X14, hQ14, c14⟩ := kstat X10 hx hZ hown (w122 hw) (w123 hw) (w59 hw) (w124 hw) (rm_l1x_2 l Z a0 hw [] s_ ks_ ch_ v0_ v1_ h0 n0 O0 A0_) K12 c13 hml pd_pABIIIrI [(rr s_), (.int ch_), (ii 0), (ii 2)] [] 0 (hb hby d16_33) rfl rfl rfl rfl rfl rfl
 rcases hQ14 with hQ14 | hQ14
 ·obtain ⟨i15, rfl, N16q, K17, p18, p19⟩ := hQ14
  have N16 := Fr.app N11 N16q
  obtain ⟨fs, hr, hrun, hended, hW, hsame⟩ := X14.leave (v := some (.int i15)) (fun h => by rw [Bd.returns] at h; cases h)
  refine ⟨_, _, c14 _ ?_, hrun, hended, _, _, rfl, ?_, ⟨_, rfl⟩, hW, hsame.mono (by decide) (by decide)⟩
  ·show S_ p e below T14 m 36 #[vr s_, vi ch_, vi 0, vi 2] [(.int i15)] _
   exact retOut X14 hx Bd.returns rfl (Or.inl ⟨rfl, Or.inl rfl, _, rfl⟩) (hb hby d16_36) hr
  ·show Q_l1i_2 Z s_ ks_ ch_ v0_ v1_ h0 n0 _ T14.heap _
   rw [K17]
   exact (Or.inl ⟨i15, rfl, N16, rfl, p18, p19⟩)
 ·obtain ⟨rfl, N20q, K21, p22, p23⟩ := hQ14
  have N20 := Fr.app N11 N20q
  obtain ⟨fs, hr, hrun, hended, hW, hsame⟩ := X14.leave (v := some (ii (-1))) (fun h => by rw [Bd.returns] at h; cases h)
  refine ⟨_, _, c14 _ ?_, hrun, hended, _, _, rfl, ?_, ⟨_, rfl⟩, hW, hsame.mono (by decide) (by decide)⟩
  ·show S_ p e below T14 m 36 #[vr s_, vi ch_, vi 0, vi 2] [(ii (-1))] _
   exact retOut X14 hx Bd.returns rfl (Or.inl ⟨rfl, Or.inl rfl, _, rfl⟩) (hb hby d16_36) hr
  ·show Q_l1i_2 Z s_ ks_ ch_ v0_ v1_ h0 n0 _ T14.heap _
   rw [K21]
   exact (Or.inr (⟨rfl, N20, rfl, p22, p23⟩))
theorem ef_lenL_2 (m : MethodId) (x_ : Addr) : entryFrame m #[(rr x_)] 1 = mkF m 0 #[vr x_] [] := by first | (simp [entryFrame, mkF, argsToLocals, Value.category]; done) | rfl
def Q_lenL_2 (Z : State) (x_ : Addr) (s_ : Addr) (ks_ : ClassId) (vs_ : List Value) (z_ : Int32) (h0 : Heap) (n0 : Nat) (v : Option Value) (h : Heap) (L : List Loc) : Prop := v = some (ii 2) ∧ Fr n0 L ∧ h = h0
set_option maxRecDepth 65536 in
set_option maxHeartbeats 40000000 in
theorem rm_lenL_2 (l : Launch) (Z : State) (a0 : Array Value) (hw : HW Z a0) (ws : List Jvm.Cond) (x_ : Addr) (s_ : Addr) (ks_ : ClassId) (vs_ : List Value) (z_ : Int32) (h0 : Heap) (n0 : Nat) (O0 : Old Z n0 h0) (E0_ : Exa Z h0 x_ nm0) (F1_ : Fld Z h0 x_ nm0 "coder" "B" (ii 0)) (F2_ : Fld Z h0 x_ nm0 "value" "[B" (rr s_)) (A3_ : Arv Z h0 s_ ks_ .byte (2 : Int32) vs_ (ii 0)) (ZS4_ : Sta Z Z.heap nm0 "COMPACT_STRINGS" "Z" (.int z_)) (hz_ : ¬ (z_ = (0 : Int32))) :
  MFP l Z (⟨nm0, "length", "()I"⟩ : MethodName) jdk_42_method_54_code 1 (some .int) ({ frames := 1, cells := 0, slots := 0, locals := 13 } : Room) ws #[(rr x_)] h0 (Q_lenL_2 Z x_ s_ ks_ vs_ z_ h0 n0) := by
 refine MetFree.of_bodySF (plainFor_of_name pn_java_lang_String) hisR ?_
 intro p e s m args below meth c s₁ Bd hml0 hP hK
 obtain ⟨rfl, hZ, hh⟩ := hP
 have hx := Bd.exec
 have hby := Bd.bytes
 have hml : c.maxLocals = 1 := hml0
 have hown : s.vm.findClass nm0 = some m.cls := findClass_of_methodNamed Bd.named
 have hnm := (name_of_methodNamed Bd.named Bd.method).1
 have X0 : Stand p l e ({ frames := 1, cells := 0, slots := 0, locals := 13 } : Room) s m #[(rr x_)] below meth c s₁ [] 0 0 := Stand.of_body Bd
 have e0 : s₁.heap = h0 := by rw [← hh, Bd.state]; rfl
 have N0 := Fr.nil n0
 have kp0 : Keep h0 h0 [] := Keep.refl _ _
 have c0 : ∀ t, S_ p e below s₁ m 0 #[vr x_] [] t → Steps p.tables e below (s₁.setTop (entryFrame m #[(rr x_)] 1)) t := fun t k => castTop (ef_lenL_2 m x_) k
 generalize s₁.setTop (entryFrame m #[(rr x_)] 1) = st0 at c0 ⊢
 replace c0 : Kt p e below s₁ st0 (mkF m 0 #[vr x_] []) := c0
 have c1 : Kt p e below s₁ st0 (mkF m 1 #[vr x_] [(rr x_)]) := fun t k => by
  refine c0 t ?_
  show S_ p e below s₁ m 0 #[vr x_] [] t
  refine XS.aloadN X0.here hx rfl (hb hby d17_0) rfl rfl ?_
  exact k
 obtain ⟨T2, X2, e2, c2⟩ := kget X0 hx hZ hown (host := "") (Or.inl (w24 hw)) Via.refl e0 F2_ c1 rfl rfl (hb hby d17_1)
 have c3 : Kt p e below T2 st0 (mkF m 6 #[vr x_] [(rr x_), (ii 2)]) := fun t k => by
  refine c2 t ?_
  show S_ p e below T2 m 4 #[vr x_] [(rr s_)] t
  refine ldLen X2 hx hZ e2 A3_ rfl rfl (hb hby d17_4) ?_
  refine XS.aloadN X2.here hx rfl (hb hby d17_5) rfl rfl ?_
  exact k
 obtain ⟨_, T4, L4, X4, hQ4, c4⟩ := kvirt X2 hx hZ hown (w52 hw) (w53 hw) (w55 hw) (w54 hw) (w56 hw) (w6 hw) (rm_codL l Z a0 hw [] x_ z_ h0 n0 O0 F1_ ZS4_ hz_) e2 E0_ c3 hml pd_prB [] [(ii 2)] 1 (hb hby d17_6) rfl rfl rfl rfl rfl rfl
 obtain ⟨rfl, N5q, K6⟩ := hQ4
 have N5 := Fr.app N0 N5q
 obtain ⟨fs, hr, hrun, hended, hW, hsame⟩ := X4.leave (v := some (ii 2)) (fun h => by rw [Bd.returns] at h; cases h)
 refine ⟨_, _, c4 _ ?_, hrun, hended, _, _, rfl, ?_, ⟨_, rfl⟩, hW, hsame.mono (by decide) (by decide)⟩
 ·show S_ p e below T4 m 9 #[vr x_] [(ii 0), (ii 2)] _
  refine XS.ishr X4.here hx rfl (hb hby d17_9) rfl ?_
  show S_ p e below T4 m 10 #[vr x_] [(ii 2)] _
  exact retOut X4 hx Bd.returns rfl (Or.inl ⟨rfl, Or.inl rfl, _, rfl⟩) (hb hby d17_10) hr
 ·show Q_lenL_2 Z x_ s_ ks_ vs_ z_ h0 n0 _ T4.heap _
  rw [K6]
  exact ⟨rfl, N5, rfl⟩
theorem ef_six2L_2 (m : MethodId) (x_ : Addr) (ch_ : Int32) : entryFrame m #[(rr x_), (.int ch_), (ii 0)] 3 = mkF m 0 #[vr x_, vi ch_, vi 0] [] := by first | (simp [entryFrame, mkF, argsToLocals, Value.category]; done) | rfl
def Q_six2L_2 (Z : State) (x_ : Addr) (z_ : Int32) (s_ : Addr) (ks_ : ClassId) (ch_ : Int32) (v0_ : Int32) (v1_ : Int32) (h0 : Heap) (n0 : Nat) (v : Option Value) (h : Heap) (L : List Loc) : Prop := (∃ (r_ : Int32), v = some (.int r_) ∧ Fr n0 L ∧ h = h0 ∧ ¬ (r_ < (0 : Int32)) ∧ ((v0_ = (ch_.toInt8.toInt32) ∨ v1_ = (ch_.toInt8.toInt32)))) ∨ (v = some (ii (-1)) ∧ Fr n0 L ∧ h = h0 ∧ ¬ (v0_ = (ch_.toInt8.toInt32)) ∧ ¬ (v1_ = (ch_.toInt8.toInt32)))
set_option maxRecDepth 65536 in
set_option maxHeartbeats 40000000 in
theorem rm_six2L_2 (l : Launch) (Z : State) (a0 : Array Value) (hw : HW Z a0) (ws : List Jvm.Cond) (x_ : Addr) (z_ : Int32) (s_ : Addr) (ks_ : ClassId) (ch_ : Int32) (v0_ : Int32) (v1_ : Int32) (h0 : Heap) (n0 : Nat) (O0 : Old Z n0 h0) (E0_ : Exa Z h0 x_ nm0) (F1_ : Fld Z h0 x_ nm0 "coder" "B" (ii 0)) (F2_ : Fld Z h0 x_ nm0 "value" "[B" (rr s_)) (A3_ : Arv Z h0 s_ ks_ .byte (2 : Int32) [(.int v0_), (.int v1_)] (ii 0)) (ZS4_ : Sta Z Z.heap nm0 "COMPACT_STRINGS" "Z" (.int z_)) (hz_ : ¬ (z_ = (0 : Int32))) (h1_ : ¬ (ch_ < (0 : Int32))) (h2_ : ¬ ((255 : Int32) < ch_)) :
  MFP l Z (⟨nm0, "indexOf", "(II)I"⟩ : MethodName) jdk_42_method_80_code 3 (some .int) ({ frames := 2, cells := 0, slots := 0, locals := 32 } : Room) ws #[(rr x_), (.int ch_), (ii 0)] h0 (Q_six2L_2 Z x_ z_ s_ ks_ ch_ v0_ v1_ h0 n0) := by
 refine MetFree.of_bodySF (plainFor_of_name pn_java_lang_String) hisR ?_
 intro p e s m args below meth c s₁ Bd hml0 hP hK
 obtain ⟨rfl, hZ, hh⟩ := hP
 have hx := Bd.exec
 have hby := Bd.bytes
 have hml : c.maxLocals = 3 := hml0
 have hown : s.vm.findClass nm0 = some m.cls := findClass_of_methodNamed Bd.named
 have hnm := (name_of_methodNamed Bd.named Bd.method).1
 have X0 : Stand p l e ({ frames := 2, cells := 0, slots := 0, locals := 32 } : Room) s m #[(rr x_), (.int ch_), (ii 0)] below meth c s₁ [] 0 0 := Stand.of_body Bd
 have e0 : s₁.heap = h0 := by rw [← hh, Bd.state]; rfl
 have N0 := Fr.nil n0
 have kp0 : Keep h0 h0 [] := Keep.refl _ _
 have c0 : ∀ t, S_ p e below s₁ m 0 #[vr x_, vi ch_, vi 0] [] t → Steps p.tables e below (s₁.setTop (entryFrame m #[(rr x_), (.int ch_), (ii 0)] 3)) t := fun t k => castTop (ef_six2L_2 m x_ ch_) k
 generalize s₁.setTop (entryFrame m #[(rr x_), (.int ch_), (ii 0)] 3) = st0 at c0 ⊢
 replace c0 : Kt p e below s₁ st0 (mkF m 0 #[vr x_, vi ch_, vi 0] []) := c0
 have c1 : Kt p e below s₁ st0 (mkF m 1 #[vr x_, vi ch_, vi 0] [(rr x_)]) := fun t k => by
  refine c0 t ?_
  show S_ p e below s₁ m 0 #[vr x_, vi ch_, vi 0] [] t
  refine XS.aloadN X0.here hx rfl (hb hby d18_0) rfl rfl ?_
  exact k
 obtain ⟨_, T2, L2, X2, hQ2, c2⟩ := kvirt X0 hx hZ hown (w41 hw) (w42 hw) (w44 hw) (w43 hw) (w45 hw) (w6 hw) (rm_islL l Z a0 hw [] x_ z_ h0 n0 O0 F1_ ZS4_ hz_) e0 E0_ c1 hml pd_prZ [] [] 0 (hb hby d18_1) rfl rfl rfl rfl rfl rfl
 obtain ⟨rfl, N3q, K4⟩ := hQ2
 have N3 := Fr.app N0 N3q
 have c5 : Kt p e below T2 st0 (mkF m 8 #[vr x_, vi ch_, vi 0] [(rr x_)]) := fun t k => by
  refine c2 t ?_
  show S_ p e below T2 m 4 #[vr x_, vi ch_, vi 0] [(ii 1)] t
  refine XS.ifNo X2.here hx rfl (hb hby d18_4) rfl rfl ?_
  refine XS.aloadN X2.here hx rfl (hb hby d18_7) rfl rfl ?_
  exact k
 obtain ⟨T6, X6, e6, c6⟩ := kget X2 hx hZ hown (host := "") (Or.inl (w24 hw)) Via.refl K4 F2_ c5 rfl rfl (hb hby d18_8)
 have c7 : Kt p e below T6 st0 (mkF m 14 #[vr x_, vi ch_, vi 0] [(rr x_), (ii 0), (.int ch_), (rr s_)]) := fun t k => by
  refine c6 t ?_
  show S_ p e below T6 m 11 #[vr x_, vi ch_, vi 0] [(rr s_)] t
  refine XS.iloadN X6.here hx rfl (hb hby d18_11) rfl ?_
  refine XS.iloadN X6.here hx rfl (hb hby d18_12) rfl ?_
  refine XS.aloadN X6.here hx rfl (hb hby d18_13) rfl rfl ?_
  exact k
 obtain ⟨_, T8, L8, X8, hQ8, c8⟩ := kvirt X6 hx hZ hown (w47 hw) (w48 hw) (w50 hw) (w49 hw) (w51 hw) (w6 hw) (rm_lenL_2 l Z a0 hw [] x_ s_ ks_ [(.int v0_), (.int v1_)] z_ h0 n0 O0 E0_ F1_ F2_ A3_ ZS4_ hz_) e6 E0_ c7 hml pd_prI [] [(ii 0), (.int ch_), (rr s_)] 3 (hb hby d18_14) rfl rfl rfl rfl rfl rfl
 obtain ⟨rfl, N9q, K10⟩ := hQ8
 have N9 := Fr.app N3 N9q
 obtain ⟨_, T11, L11, X11, hQ11, c11⟩ := kstat X8 hx hZ hown (w57 hw) (w58 hw) (w59 hw) (w60 hw) (rm_l1i_2 l Z a0 hw [] s_ ks_ ch_ v0_ v1_ h0 n0 O0 A3_ h1_ h2_) K10 c8 hml pd_pABIIIrI [(rr s_), (.int ch_), (ii 0), (ii 2)] [] 0 (hb hby d18_17) rfl rfl rfl rfl rfl rfl
 rcases hQ11 with hQ11 | hQ11
 ·obtain ⟨i12, rfl, N13q, K14, p15, p16⟩ := hQ11
  have N13 := Fr.app N9 N13q
  obtain ⟨fs, hr, hrun, hended, hW, hsame⟩ := X11.leave (v := some (.int i12)) (fun h => by rw [Bd.returns] at h; cases h)
  refine ⟨_, _, c11 _ ?_, hrun, hended, _, _, rfl, ?_, ⟨_, rfl⟩, hW, hsame.mono (by decide) (by decide)⟩
  ·show S_ p e below T11 m 20 #[vr x_, vi ch_, vi 0] [(.int i12)] _
   refine yG X11.here hx rfl 20 36 rfl (hb hby d18_20) ?_
   show S_ p e below T11 m 36 #[vr x_, vi ch_, vi 0] [(.int i12)] _
   exact retOut X11 hx Bd.returns rfl (Or.inl ⟨rfl, Or.inl rfl, _, rfl⟩) (hb hby d18_36) hr
  ·show Q_six2L_2 Z x_ z_ s_ ks_ ch_ v0_ v1_ h0 n0 _ T11.heap _
   rw [K14]
   exact (Or.inl ⟨i12, rfl, N13, rfl, p15, p16⟩)
 ·obtain ⟨rfl, N17q, K18, p19, p20⟩ := hQ11
  have N17 := Fr.app N9 N17q
  obtain ⟨fs, hr, hrun, hended, hW, hsame⟩ := X11.leave (v := some (ii (-1))) (fun h => by rw [Bd.returns] at h; cases h)
  refine ⟨_, _, c11 _ ?_, hrun, hended, _, _, rfl, ?_, ⟨_, rfl⟩, hW, hsame.mono (by decide) (by decide)⟩
  ·show S_ p e below T11 m 20 #[vr x_, vi ch_, vi 0] [(ii (-1))] _
   refine yG X11.here hx rfl 20 36 rfl (hb hby d18_20) ?_
   show S_ p e below T11 m 36 #[vr x_, vi ch_, vi 0] [(ii (-1))] _
   exact retOut X11 hx Bd.returns rfl (Or.inl ⟨rfl, Or.inl rfl, _, rfl⟩) (hb hby d18_36) hr
  ·show Q_six2L_2 Z x_ z_ s_ ks_ ch_ v0_ v1_ h0 n0 _ T11.heap _
   rw [K18]
   exact (Or.inr (⟨rfl, N17, rfl, p19, p20⟩))
theorem ef_six1L_2 (m : MethodId) (x_ : Addr) (ch_ : Int32) : entryFrame m #[(rr x_), (.int ch_)] 2 = mkF m 0 #[vr x_, vi ch_] [] := by first | (simp [entryFrame, mkF, argsToLocals, Value.category]; done) | rfl
def Q_six1L_2 (Z : State) (x_ : Addr) (z_ : Int32) (s_ : Addr) (ks_ : ClassId) (ch_ : Int32) (v0_ : Int32) (v1_ : Int32) (h0 : Heap) (n0 : Nat) (v : Option Value) (h : Heap) (L : List Loc) : Prop := (∃ (r_ : Int32), v = some (.int r_) ∧ Fr n0 L ∧ h = h0 ∧ ¬ (r_ < (0 : Int32)) ∧ ((v0_ = (ch_.toInt8.toInt32) ∨ v1_ = (ch_.toInt8.toInt32)))) ∨ (v = some (ii (-1)) ∧ Fr n0 L ∧ h = h0 ∧ ¬ (v0_ = (ch_.toInt8.toInt32)) ∧ ¬ (v1_ = (ch_.toInt8.toInt32)))
set_option maxRecDepth 65536 in
set_option maxHeartbeats 40000000 in
theorem rm_six1L_2 (l : Launch) (Z : State) (a0 : Array Value) (hw : HW Z a0) (ws : List Jvm.Cond) (x_ : Addr) (z_ : Int32) (s_ : Addr) (ks_ : ClassId) (ch_ : Int32) (v0_ : Int32) (v1_ : Int32) (h0 : Heap) (n0 : Nat) (O0 : Old Z n0 h0) (E0_ : Exa Z h0 x_ nm0) (F1_ : Fld Z h0 x_ nm0 "coder" "B" (ii 0)) (F2_ : Fld Z h0 x_ nm0 "value" "[B" (rr s_)) (A3_ : Arv Z h0 s_ ks_ .byte (2 : Int32) [(.int v0_), (.int v1_)] (ii 0)) (ZS4_ : Sta Z Z.heap nm0 "COMPACT_STRINGS" "Z" (.int z_)) (hz_ : ¬ (z_ = (0 : Int32))) (h1_ : ¬ (ch_ < (0 : Int32))) (h2_ : ¬ ((255 : Int32) < ch_)) :
  MFP l Z (⟨nm0, "indexOf", "(I)I"⟩ : MethodName) jdk_42_method_79_code 2 (some .int) ({ frames := 3, cells := 0, slots := 0, locals := 46 } : Room) ws #[(rr x_), (.int ch_)] h0 (Q_six1L_2 Z x_ z_ s_ ks_ ch_ v0_ v1_ h0 n0) := by
 refine MetFree.of_bodySF (plainFor_of_name pn_java_lang_String) hisR ?_
 intro p e s m args below meth c s₁ Bd hml0 hP hK
 obtain ⟨rfl, hZ, hh⟩ := hP
 have hx := Bd.exec
 have hby := Bd.bytes
 have hml : c.maxLocals = 2 := hml0
 have hown : s.vm.findClass nm0 = some m.cls := findClass_of_methodNamed Bd.named
 have hnm := (name_of_methodNamed Bd.named Bd.method).1
 have X0 : Stand p l e ({ frames := 3, cells := 0, slots := 0, locals := 46 } : Room) s m #[(rr x_), (.int ch_)] below meth c s₁ [] 0 0 := Stand.of_body Bd
 have e0 : s₁.heap = h0 := by rw [← hh, Bd.state]; rfl
 have N0 := Fr.nil n0
 have kp0 : Keep h0 h0 [] := Keep.refl _ _
 have c0 : ∀ t, S_ p e below s₁ m 0 #[vr x_, vi ch_] [] t → Steps p.tables e below (s₁.setTop (entryFrame m #[(rr x_), (.int ch_)] 2)) t := fun t k => castTop (ef_six1L_2 m x_ ch_) k
 generalize s₁.setTop (entryFrame m #[(rr x_), (.int ch_)] 2) = st0 at c0 ⊢
 replace c0 : Kt p e below s₁ st0 (mkF m 0 #[vr x_, vi ch_] []) := c0
 have c1 : Kt p e below s₁ st0 (mkF m 3 #[vr x_, vi ch_] [(ii 0), (.int ch_), (rr x_)]) := fun t k => by
  refine c0 t ?_
  show S_ p e below s₁ m 0 #[vr x_, vi ch_] [] t
  refine XS.aloadN X0.here hx rfl (hb hby d19_0) rfl rfl ?_
  refine XS.iloadN X0.here hx rfl (hb hby d19_1) rfl ?_
  refine XS.iconst X0.here hx rfl (hb hby d19_2) ?_
  exact k
 obtain ⟨_, T2, L2, X2, hQ2, c2⟩ := kvirt X0 hx hZ hown (w36 hw) (w37 hw) (w39 hw) (w38 hw) (w40 hw) (w6 hw) (rm_six2L_2 l Z a0 hw [] x_ z_ s_ ks_ ch_ v0_ v1_ h0 n0 O0 E0_ F1_ F2_ A3_ ZS4_ hz_ h1_ h2_) e0 E0_ c1 hml pd_pIIrI [(.int ch_), (ii 0)] [] 0 (hb hby d19_3) rfl rfl rfl rfl rfl rfl
 rcases hQ2 with hQ2 | hQ2
 ·obtain ⟨i3, rfl, N4q, K5, p6, p7⟩ := hQ2
  have N4 := Fr.app N0 N4q
  obtain ⟨fs, hr, hrun, hended, hW, hsame⟩ := X2.leave (v := some (.int i3)) (fun h => by rw [Bd.returns] at h; cases h)
  refine ⟨_, _, c2 _ ?_, hrun, hended, _, _, rfl, ?_, ⟨_, rfl⟩, hW, hsame.mono (by decide) (by decide)⟩
  ·show S_ p e below T2 m 6 #[vr x_, vi ch_] [(.int i3)] _
   exact retOut X2 hx Bd.returns rfl (Or.inl ⟨rfl, Or.inl rfl, _, rfl⟩) (hb hby d19_6) hr
  ·show Q_six1L_2 Z x_ z_ s_ ks_ ch_ v0_ v1_ h0 n0 _ T2.heap _
   rw [K5]
   exact (Or.inl ⟨i3, rfl, N4, rfl, p6, p7⟩)
 ·obtain ⟨rfl, N8q, K9, p10, p11⟩ := hQ2
  have N8 := Fr.app N0 N8q
  obtain ⟨fs, hr, hrun, hended, hW, hsame⟩ := X2.leave (v := some (ii (-1))) (fun h => by rw [Bd.returns] at h; cases h)
  refine ⟨_, _, c2 _ ?_, hrun, hended, _, _, rfl, ?_, ⟨_, rfl⟩, hW, hsame.mono (by decide) (by decide)⟩
  ·show S_ p e below T2 m 6 #[vr x_, vi ch_] [(ii (-1))] _
   exact retOut X2 hx Bd.returns rfl (Or.inl ⟨rfl, Or.inl rfl, _, rfl⟩) (hb hby d19_6) hr
  ·show Q_six1L_2 Z x_ z_ s_ ks_ ch_ v0_ v1_ h0 n0 _ T2.heap _
   rw [K9]
   exact (Or.inr (⟨rfl, N8, rfl, p10, p11⟩))
theorem ef_u16len_2 (m : MethodId) (s_ : Addr) : entryFrame m #[(rr s_)] 1 = mkF m 0 #[vr s_] [] := by first | (simp [entryFrame, mkF, argsToLocals, Value.category]; done) | rfl
def Q_u16len_2 (Z : State) (s_ : Addr) (ks_ : ClassId) (vs_ : List Value) (h0 : Heap) (n0 : Nat) (v : Option Value) (h : Heap) (L : List Loc) : Prop := v = some (ii 2) ∧ Fr n0 L ∧ h = h0
set_option maxRecDepth 65536 in
set_option maxHeartbeats 40000000 in
theorem rm_u16len_2 (l : Launch) (Z : State) (a0 : Array Value) (hw : HW Z a0) (ws : List Jvm.Cond) (s_ : Addr) (ks_ : ClassId) (vs_ : List Value) (h0 : Heap) (n0 : Nat) (O0 : Old Z n0 h0) (A0_ : Arv Z h0 s_ ks_ .byte (4 : Int32) vs_ (ii 0)) :
  MFP l Z (⟨nm1, "length", "([B)I"⟩ : MethodName) jdk_52_method_6_code 1 (some .int) ({ frames := 0, cells := 0, slots := 0, locals := 0 } : Room) ws #[(rr s_)] h0 (Q_u16len_2 Z s_ ks_ vs_ h0 n0) := by
 refine MetFree.of_bodySF (plainFor_of_name pn_java_lang_StringUTF16) hisR ?_
 intro p e s m args below meth c s₁ Bd hml0 hP hK
 obtain ⟨rfl, hZ, hh⟩ := hP
 have hx := Bd.exec
 have hby := Bd.bytes
 have hml : c.maxLocals = 1 := hml0
 have hown : s.vm.findClass nm1 = some m.cls := findClass_of_methodNamed Bd.named
 have hnm := (name_of_methodNamed Bd.named Bd.method).1
 have X0 : Stand p l e ({ frames := 0, cells := 0, slots := 0, locals := 0 } : Room) s m #[(rr s_)] below meth c s₁ [] 0 0 := Stand.of_body Bd
 have e0 : s₁.heap = h0 := by rw [← hh, Bd.state]; rfl
 have N0 := Fr.nil n0
 have kp0 : Keep h0 h0 [] := Keep.refl _ _
 have c0 : ∀ t, S_ p e below s₁ m 0 #[vr s_] [] t → Steps p.tables e below (s₁.setTop (entryFrame m #[(rr s_)] 1)) t := fun t k => castTop (ef_u16len_2 m s_) k
 generalize s₁.setTop (entryFrame m #[(rr s_)] 1) = st0 at c0 ⊢
 replace c0 : Kt p e below s₁ st0 (mkF m 0 #[vr s_] []) := c0
 obtain ⟨fs, hr, hrun, hended, hW, hsame⟩ := X0.leave (v := some (ii 2)) (fun h => by rw [Bd.returns] at h; cases h)
 refine ⟨_, _, c0 _ ?_, hrun, hended, _, _, rfl, ?_, ⟨_, rfl⟩, hW, hsame.mono (by decide) (by decide)⟩
 ·show S_ p e below s₁ m 0 #[vr s_] [] _
  refine XS.aloadN X0.here hx rfl (hb hby d21_0) rfl rfl ?_
  refine ldLen X0 hx hZ e0 A0_ rfl rfl (hb hby d21_1) ?_
  refine XS.iconst X0.here hx rfl (hb hby d21_2) ?_
  refine XS.ishr X0.here hx rfl (hb hby d21_3) rfl ?_
  show S_ p e below s₁ m 4 #[vr s_] [(ii 2)] _
  exact retOut X0 hx Bd.returns rfl (Or.inl ⟨rfl, Or.inl rfl, _, rfl⟩) (hb hby d21_4) hr
 ·show Q_u16len_2 Z s_ ks_ vs_ h0 n0 _ s₁.heap _
  rw [e0]
  exact ⟨rfl, N0, rfl⟩
theorem ef_cft_2 (m : MethodId) (fm_ : Value) (hfm_ : fm_.isRef = true) : entryFrame m #[(ii 0), (ii 2), (ii 2), fm_] 4 = mkF m 0 #[vi 0, vi 2, vi 2, .val fm_] [] := by (rcases ref_cases hfm_ with rfl | ⟨_, rfl⟩) <;> first | (simp [entryFrame, mkF, argsToLocals, Value.category]; done) | rfl
def Q_cft_2 (Z : State) (fm_ : Value) (h0 : Heap) (n0 : Nat) (v : Option Value) (h : Heap) (L : List Loc) : Prop := v = some (ii 0) ∧ Fr n0 L ∧ h = h0
set_option maxRecDepth 65536 in
set_option maxHeartbeats 40000000 in
theorem rm_cft_2 (l : Launch) (Z : State) (a0 : Array Value) (hw : HW Z a0) (ws : List Jvm.Cond) (fm_ : Value) (h0 : Heap) (n0 : Nat) (O0 : Old Z n0 h0) (hfm_ : fm_.isRef = true) :
  MFP l Z (⟨nm4, "checkFromToIndex", "(IIILjava/util/function/BiFunction;)I"⟩ : MethodName) jdk_41_method_12_code 4 (some .int) ({ frames := 0, cells := 0, slots := 0, locals := 0 } : Room) ws #[(ii 0), (ii 2), (ii 2), fm_] h0 (Q_cft_2 Z fm_ h0 n0) := by
 refine MetFree.of_bodySF (plainFor_of_name pn_jdk_internal_util_Preconditions) hisR ?_
 intro p e s m args below meth c s₁ Bd hml0 hP hK
 obtain ⟨rfl, hZ, hh⟩ := hP
 have hx := Bd.exec
 have hby := Bd.bytes
 have hml : c.maxLocals = 4 := hml0
 have hown : s.vm.findClass nm4 = some m.cls := findClass_of_methodNamed Bd.named
 have hnm := (name_of_methodNamed Bd.named Bd.method).1
 have X0 : Stand p l e ({ frames := 0, cells := 0, slots := 0, locals := 0 } : Room) s m #[(ii 0), (ii 2), (ii 2), fm_] below meth c s₁ [] 0 0 := Stand.of_body Bd
 have e0 : s₁.heap = h0 := by rw [← hh, Bd.state]; rfl
 have N0 := Fr.nil n0
 have kp0 : Keep h0 h0 [] := Keep.refl _ _
 have c0 : ∀ t, S_ p e below s₁ m 0 #[vi 0, vi 2, vi 2, .val fm_] [] t → Steps p.tables e below (s₁.setTop (entryFrame m #[(ii 0), (ii 2), (ii 2), fm_] 4)) t := fun t k => castTop (ef_cft_2 m fm_ hfm_) k
 generalize s₁.setTop (entryFrame m #[(ii 0), (ii 2), (ii 2), fm_] 4) = st0 at c0 ⊢
 replace c0 : Kt p e below s₁ st0 (mkF m 0 #[vi 0, vi 2, vi 2, .val fm_] []) := c0
 obtain ⟨fs, hr, hrun, hended, hW, hsame⟩ := X0.leave (v := some (ii 0)) (fun h => by rw [Bd.returns] at h; cases h)
 refine ⟨_, _, c0 _ ?_, hrun, hended, _, _, rfl, ?_, ⟨_, rfl⟩, hW, hsame.mono (by decide) (by decide)⟩
 ·show S_ p e below s₁ m 0 #[vi 0, vi 2, vi 2, .val fm_] [] _
  refine XS.iloadN X0.here hx rfl (hb hby d22_0) rfl ?_
  refine XS.ifNo X0.here hx rfl (hb hby d22_1) rfl rfl ?_
  refine XS.iloadN X0.here hx rfl (hb hby d22_4) rfl ?_
  refine XS.iloadN X0.here hx rfl (hb hby d22_5) rfl ?_
  refine XS.icmpNo X0.here hx rfl (hb hby d22_6) rfl rfl ?_
  refine XS.iloadN X0.here hx rfl (hb hby d22_9) rfl ?_
  refine XS.iloadN X0.here hx rfl (hb hby d22_10) rfl ?_
  refine yC X0.here hx rfl 11 22 rfl (hb hby d22_11) rfl rfl ?_
  show S_ p e below s₁ m 22 #[vi 0, vi 2, vi 2, .val fm_] [] _
  refine XS.iloadN X0.here hx rfl (hb hby d22_22) rfl ?_
  show S_ p e below s₁ m 23 #[vi 0, vi 2, vi 2, .val fm_] [(ii 0)] _
  exact retOut X0 hx Bd.returns rfl (Or.inl ⟨rfl, Or.inl rfl, _, rfl⟩) (hb hby d22_23) hr
 ·show Q_cft_2 Z fm_ h0 n0 _ s₁.heap _
  rw [e0]
  exact ⟨rfl, N0, rfl⟩
theorem ef_cbe_2 (m : MethodId) : entryFrame m #[(ii 0), (ii 2), (ii 2)] 3 = mkF m 0 #[vi 0, vi 2, vi 2] [] := by first | (simp [entryFrame, mkF, argsToLocals, Value.category]; done) | rfl
def Q_cbe_2 (Z : State) (fm_ : Value) (h0 : Heap) (n0 : Nat) (v : Option Value) (h : Heap) (L : List Loc) : Prop := v = none ∧ Fr n0 L ∧ h = h0
set_option maxRecDepth 65536 in
set_option maxHeartbeats 40000000 in
theorem rm_cbe_2 (l : Launch) (Z : State) (a0 : Array Value) (hw : HW Z a0) (ws : List Jvm.Cond) (fm_ : Value) (h0 : Heap) (n0 : Nat) (O0 : Old Z n0 h0) (ZS0_ : Sta Z Z.heap nm4 "SIOOBE_FORMATTER" nm6 fm_) (hfm_ : fm_.isRef = true) :
  MFP l Z (⟨nm0, "checkBoundsBeginEnd", "(III)V"⟩ : MethodName) jdk_42_method_158_code 3 none ({ frames := 1, cells := 0, slots := 0, locals := 15 } : Room) ws #[(ii 0), (ii 2), (ii 2)] h0 (Q_cbe_2 Z fm_ h0 n0) := by
 refine MetFree.of_bodySF (plainFor_of_name pn_java_lang_String) hisR ?_
 intro p e s m args below meth c s₁ Bd hml0 hP hK
 obtain ⟨rfl, hZ, hh⟩ := hP
 have hx := Bd.exec
 have hby := Bd.bytes
 have hml : c.maxLocals = 3 := hml0
 have hown : s.vm.findClass nm0 = some m.cls := findClass_of_methodNamed Bd.named
 have hnm := (name_of_methodNamed Bd.named Bd.method).1
 have X0 : Stand p l e ({ frames := 1, cells := 0, slots := 0, locals := 15 } : Room) s m #[(ii 0), (ii 2), (ii 2)] below meth c s₁ [] 0 0 := Stand.of_body Bd
 have e0 : s₁.heap = h0 := by rw [← hh, Bd.state]; rfl
 have N0 := Fr.nil n0
 have kp0 : Keep h0 h0 [] := Keep.refl _ _
 have c0 : ∀ t, S_ p e below s₁ m 0 #[vi 0, vi 2, vi 2] [] t → Steps p.tables e below (s₁.setTop (entryFrame m #[(ii 0), (ii 2), (ii 2)] 3)) t := fun t k => castTop (ef_cbe_2 m) k
 generalize s₁.setTop (entryFrame m #[(ii 0), (ii 2), (ii 2)] 3) = st0 at c0 ⊢
 replace c0 : Kt p e below s₁ st0 (mkF m 0 #[vi 0, vi 2, vi 2] []) := c0
 have c1 : Kt p e below s₁ st0 (mkF m 3 #[vi 0, vi 2, vi 2] [(ii 2), (ii 2), (ii 0)]) := fun t k => by
  refine c0 t ?_
  show S_ p e below s₁ m 0 #[vi 0, vi 2, vi 2] [] t
  refine XS.iloadN X0.here hx rfl (hb hby d23_0) rfl ?_
  refine XS.iloadN X0.here hx rfl (hb hby d23_1) rfl ?_
  refine XS.iloadN X0.here hx rfl (hb hby d23_2) rfl ?_
  exact k
 obtain ⟨T2, X2, e2, c2⟩ := kgetS X0 hx hZ hown (host := "") (Or.inl (w182 hw)) Via.refl e0 (ZS0_.ext O0.2) c1 rfl (hb hby d23_3)
 obtain ⟨_, T3, L3, X3, hQ3, c3⟩ := kstat X2 hx hZ hown (w184 hw) (w185 hw) (w183 hw) (w186 hw) (rm_cft_2 l Z a0 hw [] fm_ h0 n0 O0 hfm_) e2 c2 hml pd_pIIILjava_util_function_BiFunction_rI [(ii 0), (ii 2), (ii 2), fm_] [] 0 (hb hby d23_6) rfl rfl rfl rfl rfl rfl
 obtain ⟨rfl, N4q, K5⟩ := hQ3
 have N4 := Fr.app N0 N4q
 obtain ⟨fs, hr, hrun, hended, hW, hsame⟩ := X3.leave (v := none) (fun _ => rfl)
 refine ⟨_, _, c3 _ ?_, hrun, hended, _, _, rfl, ?_, ⟨_, rfl⟩, hW, hsame.mono (by decide) (by decide)⟩
 ·show S_ p e below T3 m 9 #[vi 0, vi 2, vi 2] [(ii 0)] _
  refine XS.pop X3.here hx rfl (hb hby d23_9) rfl rfl ?_
  show S_ p e below T3 m 10 #[vi 0, vi 2, vi 2] [] _
  exact X3.returnOut hx Bd.returns (hb hby d23_10) hr
 ·show Q_cbe_2 Z fm_ h0 n0 _ T3.heap _
  rw [K5]
  exact ⟨rfl, N4, rfl⟩
theorem ef_ucbe_2 (m : MethodId) (s_ : Addr) : entryFrame m #[(ii 0), (ii 2), (rr s_)] 3 = mkF m 0 #[vi 0, vi 2, vr s_] [] := by first | (simp [entryFrame, mkF, argsToLocals, Value.category]; done) | rfl
def Q_ucbe_2 (Z : State) (s_ : Addr) (ks_ : ClassId) (vs_ : List Value) (fm_ : Value) (h0 : Heap) (n0 : Nat) (v : Option Value) (h : Heap) (L : List Loc) : Prop := v = none ∧ Fr n0 L ∧ h = h0
set_option maxRecDepth 65536 in
set_option maxHeartbeats 40000000 in
theorem rm_ucbe_2 (l : Launch) (Z : State) (a0 : Array Value) (hw : HW Z a0) (ws : List Jvm.Cond) (s_ : Addr) (ks_ : ClassId) (vs_ : List Value) (fm_ : Value) (h0 : Heap) (n0 : Nat) (O0 : Old Z n0 h0) (A0_ : Arv Z h0 s_ ks_ .byte (4 : Int32) vs_ (ii 0)) (ZS1_ : Sta Z Z.heap nm4 "SIOOBE_FORMATTER" nm6 fm_) (hfm_ : fm_.isRef = true) :
  MFP l Z (⟨nm1, "checkBoundsBeginEnd", "(II[B)V"⟩ : MethodName) jdk_52_method_93_code 3 none ({ frames := 2, cells := 0, slots := 0, locals := 29 } : Room) ws #[(ii 0), (ii 2), (rr s_)] h0 (Q_ucbe_2 Z s_ ks_ vs_ fm_ h0 n0) := by
 refine MetFree.of_bodySF (plainFor_of_name pn_java_lang_StringUTF16) hisR ?_
 intro p e s m args below meth c s₁ Bd hml0 hP hK
 obtain ⟨rfl, hZ, hh⟩ := hP
 have hx := Bd.exec
 have hby := Bd.bytes
 have hml : c.maxLocals = 3 := hml0
 have hown : s.vm.findClass nm1 = some m.cls := findClass_of_methodNamed Bd.named
 have hnm := (name_of_methodNamed Bd.named Bd.method).1
 have X0 : Stand p l e ({ frames := 2, cells := 0, slots := 0, locals := 29 } : Room) s m #[(ii 0), (ii 2), (rr s_)] below meth c s₁ [] 0 0 := Stand.of_body Bd
 have e0 : s₁.heap = h0 := by rw [← hh, Bd.state]; rfl
 have N0 := Fr.nil n0
 have kp0 : Keep h0 h0 [] := Keep.refl _ _
 have c0 : ∀ t, S_ p e below s₁ m 0 #[vi 0, vi 2, vr s_] [] t → Steps p.tables e below (s₁.setTop (entryFrame m #[(ii 0), (ii 2), (rr s_)] 3)) t := fun t k => castTop (ef_ucbe_2 m s_) k
 generalize s₁.setTop (entryFrame m #[(ii 0), (ii 2), (rr s_)] 3) = st0 at c0 ⊢
 replace c0 : Kt p e below s₁ st0 (mkF m 0 #[vi 0, vi 2, vr s_] []) := c0
 have c1 : Kt p e below s₁ st0 (mkF m 3 #[vi 0, vi 2, vr s_] [(rr s_), (ii 2), (ii 0)]) := fun t k => by
  refine c0 t ?_
  show S_ p e below s₁ m 0 #[vi 0, vi 2, vr s_] [] t
  refine XS.iloadN X0.here hx rfl (hb hby d24_0) rfl ?_
  refine XS.iloadN X0.here hx rfl (hb hby d24_1) rfl ?_
  refine XS.aloadN X0.here hx rfl (hb hby d24_2) rfl rfl ?_
  exact k
 obtain ⟨_, T2, L2, X2, hQ2, c2⟩ := kstat X0 hx hZ hown (w176 hw) (w177 hw) (w127 hw) (w178 hw) (rm_u16len_2 l Z a0 hw [] s_ ks_ vs_ h0 n0 O0 A0_) e0 c1 hml pd_pABrI [(rr s_)] [(ii 2), (ii 0)] 2 (hb hby d24_3) rfl rfl rfl rfl rfl rfl
 obtain ⟨rfl, N3q, K4⟩ := hQ2
 have N3 := Fr.app N0 N3q
 obtain ⟨_, T5, L5, X5, hQ5, c5⟩ := kstat X2 hx hZ hown (w179 hw) (w180 hw) (w6 hw) (w181 hw) (rm_cbe_2 l Z a0 hw [] fm_ h0 n0 O0 ZS1_ hfm_) K4 c2 hml pd_pIIIrV [(ii 0), (ii 2), (ii 2)] [] 0 (hb hby d24_6) rfl rfl rfl rfl rfl rfl
 obtain ⟨rfl, N6q, K7⟩ := hQ5
 have N6 := Fr.app N3 N6q
 obtain ⟨fs, hr, hrun, hended, hW, hsame⟩ := X5.leave (v := none) (fun _ => rfl)
 refine ⟨_, _, c5 _ ?_, hrun, hended, _, _, rfl, ?_, ⟨_, rfl⟩, hW, hsame.mono (by decide) (by decide)⟩
 ·show S_ p e below T5 m 9 #[vi 0, vi 2, vr s_] [] _
  exact X5.returnOut hx Bd.returns (hb hby d24_9) hr
 ·show Q_ucbe_2 Z s_ ks_ vs_ fm_ h0 n0 _ T5.heap _
  rw [K7]
  exact ⟨rfl, N6, rfl⟩
theorem ef_uxu_2 (m : MethodId) (s_ : Addr) (ch_ : Int32) : entryFrame m #[(rr s_), (.int ch_), (ii 0), (ii 2)] 5 = mkF m 0 #[vr s_, vi ch_, vi 0, vi 2, u_] [] := by first | (simp [entryFrame, mkF, argsToLocals, Value.category]; done) | rfl
def Q_uxu_2 (Z : State) (s_ : Addr) (ks_ : ClassId) (ch_ : Int32) (c0_ : Int32) (c1_ : Int32) (h0 : Heap) (n0 : Nat) (v : Option Value) (h : Heap) (L : List Loc) : Prop := (∃ (r_ : Int32), v = some (.int r_) ∧ Fr n0 L ∧ h = h0 ∧ ¬ (r_ < (0 : Int32)) ∧ ((c0_ = ch_ ∨ c1_ = ch_))) ∨ (v = some (ii (-1)) ∧ Fr n0 L ∧ h = h0 ∧ ¬ (c0_ = ch_) ∧ ¬ (c1_ = ch_))
set_option maxRecDepth 65536 in
set_option maxHeartbeats 40000000 in
theorem rm_uxu_2 (l : Launch) (Z : State) (a0 : Array Value) (hw : HW Z a0) (ws : List Jvm.Cond) (s_ : Addr) (ks_ : ClassId) (ch_ : Int32) (c0_ : Int32) (c1_ : Int32) (h0 : Heap) (n0 : Nat) (O0 : Old Z n0 h0) (A0_ : Arv Z h0 s_ ks_ .byte (4 : Int32) [(.int (nar .byte ((c0_ >>> ((0 : Int32) &&& 31)).toInt8.toInt32))), (.int (nar .byte ((c0_ >>> ((8 : Int32) &&& 31)).toInt8.toInt32))), (.int (nar .byte ((c1_ >>> ((0 : Int32) &&& 31)).toInt8.toInt32))), (.int (nar .byte ((c1_ >>> ((8 : Int32) &&& 31)).toInt8.toInt32)))] (ii 0)) (ZS1_ : Sta Z Z.heap nm1 "$assertionsDisabled" "Z" (ii 1)) (ZS2_ : Sta Z Z.heap nm1 "HI_BYTE_SHIFT" "I" (ii 0)) (ZS3_ : Sta Z Z.heap nm1 "LO_BYTE_SHIFT" "I" (ii 8)) (hc0_ : nar .char c0_ = c0_) (hc1_ : nar .char c1_ = c1_) :
  MFP l Z (⟨nm1, "indexOfCharUnsafe", "([BIII)I"⟩ : MethodName) jdk_52_method_48_code 5 (some .int) ({ frames := 1, cells := 0, slots := 0, locals := 13 } : Room) ws #[(rr s_), (.int ch_), (ii 0), (ii 2)] h0 (Q_uxu_2 Z s_ ks_ ch_ c0_ c1_ h0 n0) := by
 refine MetFree.of_bodySF (plainFor_of_name pn_java_lang_StringUTF16) hisR ?_
 intro p e s m args below meth c s₁ Bd hml0 hP hK
 obtain ⟨rfl, hZ, hh⟩ := hP
 have hx := Bd.exec
 have hby := Bd.bytes
 have hml : c.maxLocals = 5 := hml0
 have hown : s.vm.findClass nm1 = some m.cls := findClass_of_methodNamed Bd.named
 have hnm := (name_of_methodNamed Bd.named Bd.method).1
 have X0 : Stand p l e ({ frames := 1, cells := 0, slots := 0, locals := 13 } : Room) s m #[(rr s_), (.int ch_), (ii 0), (ii 2)] below meth c s₁ [] 0 0 := Stand.of_body Bd
 have e0 : s₁.heap = h0 := by rw [← hh, Bd.state]; rfl
 have N0 := Fr.nil n0
 have kp0 : Keep h0 h0 [] := Keep.refl _ _
 have c0 : ∀ t, S_ p e below s₁ m 0 #[vr s_, vi ch_, vi 0, vi 2, u_] [] t → Steps p.tables e below (s₁.setTop (entryFrame m #[(rr s_), (.int ch_), (ii 0), (ii 2)] 5)) t := fun t k => castTop (ef_uxu_2 m s_ ch_) k
 generalize s₁.setTop (entryFrame m #[(rr s_), (.int ch_), (ii 0), (ii 2)] 5) = st0 at c0 ⊢
 replace c0 : Kt p e below s₁ st0 (mkF m 0 #[vr s_, vi ch_, vi 0, vi 2, u_] []) := c0
 have c1 : Kt p e below s₁ st0 (mkF m 12 #[vr s_, vi ch_, vi 0, vi 2, vi 0] [(ii 0), (rr s_)]) := fun t k => by
  refine c0 t ?_
  show S_ p e below s₁ m 0 #[vr s_, vi ch_, vi 0, vi 2, u_] [] t
  refine XS.iloadN X0.here hx rfl (hb hby d25_0) rfl ?_
  refine XS.istore X0.here hx rfl (hb hby d25_1) rfl (l' := #[vr s_, vi ch_, vi 0, vi 2, vi 0]) rfl ?_
  refine XS.iload X0.here hx rfl (hb hby d25_3) rfl ?_
  refine XS.iloadN X0.here hx rfl (hb hby d25_5) rfl ?_
  refine XS.icmpNo X0.here hx rfl (hb hby d25_6) rfl rfl ?_
  refine XS.aloadN X0.here hx rfl (hb hby d25_9) rfl rfl ?_
  refine XS.iload X0.here hx rfl (hb hby d25_10) rfl ?_
  exact k
 obtain ⟨_, T2, L2, X2, hQ2, c2⟩ := kstat X0 hx hZ hown (w161 hw) (w162 hw) (w127 hw) (w163 hw) (rm_getc l Z a0 hw [] s_ ks_ (4 : Int32) [(.int (nar .byte ((c0_ >>> ((0 : Int32) &&& 31)).toInt8.toInt32))), (.int (nar .byte ((c0_ >>> ((8 : Int32) &&& 31)).toInt8.toInt32))), (.int (nar .byte ((c1_ >>> ((0 : Int32) &&& 31)).toInt8.toInt32))), (.int (nar .byte ((c1_ >>> ((8 : Int32) &&& 31)).toInt8.toInt32)))] (0 : Int32) ((nar .byte ((c0_ >>> ((0 : Int32) &&& 31)).toInt8.toInt32))) ((nar .byte ((c0_ >>> ((8 : Int32) &&& 31)).toInt8.toInt32))) c0_ h0 n0 O0 A0_ ZS1_ ZS2_ ZS3_ (by decide) (by decide) (by decide) (by decide) rfl rfl (own_get16 hc0_)) e0 c1 hml pd_pABIrC [(rr s_), (ii 0)] [] 0 (hb hby d25_12) rfl rfl rfl rfl rfl rfl
 obtain ⟨rfl, N3q, K4⟩ := hQ2
 have N3 := Fr.app N0 N3q
 have c5 : Kt p e below T2 st0 (mkF m 16 #[vr s_, vi ch_, vi 0, vi 2, vi 0] [(.int ch_), (.int c0_)]) := fun t k => by
  refine c2 t ?_
  show S_ p e below T2 m 15 #[vr s_, vi ch_, vi 0, vi 2, vi 0] [(.int c0_)] t
  refine XS.iloadN X2.here hx rfl (hb hby d25_15) rfl ?_
  exact k
 by_cases hc6 : c0_ = ch_
 ·obtain ⟨fs, hr, hrun, hended, hW, hsame⟩ := X2.leave (v := some (ii 0)) (fun h => by rw [Bd.returns] at h; cases h)
  refine ⟨_, _, c5 _ ?_, hrun, hended, _, _, rfl, ?_, ⟨_, rfl⟩, hW, hsame.mono (by decide) (by decide)⟩
  ·show S_ p e below T2 m 16 #[vr s_, vi ch_, vi 0, vi 2, vi 0] [(.int ch_), (.int c0_)] _
   refine XS.icmpNo X2.here hx rfl (hb hby d25_16) rfl (teq hc6).2 ?_
   refine XS.iload X2.here hx rfl (hb hby d25_19) rfl ?_
   show S_ p e below T2 m 21 #[vr s_, vi ch_, vi 0, vi 2, vi 0] [(ii 0)] _
   exact retOut X2 hx Bd.returns rfl (Or.inl ⟨rfl, Or.inl rfl, _, rfl⟩) (hb hby d25_21) hr
  ·show Q_uxu_2 Z s_ ks_ ch_ c0_ c1_ h0 n0 _ T2.heap _
   rw [K4]
   exact (Or.inl ⟨(0 : Int32), rfl, N3, rfl, (by decide), (Or.inl hc6)⟩)
 ·have c7 : Kt p e below T2 st0 (mkF m 12 #[vr s_, vi ch_, vi 0, vi 2, vi 1] [(ii 1), (rr s_)]) := fun t k => by
   refine c5 t ?_
   show S_ p e below T2 m 16 #[vr s_, vi ch_, vi 0, vi 2, vi 0] [(.int ch_), (.int c0_)] t
   refine yC X2.here hx rfl 16 22 rfl (hb hby d25_16) rfl (feq hc6).2 ?_
   refine XS.iinc X2.here hx rfl (hb hby d25_22) rfl (l' := #[vr s_, vi ch_, vi 0, vi 2, vi 1]) rfl ?_
   refine yG X2.here hx rfl 25 3 rfl (hb hby d25_25) ?_
   refine XS.iload X2.here hx rfl (hb hby d25_3) rfl ?_
   refine XS.iloadN X2.here hx rfl (hb hby d25_5) rfl ?_
   refine XS.icmpNo X2.here hx rfl (hb hby d25_6) rfl rfl ?_
   refine XS.aloadN X2.here hx rfl (hb hby d25_9) rfl rfl ?_
   refine XS.iload X2.here hx rfl (hb hby d25_10) rfl ?_
   exact k
  obtain ⟨_, T8, L8, X8, hQ8, c8⟩ := kstat X2 hx hZ hown (w161 hw) (w162 hw) (w127 hw) (w163 hw) (rm_getc l Z a0 hw [] s_ ks_ (4 : Int32) [(.int (nar .byte ((c0_ >>> ((0 : Int32) &&& 31)).toInt8.toInt32))), (.int (nar .byte ((c0_ >>> ((8 : Int32) &&& 31)).toInt8.toInt32))), (.int (nar .byte ((c1_ >>> ((0 : Int32) &&& 31)).toInt8.toInt32))), (.int (nar .byte ((c1_ >>> ((8 : Int32) &&& 31)).toInt8.toInt32)))] (1 : Int32) ((nar .byte ((c1_ >>> ((0 : Int32) &&& 31)).toInt8.toInt32))) ((nar .byte ((c1_ >>> ((8 : Int32) &&& 31)).toInt8.toInt32))) c1_ h0 n0 O0 A0_ ZS1_ ZS2_ ZS3_ (by decide) (by decide) (by decide) (by decide) rfl rfl (own_get16 hc1_)) K4 c7 hml pd_pABIrC [(rr s_), (ii 1)] [] 0 (hb hby d25_12) rfl rfl rfl rfl rfl rfl
  obtain ⟨rfl, N9q, K10⟩ := hQ8
  have N9 := Fr.app N3 N9q
  have c11 : Kt p e below T8 st0 (mkF m 16 #[vr s_, vi ch_, vi 0, vi 2, vi 1] [(.int ch_), (.int c1_)]) := fun t k => by
   refine c8 t ?_
   show S_ p e below T8 m 15 #[vr s_, vi ch_, vi 0, vi 2, vi 1] [(.int c1_)] t
   refine XS.iloadN X8.here hx rfl (hb hby d25_15) rfl ?_
   exact k
  by_cases hc12 : c1_ = ch_
  ·obtain ⟨fs, hr, hrun, hended, hW, hsame⟩ := X8.leave (v := some (ii 1)) (fun h => by rw [Bd.returns] at h; cases h)
   refine ⟨_, _, c11 _ ?_, hrun, hended, _, _, rfl, ?_, ⟨_, rfl⟩, hW, hsame.mono (by decide) (by decide)⟩
   ·show S_ p e below T8 m 16 #[vr s_, vi ch_, vi 0, vi 2, vi 1] [(.int ch_), (.int c1_)] _
    refine XS.icmpNo X8.here hx rfl (hb hby d25_16) rfl (teq hc12).2 ?_
    refine XS.iload X8.here hx rfl (hb hby d25_19) rfl ?_
    show S_ p e below T8 m 21 #[vr s_, vi ch_, vi 0, vi 2, vi 1] [(ii 1)] _
    exact retOut X8 hx Bd.returns rfl (Or.inl ⟨rfl, Or.inl rfl, _, rfl⟩) (hb hby d25_21) hr
   ·show Q_uxu_2 Z s_ ks_ ch_ c0_ c1_ h0 n0 _ T8.heap _
    rw [K10]
    exact (Or.inl ⟨(1 : Int32), rfl, N9, rfl, (by decide), (Or.inr (hc12))⟩)
  ·obtain ⟨fs, hr, hrun, hended, hW, hsame⟩ := X8.leave (v := some (ii (-1))) (fun h => by rw [Bd.returns] at h; cases h)
   refine ⟨_, _, c11 _ ?_, hrun, hended, _, _, rfl, ?_, ⟨_, rfl⟩, hW, hsame.mono (by decide) (by decide)⟩
   ·show S_ p e below T8 m 16 #[vr s_, vi ch_, vi 0, vi 2, vi 1] [(.int ch_), (.int c1_)] _
    refine yC X8.here hx rfl 16 22 rfl (hb hby d25_16) rfl (feq hc12).2 ?_
    refine XS.iinc X8.here hx rfl (hb hby d25_22) rfl (l' := #[vr s_, vi ch_, vi 0, vi 2, vi 2]) rfl ?_
    refine yG X8.here hx rfl 25 3 rfl (hb hby d25_25) ?_
    refine XS.iload X8.here hx rfl (hb hby d25_3) rfl ?_
    refine XS.iloadN X8.here hx rfl (hb hby d25_5) rfl ?_
    refine yC X8.here hx rfl 6 28 rfl (hb hby d25_6) rfl rfl ?_
    refine XS.iconst X8.here hx rfl (hb hby d25_28) ?_
    show S_ p e below T8 m 29 #[vr s_, vi ch_, vi 0, vi 2, vi 2] [(ii (-1))] _
    exact retOut X8 hx Bd.returns rfl (Or.inl ⟨rfl, Or.inl rfl, _, rfl⟩) (hb hby d25_29) hr
   ·show Q_uxu_2 Z s_ ks_ ch_ c0_ c1_ h0 n0 _ T8.heap _
    rw [K10]
    exact (Or.inr (⟨rfl, N9, rfl, hc6, hc12⟩))
theorem ef_ux_2 (m : MethodId) (s_ : Addr) (ch_ : Int32) : entryFrame m #[(rr s_), (.int ch_), (ii 0), (ii 2)] 4 = mkF m 0 #[vr s_, vi ch_, vi 0, vi 2] [] := by first | (simp [entryFrame, mkF, argsToLocals, Value.category]; done) | rfl
def Q_ux_2 (Z : State) (s_ : Addr) (ks_ : ClassId) (ch_ : Int32) (c0_ : Int32) (c1_ : Int32) (fm_ : Value) (h0 : Heap) (n0 : Nat) (v : Option Value) (h : Heap) (L : List Loc) : Prop := (∃ (r_ : Int32), v = some (.int r_) ∧ Fr n0 L ∧ h = h0 ∧ ¬ (r_ < (0 : Int32)) ∧ ((c0_ = ch_ ∨ c1_ = ch_))) ∨ (v = some (ii (-1)) ∧ Fr n0 L ∧ h = h0 ∧ ¬ (c0_ = ch_) ∧ ¬ (c1_ = ch_))
set_option maxRecDepth 65536 in
set_option maxHeartbeats 40000000 in
theorem rm_ux_2 (l : Launch) (Z : State) (a0 : Array Value) (hw : HW Z a0) (ws : List Jvm.Cond) (s_ : Addr) (ks_ : ClassId) (ch_ : Int32) (c0_ : Int32) (c1_ : Int32) (fm_ : Value) (h0 : Heap) (n0 : Nat) (O0 : Old Z n0 h0) (A0_ : Arv Z h0 s_ ks_ .byte (4 : Int32) [(.int (nar .byte ((c0_ >>> ((0 : Int32) &&& 31)).toInt8.toInt32))), (.int (nar .byte ((c0_ >>> ((8 : Int32) &&& 31)).toInt8.toInt32))), (.int (nar .byte ((c1_ >>> ((0 : Int32) &&& 31)).toInt8.toInt32))), (.int (nar .byte ((c1_ >>> ((8 : Int32) &&& 31)).toInt8.toInt32)))] (ii 0)) (ZS1_ : Sta Z Z.heap nm1 "$assertionsDisabled" "Z" (ii 1)) (ZS2_ : Sta Z Z.heap nm1 "HI_BYTE_SHIFT" "I" (ii 0)) (ZS3_ : Sta Z Z.heap nm1 "LO_BYTE_SHIFT" "I" (ii 8)) (hc0_ : nar .char c0_ = c0_) (hc1_ : nar .char c1_ = c1_) (ZS6_ : Sta Z Z.heap nm4 "SIOOBE_FORMATTER" nm6 fm_) (hfm_ : fm_.isRef = true) :
  MFP l Z (⟨nm1, "indexOfChar", "([BIII)I"⟩ : MethodName) jdk_52_method_47_code 4 (some .int) ({ frames := 3, cells := 0, slots := 0, locals := 43 } : Room) ws #[(rr s_), (.int ch_), (ii 0), (ii 2)] h0 (Q_ux_2 Z s_ ks_ ch_ c0_ c1_ fm_ h0 n0) := by
 refine MetFree.of_bodySF (plainFor_of_name pn_java_lang_StringUTF16) hisR ?_
 intro p e s m args below meth c s₁ Bd hml0 hP hK
 obtain ⟨rfl, hZ, hh⟩ := hP
 have hx := Bd.exec
 have hby := Bd.bytes
 have hml : c.maxLocals = 4 := hml0
 have hown : s.vm.findClass nm1 = some m.cls := findClass_of_methodNamed Bd.named
 have hnm := (name_of_methodNamed Bd.named Bd.method).1
 have X0 : Stand p l e ({ frames := 3, cells := 0, slots := 0, locals := 43 } : Room) s m #[(rr s_), (.int ch_), (ii 0), (ii 2)] below meth c s₁ [] 0 0 := Stand.of_body Bd
 have e0 : s₁.heap = h0 := by rw [← hh, Bd.state]; rfl
 have N0 := Fr.nil n0
 have kp0 : Keep h0 h0 [] := Keep.refl _ _
 have c0 : ∀ t, S_ p e below s₁ m 0 #[vr s_, vi ch_, vi 0, vi 2] [] t → Steps p.tables e below (s₁.setTop (entryFrame m #[(rr s_), (.int ch_), (ii 0), (ii 2)] 4)) t := fun t k => castTop (ef_ux_2 m s_ ch_) k
 generalize s₁.setTop (entryFrame m #[(rr s_), (.int ch_), (ii 0), (ii 2)] 4) = st0 at c0 ⊢
 replace c0 : Kt p e below s₁ st0 (mkF m 0 #[vr s_, vi ch_, vi 0, vi 2] []) := c0
 have c1 : Kt p e below s₁ st0 (mkF m 3 #[vr s_, vi ch_, vi 0, vi 2] [(rr s_), (ii 2), (ii 0)]) := fun t k => by
  refine c0 t ?_
  show S_ p e below s₁ m 0 #[vr s_, vi ch_, vi 0, vi 2] [] t
  refine XS.iloadN X0.here hx rfl (hb hby d26_0) rfl ?_
  refine XS.iloadN X0.here hx rfl (hb hby d26_1) rfl ?_
  refine XS.aloadN X0.here hx rfl (hb hby d26_2) rfl rfl ?_
  exact k
 obtain ⟨_, T2, L2, X2, hQ2, c2⟩ := kstat X0 hx hZ hown (w173 hw) (w174 hw) (w127 hw) (w175 hw) (rm_ucbe_2 l Z a0 hw [] s_ ks_ [(.int (nar .byte ((c0_ >>> ((0 : Int32) &&& 31)).toInt8.toInt32))), (.int (nar .byte ((c0_ >>> ((8 : Int32) &&& 31)).toInt8.toInt32))), (.int (nar .byte ((c1_ >>> ((0 : Int32) &&& 31)).toInt8.toInt32))), (.int (nar .byte ((c1_ >>> ((8 : Int32) &&& 31)).toInt8.toInt32)))] fm_ h0 n0 O0 A0_ ZS6_ hfm_) e0 c1 hml pd_pIIABrV [(ii 0), (ii 2), (rr s_)] [] 0 (hb hby d26_3) rfl rfl rfl rfl rfl rfl
 obtain ⟨rfl, N3q, K4⟩ := hQ2
 have N3 := Fr.app N0 N3q
 have c5 : Kt p e below T2 st0 (mkF m 10 #[vr s_, vi ch_, vi 0, vi 2] [(ii 2), (ii 0), (.int ch_), (rr s_)]) := fun t k => by
  refine c2 t ?_
  show S_ p e below T2 m 6 #[vr s_, vi ch_, vi 0, vi 2] [] t
  refine XS.aloadN X2.here hx rfl (hb hby d26_6) rfl rfl ?_
  refine XS.iloadN X2.here hx rfl (hb hby d26_7) rfl ?_
  refine XS.iloadN X2.here hx rfl (hb hby d26_8) rfl ?_
  refine XS.iloadN X2.here hx rfl (hb hby d26_9) rfl ?_
  exact k
 obtain ⟨_, T6, L6, X6, hQ6, c6⟩ := kstat X2 hx hZ hown (w187 hw) (w188 hw) (w127 hw) (w189 hw) (rm_uxu_2 l Z a0 hw [] s_ ks_ ch_ c0_ c1_ h0 n0 O0 A0_ ZS1_ ZS2_ ZS3_ hc0_ hc1_) K4 c5 hml pd_pABIIIrI [(rr s_), (.int ch_), (ii 0), (ii 2)] [] 0 (hb hby d26_10) rfl rfl rfl rfl rfl rfl
 rcases hQ6 with hQ6 | hQ6
 ·obtain ⟨i7, rfl, N8q, K9, p10, p11⟩ := hQ6
  have N8 := Fr.app N3 N8q
  obtain ⟨fs, hr, hrun, hended, hW, hsame⟩ := X6.leave (v := some (.int i7)) (fun h => by rw [Bd.returns] at h; cases h)
  refine ⟨_, _, c6 _ ?_, hrun, hended, _, _, rfl, ?_, ⟨_, rfl⟩, hW, hsame.mono (by decide) (by decide)⟩
  ·show S_ p e below T6 m 13 #[vr s_, vi ch_, vi 0, vi 2] [(.int i7)] _
   exact retOut X6 hx Bd.returns rfl (Or.inl ⟨rfl, Or.inl rfl, _, rfl⟩) (hb hby d26_13) hr
  ·show Q_ux_2 Z s_ ks_ ch_ c0_ c1_ fm_ h0 n0 _ T6.heap _
   rw [K9]
   exact (Or.inl ⟨i7, rfl, N8, rfl, p10, p11⟩)
 ·obtain ⟨rfl, N12q, K13, p14, p15⟩ := hQ6
  have N12 := Fr.app N3 N12q
  obtain ⟨fs, hr, hrun, hended, hW, hsame⟩ := X6.leave (v := some (ii (-1))) (fun h => by rw [Bd.returns] at h; cases h)
  refine ⟨_, _, c6 _ ?_, hrun, hended, _, _, rfl, ?_, ⟨_, rfl⟩, hW, hsame.mono (by decide) (by decide)⟩
  ·show S_ p e below T6 m 13 #[vr s_, vi ch_, vi 0, vi 2] [(ii (-1))] _
   exact retOut X6 hx Bd.returns rfl (Or.inl ⟨rfl, Or.inl rfl, _, rfl⟩) (hb hby d26_13) hr
  ·show Q_ux_2 Z s_ ks_ ch_ c0_ c1_ fm_ h0 n0 _ T6.heap _
   rw [K13]
   exact (Or.inr (⟨rfl, N12, rfl, p14, p15⟩))
theorem ef_ui_2 (m : MethodId) (s_ : Addr) (ch_ : Int32) : entryFrame m #[(rr s_), (.int ch_), (ii 0), (ii 2)] 4 = mkF m 0 #[vr s_, vi ch_, vi 0, vi 2] [] := by first | (simp [entryFrame, mkF, argsToLocals, Value.category]; done) | rfl
def Q_ui_2 (Z : State) (s_ : Addr) (ks_ : ClassId) (ch_ : Int32) (c0_ : Int32) (c1_ : Int32) (fm_ : Value) (h0 : Heap) (n0 : Nat) (v : Option Value) (h : Heap) (L : List Loc) : Prop := (∃ (r_ : Int32), v = some (.int r_) ∧ Fr n0 L ∧ h = h0 ∧ ¬ (r_ < (0 : Int32)) ∧ ((c0_ = ch_ ∨ c1_ = ch_))) ∨ (v = some (ii (-1)) ∧ Fr n0 L ∧ h = h0 ∧ ¬ (c0_ = ch_) ∧ ¬ (c1_ = ch_))
set_option maxRecDepth 65536 in
set_option maxHeartbeats 40000000 in
theorem rm_ui_2 (l : Launch) (Z : State) (a0 : Array Value) (hw : HW Z a0) (ws : List Jvm.Cond) (s_ : Addr) (ks_ : ClassId) (ch_ : Int32) (c0_ : Int32) (c1_ : Int32) (fm_ : Value) (h0 : Heap) (n0 : Nat) (O0 : Old Z n0 h0) (A0_ : Arv Z h0 s_ ks_ .byte (4 : Int32) [(.int (nar .byte ((c0_ >>> ((0 : Int32) &&& 31)).toInt8.toInt32))), (.int (nar .byte ((c0_ >>> ((8 : Int32) &&& 31)).toInt8.toInt32))), (.int (nar .byte ((c1_ >>> ((0 : Int32) &&& 31)).toInt8.toInt32))), (.int (nar .byte ((c1_ >>> ((8 : Int32) &&& 31)).toInt8.toInt32)))] (ii 0)) (ZS1_ : Sta Z Z.heap nm1 "$assertionsDisabled" "Z" (ii 1)) (ZS2_ : Sta Z Z.heap nm1 "HI_BYTE_SHIFT" "I" (ii 0)) (ZS3_ : Sta Z Z.heap nm1 "LO_BYTE_SHIFT" "I" (ii 8)) (hc0_ : nar .char c0_ = c0_) (hc1_ : nar .char c1_ = c1_) (ZS6_ : Sta Z Z.heap nm4 "SIOOBE_FORMATTER" nm6 fm_) (hfm_ : fm_.isRef = true) (h3_ : ch_ < (65536 : Int32)) :
  MFP l Z (⟨nm1, "indexOf", "([BIII)I"⟩ : MethodName) jdk_52_method_40_code 4 (some .int) ({ frames := 4, cells := 0, slots := 0, locals := 58 } : Room) ws #[(rr s_), (.int ch_), (ii 0), (ii 2)] h0 (Q_ui_2 Z s_ ks_ ch_ c0_ c1_ fm_ h0 n0) := by
 refine MetFree.of_bodySF (plainFor_of_name pn_java_lang_StringUTF16) hisR ?_
 intro p e s m args below meth c s₁ Bd hml0 hP hK
 obtain ⟨rfl, hZ, hh⟩ := hP
 have hx := Bd.exec
 have hby := Bd.bytes
 have hml : c.maxLocals = 4 := hml0
 have hown : s.vm.findClass nm1 = some m.cls := findClass_of_methodNamed Bd.named
 have hnm := (name_of_methodNamed Bd.named Bd.method).1
 have X0 : Stand p l e ({ frames := 4, cells := 0, slots := 0, locals := 58 } : Room) s m #[(rr s_), (.int ch_), (ii 0), (ii 2)] below meth c s₁ [] 0 0 := Stand.of_body Bd
 have e0 : s₁.heap = h0 := by rw [← hh, Bd.state]; rfl
 have N0 := Fr.nil n0
 have kp0 : Keep h0 h0 [] := Keep.refl _ _
 have c0 : ∀ t, S_ p e below s₁ m 0 #[vr s_, vi ch_, vi 0, vi 2] [] t → Steps p.tables e below (s₁.setTop (entryFrame m #[(rr s_), (.int ch_), (ii 0), (ii 2)] 4)) t := fun t k => castTop (ef_ui_2 m s_ ch_) k
 generalize s₁.setTop (entryFrame m #[(rr s_), (.int ch_), (ii 0), (ii 2)] 4) = st0 at c0 ⊢
 replace c0 : Kt p e below s₁ st0 (mkF m 0 #[vr s_, vi ch_, vi 0, vi 2] []) := c0
 have c1 : Kt p e below s₁ st0 (mkF m 2 #[vr s_, vi ch_, vi 0, vi 2] [(ii 0), (ii 0)]) := fun t k => by
  refine c0 t ?_
  show S_ p e below s₁ m 0 #[vr s_, vi ch_, vi 0, vi 2] [] t
  refine XS.iloadN X0.here hx rfl (hb hby d27_0) rfl ?_
  refine XS.iconst X0.here hx rfl (hb hby d27_1) ?_
  exact k
 obtain ⟨_, T2, L2, X2, hQ2, c2⟩ := kstat X0 hx hZ hown (w167 hw) (w65 hw) (w66 hw) (w67 hw) (rm_mx0 l Z a0 hw []  h0 n0 O0 ) e0 c1 hml pd_pIIrI [(ii 0), (ii 0)] [] 0 (hb hby d27_2) rfl rfl rfl rfl rfl rfl
 obtain ⟨rfl, N3q, K4⟩ := hQ2
 have N3 := Fr.app N0 N3q
 have c5 : Kt p e below T2 st0 (mkF m 11 #[vr s_, vi ch_, vi 0, vi 2] [(ii 2), (ii 2)]) := fun t k => by
  refine c2 t ?_
  show S_ p e below T2 m 5 #[vr s_, vi ch_, vi 0, vi 2] [(ii 0)] t
  refine XS.istoreN X2.here hx rfl (hb hby d27_5) rfl (l' := #[vr s_, vi ch_, vi 0, vi 2]) rfl ?_
  refine XS.iloadN X2.here hx rfl (hb hby d27_6) rfl ?_
  refine XS.aloadN X2.here hx rfl (hb hby d27_7) rfl rfl ?_
  refine ldLen X2 hx hZ K4 A0_ rfl rfl (hb hby d27_8) ?_
  refine XS.iconst X2.here hx rfl (hb hby d27_9) ?_
  refine XS.ishr X2.here hx rfl (hb hby d27_10) rfl ?_
  exact k
 obtain ⟨_, T6, L6, X6, hQ6, c6⟩ := kstat X2 hx hZ hown (w168 hw) (w69 hw) (w66 hw) (w70 hw) (rm_mn2 l Z a0 hw []  h0 n0 O0 ) K4 c5 hml pd_pIIrI [(ii 2), (ii 2)] [] 0 (hb hby d27_11) rfl rfl rfl rfl rfl rfl
 obtain ⟨rfl, N7q, K8⟩ := hQ6
 have N7 := Fr.app N3 N7q
 have c9 : Kt p e below T6 st0 (mkF m 32 #[vr s_, vi ch_, vi 0, vi 2] [(ii 2), (ii 0), (.int ch_), (rr s_)]) := fun t k => by
  refine c6 t ?_
  show S_ p e below T6 m 14 #[vr s_, vi ch_, vi 0, vi 2] [(ii 2)] t
  refine XS.istoreN X6.here hx rfl (hb hby d27_14) rfl (l' := #[vr s_, vi ch_, vi 0, vi 2]) rfl ?_
  refine XS.iloadN X6.here hx rfl (hb hby d27_15) rfl ?_
  refine XS.iloadN X6.here hx rfl (hb hby d27_16) rfl ?_
  refine yC X6.here hx rfl 17 22 rfl (hb hby d27_17) rfl rfl ?_
  refine XS.iloadN X6.here hx rfl (hb hby d27_22) rfl ?_
  show S_ p e below T6 m 23 #[vr s_, vi ch_, vi 0, vi 2] [(.int ch_)] t
  refine X6.ldcInt hx hown (mvT hZ (w169 hw)) (g := (mkF m 23 #[vr s_, vi ch_, vi 0, vi 2] [(.int ch_)])) rfl (hb hby d27_23) _ ?_
  refine XS.icmpNo X6.here hx rfl (hb hby d27_25) rfl (tlt h3_).2.1 ?_
  refine XS.aloadN X6.here hx rfl (hb hby d27_28) rfl rfl ?_
  refine XS.iloadN X6.here hx rfl (hb hby d27_29) rfl ?_
  refine XS.iloadN X6.here hx rfl (hb hby d27_30) rfl ?_
  refine XS.iloadN X6.here hx rfl (hb hby d27_31) rfl ?_
  exact k
 obtain ⟨_, T10, L10, X10, hQ10, c10⟩ := kstat X6 hx hZ hown (w170 hw) (w171 hw) (w127 hw) (w172 hw) (rm_ux_2 l Z a0 hw [] s_ ks_ ch_ c0_ c1_ fm_ h0 n0 O0 A0_ ZS1_ ZS2_ ZS3_ hc0_ hc1_ ZS6_ hfm_) K8 c9 hml pd_pABIIIrI [(rr s_), (.int ch_), (ii 0), (ii 2)] [] 0 (hb hby d27_32) rfl rfl rfl rfl rfl rfl
 rcases hQ10 with hQ10 | hQ10
 ·obtain ⟨i11, rfl, N12q, K13, p14, p15⟩ := hQ10
  have N12 := Fr.app N7 N12q
  obtain ⟨fs, hr, hrun, hended, hW, hsame⟩ := X10.leave (v := some (.int i11)) (fun h => by rw [Bd.returns] at h; cases h)
  refine ⟨_, _, c10 _ ?_, hrun, hended, _, _, rfl, ?_, ⟨_, rfl⟩, hW, hsame.mono (by decide) (by decide)⟩
  ·show S_ p e below T10 m 35 #[vr s_, vi ch_, vi 0, vi 2] [(.int i11)] _
   exact retOut X10 hx Bd.returns rfl (Or.inl ⟨rfl, Or.inl rfl, _, rfl⟩) (hb hby d27_35) hr
  ·show Q_ui_2 Z s_ ks_ ch_ c0_ c1_ fm_ h0 n0 _ T10.heap _
   rw [K13]
   exact (Or.inl ⟨i11, rfl, N12, rfl, p14, p15⟩)
 ·obtain ⟨rfl, N16q, K17, p18, p19⟩ := hQ10
  have N16 := Fr.app N7 N16q
  obtain ⟨fs, hr, hrun, hended, hW, hsame⟩ := X10.leave (v := some (ii (-1))) (fun h => by rw [Bd.returns] at h; cases h)
  refine ⟨_, _, c10 _ ?_, hrun, hended, _, _, rfl, ?_, ⟨_, rfl⟩, hW, hsame.mono (by decide) (by decide)⟩
  ·show S_ p e below T10 m 35 #[vr s_, vi ch_, vi 0, vi 2] [(ii (-1))] _
   exact retOut X10 hx Bd.returns rfl (Or.inl ⟨rfl, Or.inl rfl, _, rfl⟩) (hb hby d27_35) hr
  ·show Q_ui_2 Z s_ ks_ ch_ c0_ c1_ fm_ h0 n0 _ T10.heap _
   rw [K17]
   exact (Or.inr (⟨rfl, N16, rfl, p18, p19⟩))
theorem ef_lenU_2 (m : MethodId) (x_ : Addr) : entryFrame m #[(rr x_)] 1 = mkF m 0 #[vr x_] [] := by first | (simp [entryFrame, mkF, argsToLocals, Value.category]; done) | rfl
def Q_lenU_2 (Z : State) (x_ : Addr) (s_ : Addr) (ks_ : ClassId) (vs_ : List Value) (z_ : Int32) (h0 : Heap) (n0 : Nat) (v : Option Value) (h : Heap) (L : List Loc) : Prop := v = some (ii 2) ∧ Fr n0 L ∧ h = h0
set_option maxRecDepth 65536 in
set_option maxHeartbeats 40000000 in
theorem rm_lenU_2 (l : Launch) (Z : State) (a0 : Array Value) (hw : HW Z a0) (ws : List Jvm.Cond) (x_ : Addr) (s_ : Addr) (ks_ : ClassId) (vs_ : List Value) (z_ : Int32) (h0 : Heap) (n0 : Nat) (O0 : Old Z n0 h0) (E0_ : Exa Z h0 x_ nm0) (F1_ : Fld Z h0 x_ nm0 "coder" "B" (ii 1)) (F2_ : Fld Z h0 x_ nm0 "value" "[B" (rr s_)) (A3_ : Arv Z h0 s_ ks_ .byte (4 : Int32) vs_ (ii 0)) (ZS4_ : Sta Z Z.heap nm0 "COMPACT_STRINGS" "Z" (.int z_)) (hz_ : ¬ (z_ = (0 : Int32))) :
  MFP l Z (⟨nm0, "length", "()I"⟩ : MethodName) jdk_42_method_54_code 1 (some .int) ({ frames := 1, cells := 0, slots := 0, locals := 13 } : Room) ws #[(rr x_)] h0 (Q_lenU_2 Z x_ s_ ks_ vs_ z_ h0 n0) := by
 refine MetFree.of_bodySF (plainFor_of_name pn_java_lang_String) hisR ?_
 intro p e s m args below meth c s₁ Bd hml0 hP hK
 obtain ⟨rfl, hZ, hh⟩ := hP
 have hx := Bd.exec
 have hby := Bd.bytes
 have hml : c.maxLocals = 1 := hml0
 have hown : s.vm.findClass nm0 = some m.cls := findClass_of_methodNamed Bd.named
 have hnm := (name_of_methodNamed Bd.named Bd.method).1
 have X0 : Stand p l e ({ frames := 1, cells := 0, slots := 0, locals := 13 } : Room) s m #[(rr x_)] below meth c s₁ [] 0 0 := Stand.of_body Bd
 have e0 : s₁.heap = h0 := by rw [← hh, Bd.state]; rfl
 have N0 := Fr.nil n0
 have kp0 : Keep h0 h0 [] := Keep.refl _ _
 have c0 : ∀ t, S_ p e below s₁ m 0 #[vr x_] [] t → Steps p.tables e below (s₁.setTop (entryFrame m #[(rr x_)] 1)) t := fun t k => castTop (ef_lenU_2 m x_) k
 generalize s₁.setTop (entryFrame m #[(rr x_)] 1) = st0 at c0 ⊢
 replace c0 : Kt p e below s₁ st0 (mkF m 0 #[vr x_] []) := c0
 have c1 : Kt p e below s₁ st0 (mkF m 1 #[vr x_] [(rr x_)]) := fun t k => by
  refine c0 t ?_
  show S_ p e below s₁ m 0 #[vr x_] [] t
  refine XS.aloadN X0.here hx rfl (hb hby d17_0) rfl rfl ?_
  exact k
 obtain ⟨T2, X2, e2, c2⟩ := kget X0 hx hZ hown (host := "") (Or.inl (w24 hw)) Via.refl e0 F2_ c1 rfl rfl (hb hby d17_1)
 have c3 : Kt p e below T2 st0 (mkF m 6 #[vr x_] [(rr x_), (ii 4)]) := fun t k => by
  refine c2 t ?_
  show S_ p e below T2 m 4 #[vr x_] [(rr s_)] t
  refine ldLen X2 hx hZ e2 A3_ rfl rfl (hb hby d17_4) ?_
  refine XS.aloadN X2.here hx rfl (hb hby d17_5) rfl rfl ?_
  exact k
 obtain ⟨_, T4, L4, X4, hQ4, c4⟩ := kvirt X2 hx hZ hown (w52 hw) (w53 hw) (w55 hw) (w54 hw) (w56 hw) (w6 hw) (rm_codU l Z a0 hw [] x_ z_ h0 n0 O0 F1_ ZS4_ hz_) e2 E0_ c3 hml pd_prB [] [(ii 4)] 1 (hb hby d17_6) rfl rfl rfl rfl rfl rfl
 obtain ⟨rfl, N5q, K6⟩ := hQ4
 have N5 := Fr.app N0 N5q
 obtain ⟨fs, hr, hrun, hended, hW, hsame⟩ := X4.leave (v := some (ii 2)) (fun h => by rw [Bd.returns] at h; cases h)
 refine ⟨_, _, c4 _ ?_, hrun, hended, _, _, rfl, ?_, ⟨_, rfl⟩, hW, hsame.mono (by decide) (by decide)⟩
 ·show S_ p e below T4 m 9 #[vr x_] [(ii 1), (ii 4)] _
  refine XS.ishr X4.here hx rfl (hb hby d17_9) rfl ?_
  show S_ p e below T4 m 10 #[vr x_] [(ii 2)] _
  exact retOut X4 hx Bd.returns rfl (Or.inl ⟨rfl, Or.inl rfl, _, rfl⟩) (hb hby d17_10) hr
 ·show Q_lenU_2 Z x_ s_ ks_ vs_ z_ h0 n0 _ T4.heap _
  rw [K6]
  exact ⟨rfl, N5, rfl⟩
theorem ef_six2U_2 (m : MethodId) (x_ : Addr) (ch_ : Int32) : entryFrame m #[(rr x_), (.int ch_), (ii 0)] 3 = mkF m 0 #[vr x_, vi ch_, vi 0] [] := by first | (simp [entryFrame, mkF, argsToLocals, Value.category]; done) | rfl
def Q_six2U_2 (Z : State) (x_ : Addr) (z_ : Int32) (s_ : Addr) (ks_ : ClassId) (ch_ : Int32) (c0_ : Int32) (c1_ : Int32) (fm_ : Value) (h0 : Heap) (n0 : Nat) (v : Option Value) (h : Heap) (L : List Loc) : Prop := (∃ (r_ : Int32), v = some (.int r_) ∧ Fr n0 L ∧ h = h0 ∧ ¬ (r_ < (0 : Int32)) ∧ ((c0_ = ch_ ∨ c1_ = ch_))) ∨ (v = some (ii (-1)) ∧ Fr n0 L ∧ h = h0 ∧ ¬ (c0_ = ch_) ∧ ¬ (c1_ = ch_))
set_option maxRecDepth 65536 in
set_option maxHeartbeats 40000000 in
theorem rm_six2U_2 (l : Launch) (Z : State) (a0 : Array Value) (hw : HW Z a0) (ws : List Jvm.Cond) (x_ : Addr) (z_ : Int32) (s_ : Addr) (ks_ : ClassId) (ch_ : Int32) (c0_ : Int32) (c1_ : Int32) (fm_ : Value) (h0 : Heap) (n0 : Nat) (O0 : Old Z n0 h0) (E0_ : Exa Z h0 x_ nm0) (F1_ : Fld Z h0 x_ nm0 "coder" "B" (ii 1)) (F2_ : Fld Z h0 x_ nm0 "value" "[B" (rr s_)) (A3_ : Arv Z h0 s_ ks_ .byte (4 : Int32) [(.int (nar .byte ((c0_ >>> ((0 : Int32) &&& 31)).toInt8.toInt32))), (.int (nar .byte ((c0_ >>> ((8 : Int32) &&& 31)).toInt8.toInt32))), (.int (nar .byte ((c1_ >>> ((0 : Int32) &&& 31)).toInt8.toInt32))), (.int (nar .byte ((c1_ >>> ((8 : Int32) &&& 31)).toInt8.toInt32)))] (ii 0)) (ZS4_ : Sta Z Z.heap nm0 "COMPACT_STRINGS" "Z" (.int z_)) (hz_ : ¬ (z_ = (0 : Int32))) (ZS6_ : Sta Z Z.heap nm1 "$assertionsDisabled" "Z" (ii 1)) (ZS7_ : Sta Z Z.heap nm1 "HI_BYTE_SHIFT" "I" (ii 0)) (ZS8_ : Sta Z Z.heap nm1 "LO_BYTE_SHIFT" "I" (ii 8)) (hc0_ : nar .char c0_ = c0_) (hc1_ : nar .char c1_ = c1_) (ZS11_ : Sta Z Z.heap nm4 "SIOOBE_FORMATTER" nm6 fm_) (hfm_ : fm_.isRef = true) (h3_ : ch_ < (65536 : Int32)) :
  MFP l Z (⟨nm0, "indexOf", "(II)I"⟩ : MethodName) jdk_42_method_80_code 3 (some .int) ({ frames := 5, cells := 0, slots := 0, locals := 73 } : Room) ws #[(rr x_), (.int ch_), (ii 0)] h0 (Q_six2U_2 Z x_ z_ s_ ks_ ch_ c0_ c1_ fm_ h0 n0) := by
 refine MetFree.of_bodySF (plainFor_of_name pn_java_lang_String) hisR ?_
 intro p e s m args below meth c s₁ Bd hml0 hP hK
 obtain ⟨rfl, hZ, hh⟩ := hP
 have hx := Bd.exec
 have hby := Bd.bytes
 have hml : c.maxLocals = 3 := hml0
 have hown : s.vm.findClass nm0 = some m.cls := findClass_of_methodNamed Bd.named
 have hnm := (name_of_methodNamed Bd.named Bd.method).1
 have X0 : Stand p l e ({ frames := 5, cells := 0, slots := 0, locals := 73 } : Room) s m #[(rr x_), (.int ch_), (ii 0)] below meth c s₁ [] 0 0 := Stand.of_body Bd
 have e0 : s₁.heap = h0 := by rw [← hh, Bd.state]; rfl
 have N0 := Fr.nil n0
 have kp0 : Keep h0 h0 [] := Keep.refl _ _
 have c0 : ∀ t, S_ p e below s₁ m 0 #[vr x_, vi ch_, vi 0] [] t → Steps p.tables e below (s₁.setTop (entryFrame m #[(rr x_), (.int ch_), (ii 0)] 3)) t := fun t k => castTop (ef_six2U_2 m x_ ch_) k
 generalize s₁.setTop (entryFrame m #[(rr x_), (.int ch_), (ii 0)] 3) = st0 at c0 ⊢
 replace c0 : Kt p e below s₁ st0 (mkF m 0 #[vr x_, vi ch_, vi 0] []) := c0
 have c1 : Kt p e below s₁ st0 (mkF m 1 #[vr x_, vi ch_, vi 0] [(rr x_)]) := fun t k => by
  refine c0 t ?_
  show S_ p e below s₁ m 0 #[vr x_, vi ch_, vi 0] [] t
  refine XS.aloadN X0.here hx rfl (hb hby d18_0) rfl rfl ?_
  exact k
 obtain ⟨_, T2, L2, X2, hQ2, c2⟩ := kvirt X0 hx hZ hown (w41 hw) (w42 hw) (w44 hw) (w43 hw) (w45 hw) (w6 hw) (rm_islU l Z a0 hw [] x_ z_ h0 n0 O0 F1_ ZS4_ hz_) e0 E0_ c1 hml pd_prZ [] [] 0 (hb hby d18_1) rfl rfl rfl rfl rfl rfl
 obtain ⟨rfl, N3q, K4⟩ := hQ2
 have N3 := Fr.app N0 N3q
 have c5 : Kt p e below T2 st0 (mkF m 24 #[vr x_, vi ch_, vi 0] [(rr x_)]) := fun t k => by
  refine c2 t ?_
  show S_ p e below T2 m 4 #[vr x_, vi ch_, vi 0] [(ii 0)] t
  refine yI X2.here hx rfl 4 23 rfl (hb hby d18_4) rfl rfl ?_
  refine XS.aloadN X2.here hx rfl (hb hby d18_23) rfl rfl ?_
  exact k
 obtain ⟨T6, X6, e6, c6⟩ := kget X2 hx hZ hown (host := "") (Or.inl (w24 hw)) Via.refl K4 F2_ c5 rfl rfl (hb hby d18_24)
 have c7 : Kt p e below T6 st0 (mkF m 30 #[vr x_, vi ch_, vi 0] [(rr x_), (ii 0), (.int ch_), (rr s_)]) := fun t k => by
  refine c6 t ?_
  show S_ p e below T6 m 27 #[vr x_, vi ch_, vi 0] [(rr s_)] t
  refine XS.iloadN X6.here hx rfl (hb hby d18_27) rfl ?_
  refine XS.iloadN X6.here hx rfl (hb hby d18_28) rfl ?_
  refine XS.aloadN X6.here hx rfl (hb hby d18_29) rfl rfl ?_
  exact k
 obtain ⟨_, T8, L8, X8, hQ8, c8⟩ := kvirt X6 hx hZ hown (w47 hw) (w48 hw) (w50 hw) (w49 hw) (w51 hw) (w6 hw) (rm_lenU_2 l Z a0 hw [] x_ s_ ks_ [(.int (nar .byte ((c0_ >>> ((0 : Int32) &&& 31)).toInt8.toInt32))), (.int (nar .byte ((c0_ >>> ((8 : Int32) &&& 31)).toInt8.toInt32))), (.int (nar .byte ((c1_ >>> ((0 : Int32) &&& 31)).toInt8.toInt32))), (.int (nar .byte ((c1_ >>> ((8 : Int32) &&& 31)).toInt8.toInt32)))] z_ h0 n0 O0 E0_ F1_ F2_ A3_ ZS4_ hz_) e6 E0_ c7 hml pd_prI [] [(ii 0), (.int ch_), (rr s_)] 3 (hb hby d18_30) rfl rfl rfl rfl rfl rfl
 obtain ⟨rfl, N9q, K10⟩ := hQ8
 have N9 := Fr.app N3 N9q
 obtain ⟨_, T11, L11, X11, hQ11, c11⟩ := kstat X8 hx hZ hown (w164 hw) (w165 hw) (w127 hw) (w166 hw) (rm_ui_2 l Z a0 hw [] s_ ks_ ch_ c0_ c1_ fm_ h0 n0 O0 A3_ ZS6_ ZS7_ ZS8_ hc0_ hc1_ ZS11_ hfm_ h3_) K10 c8 hml pd_pABIIIrI [(rr s_), (.int ch_), (ii 0), (ii 2)] [] 0 (hb hby d18_33) rfl rfl rfl rfl rfl rfl
 rcases hQ11 with hQ11 | hQ11
 ·obtain ⟨i12, rfl, N13q, K14, p15, p16⟩ := hQ11
  have N13 := Fr.app N9 N13q
  obtain ⟨fs, hr, hrun, hended, hW, hsame⟩ := X11.leave (v := some (.int i12)) (fun h => by rw [Bd.returns] at h; cases h)
  refine ⟨_, _, c11 _ ?_, hrun, hended, _, _, rfl, ?_, ⟨_, rfl⟩, hW, hsame.mono (by decide) (by decide)⟩
  ·show S_ p e below T11 m 36 #[vr x_, vi ch_, vi 0] [(.int i12)] _
   exact retOut X11 hx Bd.returns rfl (Or.inl ⟨rfl, Or.inl rfl, _, rfl⟩) (hb hby d18_36) hr
  ·show Q_six2U_2 Z x_ z_ s_ ks_ ch_ c0_ c1_ fm_ h0 n0 _ T11.heap _
   rw [K14]
   exact (Or.inl ⟨i12, rfl, N13, rfl, p15, p16⟩)
 ·obtain ⟨rfl, N17q, K18, p19, p20⟩ := hQ11
  have N17 := Fr.app N9 N17q
  obtain ⟨fs, hr, hrun, hended, hW, hsame⟩ := X11.leave (v := some (ii (-1))) (fun h => by rw [Bd.returns] at h; cases h)
  refine ⟨_, _, c11 _ ?_, hrun, hended, _, _, rfl, ?_, ⟨_, rfl⟩, hW, hsame.mono (by decide) (by decide)⟩
  ·show S_ p e below T11 m 36 #[vr x_, vi ch_, vi 0] [(ii (-1))] _
   exact retOut X11 hx Bd.returns rfl (Or.inl ⟨rfl, Or.inl rfl, _, rfl⟩) (hb hby d18_36) hr
  ·show Q_six2U_2 Z x_ z_ s_ ks_ ch_ c0_ c1_ fm_ h0 n0 _ T11.heap _
   rw [K18]
   exact (Or.inr (⟨rfl, N17, rfl, p19, p20⟩))
theorem ef_six1U_2 (m : MethodId) (x_ : Addr) (ch_ : Int32) : entryFrame m #[(rr x_), (.int ch_)] 2 = mkF m 0 #[vr x_, vi ch_] [] := by first | (simp [entryFrame, mkF, argsToLocals, Value.category]; done) | rfl
def Q_six1U_2 (Z : State) (x_ : Addr) (z_ : Int32) (s_ : Addr) (ks_ : ClassId) (ch_ : Int32) (c0_ : Int32) (c1_ : Int32) (fm_ : Value) (h0 : Heap) (n0 : Nat) (v : Option Value) (h : Heap) (L : List Loc) : Prop := (∃ (r_ : Int32), v = some (.int r_) ∧ Fr n0 L ∧ h = h0 ∧ ¬ (r_ < (0 : Int32)) ∧ ((c0_ = ch_ ∨ c1_ = ch_))) ∨ (v = some (ii (-1)) ∧ Fr n0 L ∧ h = h0 ∧ ¬ (c0_ = ch_) ∧ ¬ (c1_ = ch_))
set_option maxRecDepth 65536 in
set_option maxHeartbeats 40000000 in
theorem rm_six1U_2 (l : Launch) (Z : State) (a0 : Array Value) (hw : HW Z a0) (ws : List Jvm.Cond) (x_ : Addr) (z_ : Int32) (s_ : Addr) (ks_ : ClassId) (ch_ : Int32) (c0_ : Int32) (c1_ : Int32) (fm_ : Value) (h0 : Heap) (n0 : Nat) (O0 : Old Z n0 h0) (E0_ : Exa Z h0 x_ nm0) (F1_ : Fld Z h0 x_ nm0 "coder" "B" (ii 1)) (F2_ : Fld Z h0 x_ nm0 "value" "[B" (rr s_)) (A3_ : Arv Z h0 s_ ks_ .byte (4 : Int32) [(.int (nar .byte ((c0_ >>> ((0 : Int32) &&& 31)).toInt8.toInt32))), (.int (nar .byte ((c0_ >>> ((8 : Int32) &&& 31)).toInt8.toInt32))), (.int (nar .byte ((c1_ >>> ((0 : Int32) &&& 31)).toInt8.toInt32))), (.int (nar .byte ((c1_ >>> ((8 : Int32) &&& 31)).toInt8.toInt32)))] (ii 0)) (ZS4_ : Sta Z Z.heap nm0 "COMPACT_STRINGS" "Z" (.int z_)) (hz_ : ¬ (z_ = (0 : Int32))) (ZS6_ : Sta Z Z.heap nm1 "$assertionsDisabled" "Z" (ii 1)) (ZS7_ : Sta Z Z.heap nm1 "HI_BYTE_SHIFT" "I" (ii 0)) (ZS8_ : Sta Z Z.heap nm1 "LO_BYTE_SHIFT" "I" (ii 8)) (hc0_ : nar .char c0_ = c0_) (hc1_ : nar .char c1_ = c1_) (ZS11_ : Sta Z Z.heap nm4 "SIOOBE_FORMATTER" nm6 fm_) (hfm_ : fm_.isRef = true) (h3_ : ch_ < (65536 : Int32)) :
  MFP l Z (⟨nm0, "indexOf", "(I)I"⟩ : MethodName) jdk_42_method_79_code 2 (some .int) ({ frames := 6, cells := 0, slots := 0, locals := 87 } : Room) ws #[(rr x_), (.int ch_)] h0 (Q_six1U_2 Z x_ z_ s_ ks_ ch_ c0_ c1_ fm_ h0 n0) := by
 refine MetFree.of_bodySF (plainFor_of_name pn_java_lang_String) hisR ?_
 intro p e s m args below meth c s₁ Bd hml0 hP hK
 obtain ⟨rfl, hZ, hh⟩ := hP
 have hx := Bd.exec
 have hby := Bd.bytes
 have hml : c.maxLocals = 2 := hml0
 have hown : s.vm.findClass nm0 = some m.cls := findClass_of_methodNamed Bd.named
 have hnm := (name_of_methodNamed Bd.named Bd.method).1
 have X0 : Stand p l e ({ frames := 6, cells := 0, slots := 0, locals := 87 } : Room) s m #[(rr x_), (.int ch_)] below meth c s₁ [] 0 0 := Stand.of_body Bd
 have e0 : s₁.heap = h0 := by rw [← hh, Bd.state]; rfl
 have N0 := Fr.nil n0
 have kp0 : Keep h0 h0 [] := Keep.refl _ _
 have c0 : ∀ t, S_ p e below s₁ m 0 #[vr x_, vi ch_] [] t → Steps p.tables e below (s₁.setTop (entryFrame m #[(rr x_), (.int ch_)] 2)) t := fun t k => castTop (ef_six1U_2 m x_ ch_) k
 generalize s₁.setTop (entryFrame m #[(rr x_), (.int ch_)] 2) = st0 at c0 ⊢
 replace c0 : Kt p e below s₁ st0 (mkF m 0 #[vr x_, vi ch_] []) := c0
 have c1 : Kt p e below s₁ st0 (mkF m 3 #[vr x_, vi ch_] [(ii 0), (.int ch_), (rr x_)]) := fun t k => by
  refine c0 t ?_
  show S_ p e below s₁ m 0 #[vr x_, vi ch_] [] t
  refine XS.aloadN X0.here hx rfl (hb hby d19_0) rfl rfl ?_
  refine XS.iloadN X0.here hx rfl (hb hby d19_1) rfl ?_
  refine XS.iconst X0.here hx rfl (hb hby d19_2) ?_
  exact k
 obtain ⟨_, T2, L2, X2, hQ2, c2⟩ := kvirt X0 hx hZ hown (w36 hw) (w37 hw) (w39 hw) (w38 hw) (w40 hw) (w6 hw) (rm_six2U_2 l Z a0 hw [] x_ z_ s_ ks_ ch_ c0_ c1_ fm_ h0 n0 O0 E0_ F1_ F2_ A3_ ZS4_ hz_ ZS6_ ZS7_ ZS8_ hc0_ hc1_ ZS11_ hfm_ h3_) e0 E0_ c1 hml pd_pIIrI [(.int ch_), (ii 0)] [] 0 (hb hby d19_3) rfl rfl rfl rfl rfl rfl
 rcases hQ2 with hQ2 | hQ2
 ·obtain ⟨i3, rfl, N4q, K5, p6, p7⟩ := hQ2
  have N4 := Fr.app N0 N4q
  obtain ⟨fs, hr, hrun, hended, hW, hsame⟩ := X2.leave (v := some (.int i3)) (fun h => by rw [Bd.returns] at h; cases h)
  refine ⟨_, _, c2 _ ?_, hrun, hended, _, _, rfl, ?_, ⟨_, rfl⟩, hW, hsame.mono (by decide) (by decide)⟩
  ·show S_ p e below T2 m 6 #[vr x_, vi ch_] [(.int i3)] _
   exact retOut X2 hx Bd.returns rfl (Or.inl ⟨rfl, Or.inl rfl, _, rfl⟩) (hb hby d19_6) hr
  ·show Q_six1U_2 Z x_ z_ s_ ks_ ch_ c0_ c1_ fm_ h0 n0 _ T2.heap _
   rw [K5]
   exact (Or.inl ⟨i3, rfl, N4, rfl, p6, p7⟩)
 ·obtain ⟨rfl, N8q, K9, p10, p11⟩ := hQ2
  have N8 := Fr.app N0 N8q
  obtain ⟨fs, hr, hrun, hended, hW, hsame⟩ := X2.leave (v := some (ii (-1))) (fun h => by rw [Bd.returns] at h; cases h)
  refine ⟨_, _, c2 _ ?_, hrun, hended, _, _, rfl, ?_, ⟨_, rfl⟩, hW, hsame.mono (by decide) (by decide)⟩
  ·show S_ p e below T2 m 6 #[vr x_, vi ch_] [(ii (-1))] _
   exact retOut X2 hx Bd.returns rfl (Or.inl ⟨rfl, Or.inl rfl, _, rfl⟩) (hb hby d19_6) hr
  ·show Q_six1U_2 Z x_ z_ s_ ks_ ch_ c0_ c1_ fm_ h0 n0 _ T2.heap _
   rw [K9]
   exact (Or.inr (⟨rfl, N8, rfl, p10, p11⟩))
theorem ef_mn3 (m : MethodId) : entryFrame m #[(ii 3), (ii 3)] 2 = mkF m 0 #[vi 3, vi 3] [] := by first | (simp [entryFrame, mkF, argsToLocals, Value.category]; done) | rfl
def Q_mn3 (Z : State) (h0 : Heap) (n0 : Nat) (v : Option Value) (h : Heap) (L : List Loc) : Prop := v = some (ii 3) ∧ Fr n0 L ∧ h = h0
set_option maxRecDepth 65536 in
set_option maxHeartbeats 40000000 in
theorem rm_mn3 (l : Launch) (Z : State) (a0 : Array Value) (hw : HW Z a0) (ws : List Jvm.Cond) (h0 : Heap) (n0 : Nat) (O0 : Old Z n0 h0) :
  MFP l Z (⟨"java/lang/Math", "min", "(II)I"⟩ : MethodName) jdk_29_method_69_code 2 (some .int) ({ frames := 0, cells := 0, slots := 0, locals := 0 } : Room) ws #[(ii 3), (ii 3)] h0 (Q_mn3 Z h0 n0) := by
 refine MetFree.of_bodySF (Jvm.Free.JP.mathPlain rfl (by decide +kernel)) hisR ?_
 intro p e s m args below meth c s₁ Bd hml0 hP hK
 obtain ⟨rfl, hZ, hh⟩ := hP
 have hx := Bd.exec
 have hby := Bd.bytes
 have hml : c.maxLocals = 2 := hml0
 have hown : s.vm.findClass "java/lang/Math" = some m.cls := findClass_of_methodNamed Bd.named
 have hnm := (name_of_methodNamed Bd.named Bd.method).1
 have X0 : Stand p l e ({ frames := 0, cells := 0, slots := 0, locals := 0 } : Room) s m #[(ii 3), (ii 3)] below meth c s₁ [] 0 0 := Stand.of_body Bd
 have e0 : s₁.heap = h0 := by rw [← hh, Bd.state]; rfl
 have N0 := Fr.nil n0
 have kp0 : Keep h0 h0 [] := Keep.refl _ _
 have c0 : ∀ t, S_ p e below s₁ m 0 #[vi 3, vi 3] [] t → Steps p.tables e below (s₁.setTop (entryFrame m #[(ii 3), (ii 3)] 2)) t := fun t k => castTop (ef_mn3 m) k
 generalize s₁.setTop (entryFrame m #[(ii 3), (ii 3)] 2) = st0 at c0 ⊢
 replace c0 : Kt p e below s₁ st0 (mkF m 0 #[vi 3, vi 3] []) := c0
 obtain ⟨fs, hr, hrun, hended, hW, hsame⟩ := X0.leave (v := some (ii 3)) (fun h => by rw [Bd.returns] at h; cases h)
 refine ⟨_, _, c0 _ ?_, hrun, hended, _, _, rfl, ?_, ⟨_, rfl⟩, hW, hsame.mono (by decide) (by decide)⟩
 ·show S_ p e below s₁ m 0 #[vi 3, vi 3] [] _
  refine XS.iloadN X0.here hx rfl (hb hby d15_0) rfl ?_
  refine XS.iloadN X0.here hx rfl (hb hby d15_1) rfl ?_
  refine XS.icmpNo X0.here hx rfl (hb hby d15_2) rfl rfl ?_
  refine XS.iloadN X0.here hx rfl (hb hby d15_5) rfl ?_
  refine yG X0.here hx rfl 6 10 rfl (hb hby d15_6) ?_
  show S_ p e below s₁ m 10 #[vi 3, vi 3] [(ii 3)] _
  exact retOut X0 hx Bd.returns rfl (Or.inl ⟨rfl, Or.inl rfl, _, rfl⟩) (hb hby d15_10) hr
 ·show Q_mn3 Z h0 n0 _ s₁.heap _
  rw [e0]
  exact ⟨rfl, N0, rfl⟩
theorem ef_l1x_3 (m : MethodId) (s_ : Addr) (ch_ : Int32) : entryFrame m #[(rr s_), (.int ch_), (ii 0), (ii 3)] 6 = mkF m 0 #[vr s_, vi ch_, vi 0, vi 3, u_, u_] [] := by first | (simp [entryFrame, mkF, argsToLocals, Value.category]; done) | rfl
def Q_l1x_3 (Z : State) (s_ : Addr) (ks_ : ClassId) (ch_ : Int32) (v0_ : Int32) (v1_ : Int32) (v2_ : Int32) (h0 : Heap) (n0 : Nat) (v : Option Value) (h : Heap) (L : List Loc) : Prop := (∃ (r_ : Int32), v = some (.int r_) ∧ Fr n0 L ∧ h = h0 ∧ ¬ (r_ < (0 : Int32)) ∧ ((v0_ = (ch_.toInt8.toInt32) ∨ v1_ = (ch_.toInt8.toInt32) ∨ v2_ = (ch_.toInt8.toInt32)))) ∨ (v = some (ii (-1)) ∧ Fr n0 L ∧ h = h0 ∧ ¬ (v0_ = (ch_.toInt8.toInt32)) ∧ ¬ (v1_ = (ch_.toInt8.toInt32)) ∧ ¬ (v2_ = (ch_.toInt8.toInt32)))
set_option maxRecDepth 65536 in
set_option maxHeartbeats 40000000 in
theorem rm_l1x_3 (l : Launch) (Z : State) (a0 : Array Value) (hw : HW Z a0) (ws : List Jvm.Cond) (s_ : Addr) (ks_ : ClassId) (ch_ : Int32) (v0_ : Int32) (v1_ : Int32) (v2_ : Int32) (h0 : Heap) (n0 : Nat) (O0 : Old Z n0 h0) (A0_ : Arv Z h0 s_ ks_ .byte (3 : Int32) [(.int v0_), (.int v1_), (.int v2_)] (ii 0)) :
  MFP l Z (⟨nm5, "indexOfChar", "([BIII)I"⟩ : MethodName) jdk_43_method_23_code 6 (some .int) ({ frames := 0, cells := 0, slots := 0, locals := 0 } : Room) ws #[(rr s_), (.int ch_), (ii 0), (ii 3)] h0 (Q_l1x_3 Z s_ ks_ ch_ v0_ v1_ v2_ h0 n0) := by
 refine MetFree.of_bodySF (plainFor_of_name pn_java_lang_StringLatin1) hisR ?_
 intro p e s m args below meth c s₁ Bd hml0 hP hK
 obtain ⟨rfl, hZ, hh⟩ := hP
 have hx := Bd.exec
 have hby := Bd.bytes
 have hml : c.maxLocals = 6 := hml0
 have hown : s.vm.findClass nm5 = some m.cls := findClass_of_methodNamed Bd.named
 have hnm := (name_of_methodNamed Bd.named Bd.method).1
 have X0 : Stand p l e ({ frames := 0, cells := 0, slots := 0, locals := 0 } : Room) s m #[(rr s_), (.int ch_), (ii 0), (ii 3)] below meth c s₁ [] 0 0 := Stand.of_body Bd
 have e0 : s₁.heap = h0 := by rw [← hh, Bd.state]; rfl
 have N0 := Fr.nil n0
 have kp0 : Keep h0 h0 [] := Keep.refl _ _
 have c0 : ∀ t, S_ p e below s₁ m 0 #[vr s_, vi ch_, vi 0, vi 3, u_, u_] [] t → Steps p.tables e below (s₁.setTop (entryFrame m #[(rr s_), (.int ch_), (ii 0), (ii 3)] 6)) t := fun t k => castTop (ef_l1x_3 m s_ ch_) k
 generalize s₁.setTop (entryFrame m #[(rr s_), (.int ch_), (ii 0), (ii 3)] 6) = st0 at c0 ⊢
 replace c0 : Kt p e below s₁ st0 (mkF m 0 #[vr s_, vi ch_, vi 0, vi 3, u_, u_] []) := c0
 have c1 : Kt p e below s₁ st0 (mkF m 19 #[vr s_, vi ch_, vi 0, vi 3, .val (.int (ch_.toInt8.toInt32)), vi 0] [(.int (ch_.toInt8.toInt32)), (.int v0_)]) := fun t k => by
  refine c0 t ?_
  show S_ p e below s₁ m 0 #[vr s_, vi ch_, vi 0, vi 3, u_, u_] [] t
  refine XS.iloadN X0.here hx rfl (hb hby d20_0) rfl ?_
  refine XS.i2b X0.here hx rfl (hb hby d20_1) rfl ?_
  refine XS.istore X0.here hx rfl (hb hby d20_2) rfl (l' := #[vr s_, vi ch_, vi 0, vi 3, .val (.int (ch_.toInt8.toInt32)), u_]) rfl ?_
  refine XS.iloadN X0.here hx rfl (hb hby d20_4) rfl ?_
  refine XS.istore X0.here hx rfl (hb hby d20_5) rfl (l' := #[vr s_, vi ch_, vi 0, vi 3, .val (.int (ch_.toInt8.toInt32)), vi 0]) rfl ?_
  refine XS.iload X0.here hx rfl (hb hby d20_7) rfl ?_
  refine XS.iloadN X0.here hx rfl (hb hby d20_9) rfl ?_
  refine XS.icmpNo X0.here hx rfl (hb hby d20_10) rfl rfl ?_
  show S_ p e below s₁ m 13 #[vr s_, vi ch_, vi 0, vi 3, .val (.int (ch_.toInt8.toInt32)), vi 0] [] t
  refine XS.aloadN X0.here hx rfl (hb hby d20_13) rfl rfl ?_
  refine XS.iload X0.here hx rfl (hb hby d20_14) rfl ?_
  refine ldB X0 hx hZ e0 A0_ (v := (.int v0_)) (by decide) (by decide) rfl rfl rfl (hb hby d20_16) ?_
  refine XS.iload X0.here hx rfl (hb hby d20_17) rfl ?_
  exact k
 by_cases hc2 : v0_ = (ch_.toInt8.toInt32)
 ·obtain ⟨fs, hr, hrun, hended, hW, hsame⟩ := X0.leave (v := some (ii 0)) (fun h => by rw [Bd.returns] at h; cases h)
  refine ⟨_, _, c1 _ ?_, hrun, hended, _, _, rfl, ?_, ⟨_, rfl⟩, hW, hsame.mono (by decide) (by decide)⟩
  ·show S_ p e below s₁ m 19 #[vr s_, vi ch_, vi 0, vi 3, .val (.int (ch_.toInt8.toInt32)), vi 0] [(.int (ch_.toInt8.toInt32)), (.int v0_)] _
   refine XS.icmpNo X0.here hx rfl (hb hby d20_19) rfl (teq hc2).2 ?_
   refine XS.iload X0.here hx rfl (hb hby d20_22) rfl ?_
   show S_ p e below s₁ m 24 #[vr s_, vi ch_, vi 0, vi 3, .val (.int (ch_.toInt8.toInt32)), vi 0] [(ii 0)] _
   exact retOut X0 hx Bd.returns rfl (Or.inl ⟨rfl, Or.inl rfl, _, rfl⟩) (hb hby d20_24) hr
  ·show Q_l1x_3 Z s_ ks_ ch_ v0_ v1_ v2_ h0 n0 _ s₁.heap _
   rw [e0]
   exact (Or.inl ⟨(0 : Int32), rfl, N0, rfl, (by decide), (Or.inl hc2)⟩)
 ·have c3 : Kt p e below s₁ st0 (mkF m 19 #[vr s_, vi ch_, vi 0, vi 3, .val (.int (ch_.toInt8.toInt32)), vi 1] [(.int (ch_.toInt8.toInt32)), (.int v1_)]) := fun t k => by
   refine c1 t ?_
   show S_ p e below s₁ m 19 #[vr s_, vi ch_, vi 0, vi 3, .val (.int (ch_.toInt8.toInt32)), vi 0] [(.int (ch_.toInt8.toInt32)), (.int v0_)] t
   refine yC X0.here hx rfl 19 25 rfl (hb hby d20_19) rfl (feq hc2).2 ?_
   refine XS.iinc X0.here hx rfl (hb hby d20_25) rfl (l' := #[vr s_, vi ch_, vi 0, vi 3, .val (.int (ch_.toInt8.toInt32)), vi 1]) rfl ?_
   refine yG X0.here hx rfl 28 7 rfl (hb hby d20_28) ?_
   refine XS.iload X0.here hx rfl (hb hby d20_7) rfl ?_
   refine XS.iloadN X0.here hx rfl (hb hby d20_9) rfl ?_
   refine XS.icmpNo X0.here hx rfl (hb hby d20_10) rfl rfl ?_
   refine XS.aloadN X0.here hx rfl (hb hby d20_13) rfl rfl ?_
   refine XS.iload X0.here hx rfl (hb hby d20_14) rfl ?_
   show S_ p e below s₁ m 16 #[vr s_, vi ch_, vi 0, vi 3, .val (.int (ch_.toInt8.toInt32)), vi 1] [(ii 1), (rr s_)] t
   refine ldB X0 hx hZ e0 A0_ (v := (.int v1_)) (by decide) (by decide) rfl rfl rfl (hb hby d20_16) ?_
   refine XS.iload X0.here hx rfl (hb hby d20_17) rfl ?_
   exact k
  by_cases hc4 : v1_ = (ch_.toInt8.toInt32)
  ·obtain ⟨fs, hr, hrun, hended, hW, hsame⟩ := X0.leave (v := some (ii 1)) (fun h => by rw [Bd.returns] at h; cases h)
   refine ⟨_, _, c3 _ ?_, hrun, hended, _, _, rfl, ?_, ⟨_, rfl⟩, hW, hsame.mono (by decide) (by decide)⟩
   ·show S_ p e below s₁ m 19 #[vr s_, vi ch_, vi 0, vi 3, .val (.int (ch_.toInt8.toInt32)), vi 1] [(.int (ch_.toInt8.toInt32)), (.int v1_)] _
    refine XS.icmpNo X0.here hx rfl (hb hby d20_19) rfl (teq hc4).2 ?_
    refine XS.iload X0.here hx rfl (hb hby d20_22) rfl ?_
    show S_ p e below s₁ m 24 #[vr s_, vi ch_, vi 0, vi 3, .val (.int (ch_.toInt8.toInt32)), vi 1] [(ii 1)] _
    exact retOut X0 hx Bd.returns rfl (Or.inl ⟨rfl, Or.inl rfl, _, rfl⟩) (hb hby d20_24) hr
   ·show Q_l1x_3 Z s_ ks_ ch_ v0_ v1_ v2_ h0 n0 _ s₁.heap _
    rw [e0]
    exact (Or.inl ⟨(1 : Int32), rfl, N0, rfl, (by decide), (Or.inr (Or.inl hc4))⟩)
  ·have c5 : Kt p e below s₁ st0 (mkF m 19 #[vr s_, vi ch_, vi 0, vi 3, .val (.int (ch_.toInt8.toInt32)), vi 2] [(.int (ch_.toInt8.toInt32)), (.int v2_)]) := fun t k => by
    refine c3 t ?_
    show S_ p e below s₁ m 19 #[vr s_, vi ch_, vi 0, vi 3, .val (.int (ch_.toInt8.toInt32)), vi 1] [(.int (ch_.toInt8.toInt32)), (.int v1_)] t
    refine yC X0.here hx rfl 19 25 rfl (hb hby d20_19) rfl (feq hc4).2 ?_
    refine XS.iinc X0.here hx rfl (hb hby d20_25) rfl (l' := #[vr s_, vi ch_, vi 0, vi 3, .val (.int (ch_.toInt8.toInt32)), vi 2]) rfl ?_
    refine yG X0.here hx rfl 28 7 rfl (hb hby d20_28) ?_
    refine XS.iload X0.here hx rfl (hb hby d20_7) rfl ?_
    refine XS.iloadN X0.here hx rfl (hb hby d20_9) rfl ?_
    refine XS.icmpNo X0.here hx rfl (hb hby d20_10) rfl rfl ?_
    refine XS.aloadN X0.here hx rfl (hb hby d20_13) rfl rfl ?_
    refine XS.iload X0.here hx rfl (hb hby d20_14) rfl ?_
    show S_ p e below s₁ m 16 #[vr s_, vi ch_, vi 0, vi 3, .val (.int (ch_.toInt8.toInt32)), vi 2] [(ii 2), (rr s_)] t
    refine ldB X0 hx hZ e0 A0_ (v := (.int v2_)) (by decide) (by decide) rfl rfl rfl (hb hby d20_16) ?_
    refine XS.iload X0.here hx rfl (hb hby d20_17) rfl ?_
    exact k
   by_cases hc6 : v2_ = (ch_.toInt8.toInt32)
   ·obtain ⟨fs, hr, hrun, hended, hW, hsame⟩ := X0.leave (v := some (ii 2)) (fun h => by rw [Bd.returns] at h; cases h)
    refine ⟨_, _, c5 _ ?_, hrun, hended, _, _, rfl, ?_, ⟨_, rfl⟩, hW, hsame.mono (by decide) (by decide)⟩
    ·show S_ p e below s₁ m 19 #[vr s_, vi ch_, vi 0, vi 3, .val (.int (ch_.toInt8.toInt32)), vi 2] [(.int (ch_.toInt8.toInt32)), (.int v2_)] _
     refine XS.icmpNo X0.here hx rfl (hb hby d20_19) rfl (teq hc6).2 ?_
     refine XS.iload X0.here hx rfl (hb hby d20_22) rfl ?_
     show S_ p e below s₁ m 24 #[vr s_, vi ch_, vi 0, vi 3, .val (.int (ch_.toInt8.toInt32)), vi 2] [(ii 2)] _
     exact retOut X0 hx Bd.returns rfl (Or.inl ⟨rfl, Or.inl rfl, _, rfl⟩) (hb hby d20_24) hr
    ·show Q_l1x_3 Z s_ ks_ ch_ v0_ v1_ v2_ h0 n0 _ s₁.heap _
     rw [e0]
     exact (Or.inl ⟨(2 : Int32), rfl, N0, rfl, (by decide), (Or.inr (Or.inr (hc6)))⟩)
   ·obtain ⟨fs, hr, hrun, hended, hW, hsame⟩ := X0.leave (v := some (ii (-1))) (fun h => by rw [Bd.returns] at h; cases h)
    refine ⟨_, _, c5 _ ?_, hrun, hended, _, _, rfl, ?_, ⟨_, rfl⟩, hW, hsame.mono (by decide) (by decide)⟩
    ·show S_ p e below s₁ m 19 #[vr s_, vi ch_, vi 0, vi 3, .val (.int (ch_.toInt8.toInt32)), vi 2] [(.int (ch_.toInt8.toInt32)), (.int v2_)] _
     refine yC X0.here hx rfl 19 25 rfl (hb hby d20_19) rfl (feq hc6).2 ?_
     refine XS.iinc X0.here hx rfl (hb hby d20_25) rfl (l' := #[vr s_, vi ch_, vi 0, vi 3, .val (.int (ch_.toInt8.toInt32)), vi 3]) rfl ?_
     refine yG X0.here hx rfl 28 7 rfl (hb hby d20_28) ?_
     refine XS.iload X0.here hx rfl (hb hby d20_7) rfl ?_
     refine XS.iloadN X0.here hx rfl (hb hby d20_9) rfl ?_
     refine yC X0.here hx rfl 10 31 rfl (hb hby d20_10) rfl rfl ?_
     refine XS.iconst X0.here hx rfl (hb hby d20_31) ?_
     show S_ p e below s₁ m 32 #[vr s_, vi ch_, vi 0, vi 3, .val (.int (ch_.toInt8.toInt32)), vi 3] [(ii (-1))] _
     exact retOut X0 hx Bd.returns rfl (Or.inl ⟨rfl, Or.inl rfl, _, rfl⟩) (hb hby d20_32) hr
    ·show Q_l1x_3 Z s_ ks_ ch_ v0_ v1_ v2_ h0 n0 _ s₁.heap _
     rw [e0]
     exact (Or.inr (⟨rfl, N0, rfl, hc2, hc4, hc6⟩))
theorem ef_l1i_3 (m : MethodId) (s_ : Addr) (ch_ : Int32) : entryFrame m #[(rr s_), (.int ch_), (ii 0), (ii 3)] 4 = mkF m 0 #[vr s_, vi ch_, vi 0, vi 3] [] := by first | (simp [entryFrame, mkF, argsToLocals, Value.category]; done) | rfl
def Q_l1i_3 (Z : State) (s_ : Addr) (ks_ : ClassId) (ch_ : Int32) (v0_ : Int32) (v1_ : Int32) (v2_ : Int32) (h0 : Heap) (n0 : Nat) (v : Option Value) (h : Heap) (L : List Loc) : Prop := (∃ (r_ : Int32), v = some (.int r_) ∧ Fr n0 L ∧ h = h0 ∧ ¬ (r_ < (0 : Int32)) ∧ ((v0_ = (ch_.toInt8.toInt32) ∨ v1_ = (ch_.toInt8.toInt32) ∨ v2_ = (ch_.toInt8.toInt32)))) ∨ (v = some (ii (-1)) ∧ Fr n0 L ∧ h = h0 ∧ ¬ (v0_ = (ch_.toInt8.toInt32)) ∧ ¬ (v1_ = (ch_.toInt8.toInt32)) ∧ ¬ (v2_ = (ch_.toInt8.toInt32)))
set_option maxRecDepth 65536 in
set_option maxHeartbeats 40000000 in
theorem rm_l1i_3 (l : Launch) (Z : State) (a0 : Array Value) (hw : HW Z a0) (ws : List Jvm.Cond) (s_ : Addr) (ks_ : ClassId) (ch_ : Int32) (v0_ : Int32) (v1_ : Int32) (v2_ : Int32) (h0 : Heap) (n0 : Nat) (O0 : Old Z n0 h0) (A0_ : Arv Z h0 s_ ks_ .byte (3 : Int32) [(.int v0_), (.int v1_), (.int v2_)] (ii 0)) (h1_ : ¬ (ch_ < (0 : Int32))) (h2_ : ¬ ((255 : Int32) < ch_)) :
  MFP l Z (⟨nm5, "indexOf", "([BIII)I"⟩ : MethodName) jdk_43_method_22_code 4 (some .int) ({ frames := 1, cells := 0, slots := 0, locals := 17 } : Room) ws #[(rr s_), (.int ch_), (ii 0), (ii 3)] h0 (Q_l1i_3 Z s_ ks_ ch_ v0_ v1_ v2_ h0 n0) := by
 refine MetFree.of_bodySF (plainFor_of_name pn_java_lang_StringLatin1) hisR ?_
 intro p e s m args below meth c s₁ Bd hml0 hP hK
 obtain ⟨rfl, hZ, hh⟩ := hP
 have hx := Bd.exec
 have hby := Bd.bytes
 have hml : c.maxLocals = 4 := hml0
 have hown : s.vm.findClass nm5 = some m.cls := findClass_of_methodNamed Bd.named
 have hnm := (name_of_methodNamed Bd.named Bd.method).1
 have X0 : Stand p l e ({ frames := 1, cells := 0, slots := 0, locals := 17 } : Room) s m #[(rr s_), (.int ch_), (ii 0), (ii 3)] below meth c s₁ [] 0 0 := Stand.of_body Bd
 have e0 : s₁.heap = h0 := by rw [← hh, Bd.state]; rfl
 have N0 := Fr.nil n0
 have kp0 : Keep h0 h0 [] := Keep.refl _ _
 have c0 : ∀ t, S_ p e below s₁ m 0 #[vr s_, vi ch_, vi 0, vi 3] [] t → Steps p.tables e below (s₁.setTop (entryFrame m #[(rr s_), (.int ch_), (ii 0), (ii 3)] 4)) t := fun t k => castTop (ef_l1i_3 m s_ ch_) k
 generalize s₁.setTop (entryFrame m #[(rr s_), (.int ch_), (ii 0), (ii 3)] 4) = st0 at c0 ⊢
 replace c0 : Kt p e below s₁ st0 (mkF m 0 #[vr s_, vi ch_, vi 0, vi 3] []) := c0
 have c1 : Kt p e below s₁ st0 (mkF m 1 #[vr s_, vi ch_, vi 0, vi 3] [(.int ch_)]) := fun t k => by
  refine c0 t ?_
  show S_ p e below s₁ m 0 #[vr s_, vi ch_, vi 0, vi 3] [] t
  refine XS.iloadN X0.here hx rfl (hb hby d16_0) rfl ?_
  exact k
 obtain ⟨_, T2, L2, X2, hQ2, c2⟩ := kstat X0 hx hZ hown (w61 hw) (w62 hw) (w59 hw) (w63 hw) (rm_ceI l Z a0 hw [] ch_ h0 n0 O0 h1_ h2_) e0 c1 hml pd_pIrZ [(.int ch_)] [] 0 (hb hby d16_1) rfl rfl rfl rfl rfl rfl
 obtain ⟨rfl, N3q, K4⟩ := hQ2
 have N3 := Fr.app N0 N3q
 have c5 : Kt p e below T2 st0 (mkF m 11 #[vr s_, vi ch_, vi 0, vi 3] [(ii 0), (ii 0)]) := fun t k => by
  refine c2 t ?_
  show S_ p e below T2 m 4 #[vr s_, vi ch_, vi 0, vi 3] [(ii 1)] t
  refine yI X2.here hx rfl 4 9 rfl (hb hby d16_4) rfl rfl ?_
  refine XS.iloadN X2.here hx rfl (hb hby d16_9) rfl ?_
  refine XS.iconst X2.here hx rfl (hb hby d16_10) ?_
  exact k
 obtain ⟨_, T6, L6, X6, hQ6, c6⟩ := kstat X2 hx hZ hown (w64 hw) (w65 hw) (w66 hw) (w67 hw) (rm_mx0 l Z a0 hw []  h0 n0 O0 ) K4 c5 hml pd_pIIrI [(ii 0), (ii 0)] [] 0 (hb hby d16_11) rfl rfl rfl rfl rfl rfl
 obtain ⟨rfl, N7q, K8⟩ := hQ6
 have N7 := Fr.app N3 N7q
 have c9 : Kt p e below T6 st0 (mkF m 18 #[vr s_, vi ch_, vi 0, vi 3] [(ii 3), (ii 3)]) := fun t k => by
  refine c6 t ?_
  show S_ p e below T6 m 14 #[vr s_, vi ch_, vi 0, vi 3] [(ii 0)] t
  refine XS.istoreN X6.here hx rfl (hb hby d16_14) rfl (l' := #[vr s_, vi ch_, vi 0, vi 3]) rfl ?_
  refine XS.iloadN X6.here hx rfl (hb hby d16_15) rfl ?_
  refine XS.aloadN X6.here hx rfl (hb hby d16_16) rfl rfl ?_
  refine ldLen X6 hx hZ K8 A0_ rfl rfl (hb hby d16_17) ?_
  exact k
 obtain ⟨_, T10, L10, X10, hQ10, c10⟩ := kstat X6 hx hZ hown (w68 hw) (w69 hw) (w66 hw) (w70 hw) (rm_mn3 l Z a0 hw []  h0 n0 O0 ) K8 c9 hml pd_pIIrI [(ii 3), (ii 3)] [] 0 (hb hby d16_18) rfl rfl rfl rfl rfl rfl
 obtain ⟨rfl, N11q, K12⟩ := hQ10
 have N11 := Fr.app N7 N11q
 have c13 : Kt p e below T10 st0 (mkF m 33 #[vr s_, vi ch_, vi 0, vi 3] [(ii 3), (ii 0), (.int ch_), (rr s_)]) := fun t k => by
  refine c10 t ?_
  show S_ p e below T10 m 21 #[vr s_, vi ch_, vi 0, vi 3] [(ii 3)] t
  refine XS.istoreN X10.here hx rfl (hb hby d16_21) rfl (l' := #[vr s_, vi ch_, vi 0, vi 3]) rfl ?_
  refine XS.iloadN X10.here hx rfl (hb hby d16_22) rfl ?_
  refine XS.iloadN X10.here hx rfl (hb hby d16_23) rfl ?_
  refine yC X10.here hx rfl 24 29 rfl (hb hby d16_24) rfl rfl ?_
  refine XS.aloadN X10.here hx rfl (hb hby d16_29) rfl rfl ?_
  refine XS.iloadN X10.here hx rfl (hb hby d16_30) rfl ?_
  refine XS.iloadN X10.here hx rfl (hb hby d16_31) rfl ?_
  refine XS.iloadN X10.here hx rfl (hb hby d16_32) rfl ?_
  exact k
 obtain ⟨_, T14, L14, X14, hQ14, c14⟩ := kstat X10 hx hZ hown (w122 hw) (w123 hw) (w59 hw) (w124 hw) (rm_l1x_3 l Z a0 hw [] s_ ks_ ch_ v0_ v1_ v2_ h0 n0 O0 A0_) K12 c13 hml pd_pABIIIrI [(rr s_), (.int ch_), (ii 0), (ii 3)] [] 0 (hb hby d16_33) rfl rfl rfl rfl rfl rfl
 rcases hQ14 with hQ14 | hQ14
 ·obtain ⟨i15, rfl, N16q, K17, p18, p19⟩ := hQ14
  have N16 := Fr.app N11 N16q
  obtain ⟨fs, hr, hrun, hended, hW, hsame⟩ := X14.leave (v := some (.int i15)) (fun h => by rw [Bd.returns] at h; cases h)
  refine ⟨_, _, c14 _ ?_, hrun, hended, _, _, rfl, ?_, ⟨_, rfl⟩, hW, hsame.mono (by decide) (by decide)⟩
  ·show S_ p e below T14 m 36 #[vr s_, vi ch_, vi 0, vi 3] [(.int i15)] _
   exact retOut X14 hx Bd.returns rfl (Or.inl ⟨rfl, Or.inl rfl, _, rfl⟩) (hb hby d16_36) hr
  ·show Q_l1i_3 Z s_ ks_ ch_ v0_ v1_ v2_ h0 n0 _ T14.heap _
   rw [K17]
   exact (Or.inl ⟨i15, rfl, N16, rfl, p18, p19⟩)
 ·obtain ⟨rfl, N20q, K21, p22, p23, p24⟩ := hQ14
  have N20 := Fr.app N11 N20q
  obtain ⟨fs, hr, hrun, hended, hW, hsame⟩ := X14.leave (v := some (ii (-1))) (fun h => by rw [Bd.returns] at h; cases h)
  refine ⟨_, _, c14 _ ?_, hrun, hended, _, _, rfl, ?_, ⟨_, rfl⟩, hW, hsame.mono (by decide) (by decide)⟩
  ·show S_ p e below T14 m 36 #[vr s_, vi ch_, vi 0, vi 3] [(ii (-1))] _
   exact retOut X14 hx Bd.returns rfl (Or.inl ⟨rfl, Or.inl rfl, _, rfl⟩) (hb hby d16_36) hr
  ·show Q_l1i_3 Z s_ ks_ ch_ v0_ v1_ v2_ h0 n0 _ T14.heap _
   rw [K21]
   exact (Or.inr (⟨rfl, N20, rfl, p22, p23, p24⟩))
theorem ef_lenL_3 (m : MethodId) (x_ : Addr) : entryFrame m #[(rr x_)] 1 = mkF m 0 #[vr x_] [] := by first | (simp [entryFrame, mkF, argsToLocals, Value.category]; done) | rfl
def Q_lenL_3 (Z : State) (x_ : Addr) (s_ : Addr) (ks_ : ClassId) (vs_ : List Value) (z_ : Int32) (h0 : Heap) (n0 : Nat) (v : Option Value) (h : Heap) (L : List Loc) : Prop := v = some (ii 3) ∧ Fr n0 L ∧ h = h0
set_option maxRecDepth 65536 in
set_option maxHeartbeats 40000000 in
theorem rm_lenL_3 (l : Launch) (Z : State) (a0 : Array Value) (hw : HW Z a0) (ws : List Jvm.Cond) (x_ : Addr) (s_ : Addr) (ks_ : ClassId) (vs_ : List Value) (z_ : Int32) (h0 : Heap) (n0 : Nat) (O0 : Old Z n0 h0) (E0_ : Exa Z h0 x_ nm0) (F1_ : Fld Z h0 x_ nm0 "coder" "B" (ii 0)) (F2_ : Fld Z h0 x_ nm0 "value" "[B" (rr s_)) (A3_ : Arv Z h0 s_ ks_ .byte (3 : Int32) vs_ (ii 0)) (ZS4_ : Sta Z Z.heap nm0 "COMPACT_STRINGS" "Z" (.int z_)) (hz_ : ¬ (z_ = (0 : Int32))) :
  MFP l Z (⟨nm0, "length", "()I"⟩ : MethodName) jdk_42_method_54_code 1 (some .int) ({ frames := 1, cells := 0, slots := 0, locals := 13 } : Room) ws #[(rr x_)] h0 (Q_lenL_3 Z x_ s_ ks_ vs_ z_ h0 n0) := by
 refine MetFree.of_bodySF (plainFor_of_name pn_java_lang_String) hisR ?_
 intro p e s m args below meth c s₁ Bd hml0 hP hK
 obtain ⟨rfl, hZ, hh⟩ := hP
 have hx := Bd.exec
 have hby := Bd.bytes
 have hml : c.maxLocals = 1 := hml0
 have hown : s.vm.findClass nm0 = some m.cls := findClass_of_methodNamed Bd.named
 have hnm := (name_of_methodNamed Bd.named Bd.method).1
 have X0 : Stand p l e ({ frames := 1, cells := 0, slots := 0, locals := 13 } : Room) s m #[(rr x_)] below meth c s₁ [] 0 0 := Stand.of_body Bd
 have e0 : s₁.heap = h0 := by rw [← hh, Bd.state]; rfl
 have N0 := Fr.nil n0
 have kp0 : Keep h0 h0 [] := Keep.refl _ _
 have c0 : ∀ t, S_ p e below s₁ m 0 #[vr x_] [] t → Steps p.tables e below (s₁.setTop (entryFrame m #[(rr x_)] 1)) t := fun t k => castTop (ef_lenL_3 m x_) k
 generalize s₁.setTop (entryFrame m #[(rr x_)] 1) = st0 at c0 ⊢
 replace c0 : Kt p e below s₁ st0 (mkF m 0 #[vr x_] []) := c0
 have c1 : Kt p e below s₁ st0 (mkF m 1 #[vr x_] [(rr x_)]) := fun t k => by
  refine c0 t ?_
  show S_ p e below s₁ m 0 #[vr x_] [] t
  refine XS.aloadN X0.here hx rfl (hb hby d17_0) rfl rfl ?_
  exact k
 obtain ⟨T2, X2, e2, c2⟩ := kget X0 hx hZ hown (host := "") (Or.inl (w24 hw)) Via.refl e0 F2_ c1 rfl rfl (hb hby d17_1)
 have c3 : Kt p e below T2 st0 (mkF m 6 #[vr x_] [(rr x_), (ii 3)]) := fun t k => by
  refine c2 t ?_
  show S_ p e below T2 m 4 #[vr x_] [(rr s_)] t
  refine ldLen X2 hx hZ e2 A3_ rfl rfl (hb hby d17_4) ?_
  refine XS.aloadN X2.here hx rfl (hb hby d17_5) rfl rfl ?_
  exact k
 obtain ⟨_, T4, L4, X4, hQ4, c4⟩ := kvirt X2 hx hZ hown (w52 hw) (w53 hw) (w55 hw) (w54 hw) (w56 hw) (w6 hw) (rm_codL l Z a0 hw [] x_ z_ h0 n0 O0 F1_ ZS4_ hz_) e2 E0_ c3 hml pd_prB [] [(ii 3)] 1 (hb hby d17_6) rfl rfl rfl rfl rfl rfl
 obtain ⟨rfl, N5q, K6⟩ := hQ4
 have N5 := Fr.app N0 N5q
 obtain ⟨fs, hr, hrun, hended, hW, hsame⟩ := X4.leave (v := some (ii 3)) (fun h => by rw [Bd.returns] at h; cases h)
 refine ⟨_, _, c4 _ ?_, hrun, hended, _, _, rfl, ?_, ⟨_, rfl⟩, hW, hsame.mono (by decide) (by decide)⟩
 ·show S_ p e below T4 m 9 #[vr x_] [(ii 0), (ii 3)] _
  refine XS.ishr X4.here hx rfl (hb hby d17_9) rfl ?_
  show S_ p e below T4 m 10 #[vr x_] [(ii 3)] _
  exact retOut X4 hx Bd.returns rfl (Or.inl ⟨rfl, Or.inl rfl, _, rfl⟩) (hb hby d17_10) hr
 ·show Q_lenL_3 Z x_ s_ ks_ vs_ z_ h0 n0 _ T4.heap _
  rw [K6]
  exact ⟨rfl, N5, rfl⟩
theorem ef_six2L_3 (m : MethodId) (x_ : Addr) (ch_ : Int32) : entryFrame m #[(rr x_), (.int ch_), (ii 0)] 3 = mkF m 0 #[vr x_, vi ch_, vi 0] [] := by first | (simp [entryFrame, mkF, argsToLocals, Value.category]; done) | rfl
def Q_six2L_3 (Z : State) (x_ : Addr) (z_ : Int32) (s_ : Addr) (ks_ : ClassId) (ch_ : Int32) (v0_ : Int32) (v1_ : Int32) (v2_ : Int32) (h0 : Heap) (n0 : Nat) (v : Option Value) (h : Heap) (L : List Loc) : Prop := (∃ (r_ : Int32), v = some (.int r_) ∧ Fr n0 L ∧ h = h0 ∧ ¬ (r_ < (0 : Int32)) ∧ ((v0_ = (ch_.toInt8.toInt32) ∨ v1_ = (ch_.toInt8.toInt32) ∨ v2_ = (ch_.toInt8.toInt32)))) ∨ (v = some (ii (-1)) ∧ Fr n0 L ∧ h = h0 ∧ ¬ (v0_ = (ch_.toInt8.toInt32)) ∧ ¬ (v1_ = (ch_.toInt8.toInt32)) ∧ ¬ (v2_ = (ch_.toInt8.toInt32)))
set_option maxRecDepth 65536 in
set_option maxHeartbeats 40000000 in
theorem rm_six2L_3 (l : Launch) (Z : State) (a0 : Array Value) (hw : HW Z a0) (ws : List Jvm.Cond) (x_ : Addr) (z_ : Int32) (s_ : Addr) (ks_ : ClassId) (ch_ : Int32) (v0_ : Int32) (v1_ : Int32) (v2_ : Int32) (h0 : Heap) (n0 : Nat) (O0 : Old Z n0 h0) (E0_ : Exa Z h0 x_ nm0) (F1_ : Fld Z h0 x_ nm0 "coder" "B" (ii 0)) (F2_ : Fld Z h0 x_ nm0 "value" "[B" (rr s_)) (A3_ : Arv Z h0 s_ ks_ .byte (3 : Int32) [(.int v0_), (.int v1_), (.int v2_)] (ii 0)) (ZS4_ : Sta Z Z.heap nm0 "COMPACT_STRINGS" "Z" (.int z_)) (hz_ : ¬ (z_ = (0 : Int32))) (h1_ : ¬ (ch_ < (0 : Int32))) (h2_ : ¬ ((255 : Int32) < ch_)) :
  MFP l Z (⟨nm0, "indexOf", "(II)I"⟩ : MethodName) jdk_42_method_80_code 3 (some .int) ({ frames := 2, cells := 0, slots := 0, locals := 32 } : Room) ws #[(rr x_), (.int ch_), (ii 0)] h0 (Q_six2L_3 Z x_ z_ s_ ks_ ch_ v0_ v1_ v2_ h0 n0) := by
 refine MetFree.of_bodySF (plainFor_of_name pn_java_lang_String) hisR ?_
 intro p e s m args below meth c s₁ Bd hml0 hP hK
 obtain ⟨rfl, hZ, hh⟩ := hP
 have hx := Bd.exec
 have hby := Bd.bytes
 have hml : c.maxLocals = 3 := hml0
 have hown : s.vm.findClass nm0 = some m.cls := findClass_of_methodNamed Bd.named
 have hnm := (name_of_methodNamed Bd.named Bd.method).1
 have X0 : Stand p l e ({ frames := 2, cells := 0, slots := 0, locals := 32 } : Room) s m #[(rr x_), (.int ch_), (ii 0)] below meth c s₁ [] 0 0 := Stand.of_body Bd
 have e0 : s₁.heap = h0 := by rw [← hh, Bd.state]; rfl
 have N0 := Fr.nil n0
 have kp0 : Keep h0 h0 [] := Keep.refl _ _
 have c0 : ∀ t, S_ p e below s₁ m 0 #[vr x_, vi ch_, vi 0] [] t → Steps p.tables e below (s₁.setTop (entryFrame m #[(rr x_), (.int ch_), (ii 0)] 3)) t := fun t k => castTop (ef_six2L_3 m x_ ch_) k
 generalize s₁.setTop (entryFrame m #[(rr x_), (.int ch_), (ii 0)] 3) = st0 at c0 ⊢
 replace c0 : Kt p e below s₁ st0 (mkF m 0 #[vr x_, vi ch_, vi 0] []) := c0
 have c1 : Kt p e below s₁ st0 (mkF m 1 #[vr x_, vi ch_, vi 0] [(rr x_)]) := fun t k => by
  refine c0 t ?_
  show S_ p e below s₁ m 0 #[vr x_, vi ch_, vi 0] [] t
  refine XS.aloadN X0.here hx rfl (hb hby d18_0) rfl rfl ?_
  exact k
 obtain ⟨_, T2, L2, X2, hQ2, c2⟩ := kvirt X0 hx hZ hown (w41 hw) (w42 hw) (w44 hw) (w43 hw) (w45 hw) (w6 hw) (rm_islL l Z a0 hw [] x_ z_ h0 n0 O0 F1_ ZS4_ hz_) e0 E0_ c1 hml pd_prZ [] [] 0 (hb hby d18_1) rfl rfl rfl rfl rfl rfl
 obtain ⟨rfl, N3q, K4⟩ := hQ2
 have N3 := Fr.app N0 N3q
 have c5 : Kt p e below T2 st0 (mkF m 8 #[vr x_, vi ch_, vi 0] [(rr x_)]) := fun t k => by
  refine c2 t ?_
  show S_ p e below T2 m 4 #[vr x_, vi ch_, vi 0] [(ii 1)] t
  refine XS.ifNo X2.here hx rfl (hb hby d18_4) rfl rfl ?_
  refine XS.aloadN X2.here hx rfl (hb hby d18_7) rfl rfl ?_
  exact k
 obtain ⟨T6, X6, e6, c6⟩ := kget X2 hx hZ hown (host := "") (Or.inl (w24 hw)) Via.refl K4 F2_ c5 rfl rfl (hb hby d18_8)
 have c7 : Kt p e below T6 st0 (mkF m 14 #[vr x_, vi ch_, vi 0] [(rr x_), (ii 0), (.int ch_), (rr s_)]) := fun t k => by
  refine c6 t ?_
  show S_ p e below T6 m 11 #[vr x_, vi ch_, vi 0] [(rr s_)] t
  refine XS.iloadN X6.here hx rfl (hb hby d18_11) rfl ?_
  refine XS.iloadN X6.here hx rfl (hb hby d18_12) rfl ?_
  refine XS.aloadN X6.here hx rfl (hb hby d18_13) rfl rfl ?_
  exact k
 obtain ⟨_, T8, L8, X8, hQ8, c8⟩ := kvirt X6 hx hZ hown (w47 hw) (w48 hw) (w50 hw) (w49 hw) (w51 hw) (w6 hw) (rm_lenL_3 l Z a0 hw [] x_ s_ ks_ [(.int v0_), (.int v1_), (.int v2_)] z_ h0 n0 O0 E0_ F1_ F2_ A3_ ZS4_ hz_) e6 E0_ c7 hml pd_prI [] [(ii 0), (.int ch_), (rr s_)] 3 (hb hby d18_14) rfl rfl rfl rfl rfl rfl
 obtain ⟨rfl, N9q, K10⟩ := hQ8
 have N9 := Fr.app N3 N9q
 obtain ⟨_, T11, L11, X11, hQ11, c11⟩ := kstat X8 hx hZ hown (w57 hw) (w58 hw) (w59 hw) (w60 hw) (rm_l1i_3 l Z a0 hw [] s_ ks_ ch_ v0_ v1_ v2_ h0 n0 O0 A3_ h1_ h2_) K10 c8 hml pd_pABIIIrI [(rr s_), (.int ch_), (ii 0), (ii 3)] [] 0 (hb hby d18_17) rfl rfl rfl rfl rfl rfl
 rcases hQ11 with hQ11 | hQ11
 ·obtain ⟨i12, rfl, N13q, K14, p15, p16⟩ := hQ11
  have N13 := Fr.app N9 N13q
  obtain ⟨fs, hr, hrun, hended, hW, hsame⟩ := X11.leave (v := some (.int i12)) (fun h => by rw [Bd.returns] at h; cases h)
  refine ⟨_, _, c11 _ ?_, hrun, hended, _, _, rfl, ?_, ⟨_, rfl⟩, hW, hsame.mono (by decide) (by decide)⟩
  ·show S_ p e below T11 m 20 #[vr x_, vi ch_, vi 0] [(.int i12)] _
   refine yG X11.here hx rfl 20 36 rfl (hb hby d18_20) ?_
   show S_ p e below T11 m 36 #[vr x_, vi ch_, vi 0] [(.int i12)] _
   exact retOut X11 hx Bd.returns rfl (Or.inl ⟨rfl, Or.inl rfl, _, rfl⟩) (hb hby d18_36) hr
  ·show Q_six2L_3 Z x_ z_ s_ ks_ ch_ v0_ v1_ v2_ h0 n0 _ T11.heap _
   rw [K14]
   exact (Or.inl ⟨i12, rfl, N13, rfl, p15, p16⟩)
 ·obtain ⟨rfl, N17q, K18, p19, p20, p21⟩ := hQ11
  have N17 := Fr.app N9 N17q
  obtain ⟨fs, hr, hrun, hended, hW, hsame⟩ := X11.leave (v := some (ii (-1))) (fun h => by rw [Bd.returns] at h; cases h)
  refine ⟨_, _, c11 _ ?_, hrun, hended, _, _, rfl, ?_, ⟨_, rfl⟩, hW, hsame.mono (by decide) (by decide)⟩
  ·show S_ p e below T11 m 20 #[vr x_, vi ch_, vi 0] [(ii (-1))] _
   refine yG X11.here hx rfl 20 36 rfl (hb hby d18_20) ?_
   show S_ p e below T11 m 36 #[vr x_, vi ch_, vi 0] [(ii (-1))] _
   exact retOut X11 hx Bd.returns rfl (Or.inl ⟨rfl, Or.inl rfl, _, rfl⟩) (hb hby d18_36) hr
  ·show Q_six2L_3 Z x_ z_ s_ ks_ ch_ v0_ v1_ v2_ h0 n0 _ T11.heap _
   rw [K18]
   exact (Or.inr (⟨rfl, N17, rfl, p19, p20, p21⟩))
theorem ef_six1L_3 (m : MethodId) (x_ : Addr) (ch_ : Int32) : entryFrame m #[(rr x_), (.int ch_)] 2 = mkF m 0 #[vr x_, vi ch_] [] := by first | (simp [entryFrame, mkF, argsToLocals, Value.category]; done) | rfl
def Q_six1L_3 (Z : State) (x_ : Addr) (z_ : Int32) (s_ : Addr) (ks_ : ClassId) (ch_ : Int32) (v0_ : Int32) (v1_ : Int32) (v2_ : Int32) (h0 : Heap) (n0 : Nat) (v : Option Value) (h : Heap) (L : List Loc) : Prop := (∃ (r_ : Int32), v = some (.int r_) ∧ Fr n0 L ∧ h = h0 ∧ ¬ (r_ < (0 : Int32)) ∧ ((v0_ = (ch_.toInt8.toInt32) ∨ v1_ = (ch_.toInt8.toInt32) ∨ v2_ = (ch_.toInt8.toInt32)))) ∨ (v = some (ii (-1)) ∧ Fr n0 L ∧ h = h0 ∧ ¬ (v0_ = (ch_.toInt8.toInt32)) ∧ ¬ (v1_ = (ch_.toInt8.toInt32)) ∧ ¬ (v2_ = (ch_.toInt8.toInt32)))
set_option maxRecDepth 65536 in
set_option maxHeartbeats 40000000 in
theorem rm_six1L_3 (l : Launch) (Z : State) (a0 : Array Value) (hw : HW Z a0) (ws : List Jvm.Cond) (x_ : Addr) (z_ : Int32) (s_ : Addr) (ks_ : ClassId) (ch_ : Int32) (v0_ : Int32) (v1_ : Int32) (v2_ : Int32) (h0 : Heap) (n0 : Nat) (O0 : Old Z n0 h0) (E0_ : Exa Z h0 x_ nm0) (F1_ : Fld Z h0 x_ nm0 "coder" "B" (ii 0)) (F2_ : Fld Z h0 x_ nm0 "value" "[B" (rr s_)) (A3_ : Arv Z h0 s_ ks_ .byte (3 : Int32) [(.int v0_), (.int v1_), (.int v2_)] (ii 0)) (ZS4_ : Sta Z Z.heap nm0 "COMPACT_STRINGS" "Z" (.int z_)) (hz_ : ¬ (z_ = (0 : Int32))) (h1_ : ¬ (ch_ < (0 : Int32))) (h2_ : ¬ ((255 : Int32) < ch_)) :
  MFP l Z (⟨nm0, "indexOf", "(I)I"⟩ : MethodName) jdk_42_method_79_code 2 (some .int) ({ frames := 3, cells := 0, slots := 0, locals := 46 } : Room) ws #[(rr x_), (.int ch_)] h0 (Q_six1L_3 Z x_ z_ s_ ks_ ch_ v0_ v1_ v2_ h0 n0) := by
 refine MetFree.of_bodySF (plainFor_of_name pn_java_lang_String) hisR ?_
 intro p e s m args below meth c s₁ Bd hml0 hP hK
 obtain ⟨rfl, hZ, hh⟩ := hP
 have hx := Bd.exec
 have hby := Bd.bytes
 have hml : c.maxLocals = 2 := hml0
 have hown : s.vm.findClass nm0 = some m.cls := findClass_of_methodNamed Bd.named
 have hnm := (name_of_methodNamed Bd.named Bd.method).1
 have X0 : Stand p l e ({ frames := 3, cells := 0, slots := 0, locals := 46 } : Room) s m #[(rr x_), (.int ch_)] below meth c s₁ [] 0 0 := Stand.of_body Bd
 have e0 : s₁.heap = h0 := by rw [← hh, Bd.state]; rfl
 have N0 := Fr.nil n0
 have kp0 : Keep h0 h0 [] := Keep.refl _ _
 have c0 : ∀ t, S_ p e below s₁ m 0 #[vr x_, vi ch_] [] t → Steps p.tables e below (s₁.setTop (entryFrame m #[(rr x_), (.int ch_)] 2)) t := fun t k => castTop (ef_six1L_3 m x_ ch_) k
 generalize s₁.setTop (entryFrame m #[(rr x_), (.int ch_)] 2) = st0 at c0 ⊢
 replace c0 : Kt p e below s₁ st0 (mkF m 0 #[vr x_, vi ch_] []) := c0
 have c1 : Kt p e below s₁ st0 (mkF m 3 #[vr x_, vi ch_] [(ii 0), (.int ch_), (rr x_)]) := fun t k => by
  refine c0 t ?_
  show S_ p e below s₁ m 0 #[vr x_, vi ch_] [] t
  refine XS.aloadN X0.here hx rfl (hb hby d19_0) rfl rfl ?_
  refine XS.iloadN X0.here hx rfl (hb hby d19_1) rfl ?_
  refine XS.iconst X0.here hx rfl (hb hby d19_2) ?_
  exact k
 obtain ⟨_, T2, L2, X2, hQ2, c2⟩ := kvirt X0 hx hZ hown (w36 hw) (w37 hw) (w39 hw) (w38 hw) (w40 hw) (w6 hw) (rm_six2L_3 l Z a0 hw [] x_ z_ s_ ks_ ch_ v0_ v1_ v2_ h0 n0 O0 E0_ F1_ F2_ A3_ ZS4_ hz_ h1_ h2_) e0 E0_ c1 hml pd_pIIrI [(.int ch_), (ii 0)] [] 0 (hb hby d19_3) rfl rfl rfl rfl rfl rfl
 rcases hQ2 with hQ2 | hQ2
 ·obtain ⟨i3, rfl, N4q, K5, p6, p7⟩ := hQ2
  have N4 := Fr.app N0 N4q
  obtain ⟨fs, hr, hrun, hended, hW, hsame⟩ := X2.leave (v := some (.int i3)) (fun h => by rw [Bd.returns] at h; cases h)
  refine ⟨_, _, c2 _ ?_, hrun, hended, _, _, rfl, ?_, ⟨_, rfl⟩, hW, hsame.mono (by decide) (by decide)⟩
  ·show S_ p e below T2 m 6 #[vr x_, vi ch_] [(.int i3)] _
   exact retOut X2 hx Bd.returns rfl (Or.inl ⟨rfl, Or.inl rfl, _, rfl⟩) (hb hby d19_6) hr
  ·show Q_six1L_3 Z x_ z_ s_ ks_ ch_ v0_ v1_ v2_ h0 n0 _ T2.heap _
   rw [K5]
   exact (Or.inl ⟨i3, rfl, N4, rfl, p6, p7⟩)
 ·obtain ⟨rfl, N8q, K9, p10, p11, p12⟩ := hQ2
  have N8 := Fr.app N0 N8q
  obtain ⟨fs, hr, hrun, hended, hW, hsame⟩ := X2.leave (v := some (ii (-1))) (fun h => by rw [Bd.returns] at h; cases h)
  refine ⟨_, _, c2 _ ?_, hrun, hended, _, _, rfl, ?_, ⟨_, rfl⟩, hW, hsame.mono (by decide) (by decide)⟩
  ·show S_ p e below T2 m 6 #[vr x_, vi ch_] [(ii (-1))] _
   exact retOut X2 hx Bd.returns rfl (Or.inl ⟨rfl, Or.inl rfl, _, rfl⟩) (hb hby d19_6) hr
  ·show Q_six1L_3 Z x_ z_ s_ ks_ ch_ v0_ v1_ v2_ h0 n0 _ T2.heap _
   rw [K9]
   exact (Or.inr (⟨rfl, N8, rfl, p10, p11, p12⟩))
theorem ef_u16len_3 (m : MethodId) (s_ : Addr) : entryFrame m #[(rr s_)] 1 = mkF m 0 #[vr s_] [] := by first | (simp [entryFrame, mkF, argsToLocals, Value.category]; done) | rfl
def Q_u16len_3 (Z : State) (s_ : Addr) (ks_ : ClassId) (vs_ : List Value) (h0 : Heap) (n0 : Nat) (v : Option Value) (h : Heap) (L : List Loc) : Prop := v = some (ii 3) ∧ Fr n0 L ∧ h = h0
set_option maxRecDepth 65536 in
set_option maxHeartbeats 40000000 in
theorem rm_u16len_3 (l : Launch) (Z : State) (a0 : Array Value) (hw : HW Z a0) (ws : List Jvm.Cond) (s_ : Addr) (ks_ : ClassId) (vs_ : List Value) (h0 : Heap) (n0 : Nat) (O0 : Old Z n0 h0) (A0_ : Arv Z h0 s_ ks_ .byte (6 : Int32) vs_ (ii 0)) :
  MFP l Z (⟨nm1, "length", "([B)I"⟩ : MethodName) jdk_52_method_6_code 1 (some .int) ({ frames := 0, cells := 0, slots := 0, locals := 0 } : Room) ws #[(rr s_)] h0 (Q_u16len_3 Z s_ ks_ vs_ h0 n0) := by
 refine MetFree.of_bodySF (plainFor_of_name pn_java_lang_StringUTF16) hisR ?_
 intro p e s m args below meth c s₁ Bd hml0 hP hK
 obtain ⟨rfl, hZ, hh⟩ := hP
 have hx := Bd.exec
 have hby := Bd.bytes
 have hml : c.maxLocals = 1 := hml0
 have hown : s.vm.findClass nm1 = some m.cls := findClass_of_methodNamed Bd.named
 have hnm := (name_of_methodNamed Bd.named Bd.method).1
 have X0 : Stand p l e ({ frames := 0, cells := 0, slots := 0, locals := 0 } : Room) s m #[(rr s_)] below meth c s₁ [] 0 0 := Stand.of_body Bd
 have e0 : s₁.heap = h0 := by rw [← hh, Bd.state]; rfl
 have N0 := Fr.nil n0
 have kp0 : Keep h0 h0 [] := Keep.refl _ _
 have c0 : ∀ t, S_ p e below s₁ m 0 #[vr s_] [] t → Steps p.tables e below (s₁.setTop (entryFrame m #[(rr s_)] 1)) t := fun t k => castTop (ef_u16len_3 m s_) k
 generalize s₁.setTop (entryFrame m #[(rr s_)] 1) = st0 at c0 ⊢
 replace c0 : Kt p e below s₁ st0 (mkF m 0 #[vr s_] []) := c0
 obtain ⟨fs, hr, hrun, hended, hW, hsame⟩ := X0.leave (v := some (ii 3)) (fun h => by rw [Bd.returns] at h; cases h)
 refine ⟨_, _, c0 _ ?_, hrun, hended, _, _, rfl, ?_, ⟨_, rfl⟩, hW, hsame.mono (by decide) (by decide)⟩
 ·show S_ p e below s₁ m 0 #[vr s_] [] _
  refine XS.aloadN X0.here hx rfl (hb hby d21_0) rfl rfl ?_
  refine ldLen X0 hx hZ e0 A0_ rfl rfl (hb hby d21_1) ?_
  refine XS.iconst X0.here hx rfl (hb hby d21_2) ?_
  refine XS.ishr X0.here hx rfl (hb hby d21_3) rfl ?_
  show S_ p e below s₁ m 4 #[vr s_] [(ii 3)] _
  exact retOut X0 hx Bd.returns rfl (Or.inl ⟨rfl, Or.inl rfl, _, rfl⟩) (hb hby d21_4) hr
 ·show Q_u16len_3 Z s_ ks_ vs_ h0 n0 _ s₁.heap _
  rw [e0]
  exact ⟨rfl, N0, rfl⟩
theorem ef_cft_3 (m : MethodId) (fm_ : Value) (hfm_ : fm_.isRef = true) : entryFrame m #[(ii 0), (ii 3), (ii 3), fm_] 4 = mkF m 0 #[vi 0, vi 3, vi 3, .val fm_] [] := by (rcases ref_cases hfm_ with rfl | ⟨_, rfl⟩) <;> first | (simp [entryFrame, mkF, argsToLocals, Value.category]; done) | rfl
def Q_cft_3 (Z : State) (fm_ : Value) (h0 : Heap) (n0 : Nat) (v : Option Value) (h : Heap) (L : List Loc) : Prop := v = some (ii 0) ∧ Fr n0 L ∧ h = h0
set_option maxRecDepth 65536 in
set_option maxHeartbeats 40000000 in
theorem rm_cft_3 (l : Launch) (Z : State) (a0 : Array Value) (hw : HW Z a0) (ws : List Jvm.Cond) (fm_ : Value) (h0 : Heap) (n0 : Nat) (O0 : Old Z n0 h0) (hfm_ : fm_.isRef = true) :
  MFP l Z (⟨nm4, "checkFromToIndex", "(IIILjava/util/function/BiFunction;)I"⟩ : MethodName) jdk_41_method_12_code 4 (some .int) ({ frames := 0, cells := 0, slots := 0, locals := 0 } : Room) ws #[(ii 0), (ii 3), (ii 3), fm_] h0 (Q_cft_3 Z fm_ h0 n0) := by
 refine MetFree.of_bodySF (plainFor_of_name pn_jdk_internal_util_Preconditions) hisR ?_
 intro p e s m args below meth c s₁ Bd hml0 hP hK
 obtain ⟨rfl, hZ, hh⟩ := hP
 have hx := Bd.exec
 have hby := Bd.bytes
 have hml : c.maxLocals = 4 := hml0
 have hown : s.vm.findClass nm4 = some m.cls := findClass_of_methodNamed Bd.named
 have hnm := (name_of_methodNamed Bd.named Bd.method).1
 have X0 : Stand p l e ({ frames := 0, cells := 0, slots := 0, locals := 0 } : Room) s m #[(ii 0), (ii 3), (ii 3), fm_] below meth c s₁ [] 0 0 := Stand.of_body Bd
 have e0 : s₁.heap = h0 := by rw [← hh, Bd.state]; rfl
 have N0 := Fr.nil n0
 have kp0 : Keep h0 h0 [] := Keep.refl _ _
 have c0 : ∀ t, S_ p e below s₁ m 0 #[vi 0, vi 3, vi 3, .val fm_] [] t → Steps p.tables e below (s₁.setTop (entryFrame m #[(ii 0), (ii 3), (ii 3), fm_] 4)) t := fun t k => castTop (ef_cft_3 m fm_ hfm_) k
 generalize s₁.setTop (entryFrame m #[(ii 0), (ii 3), (ii 3), fm_] 4) = st0 at c0 ⊢
 replace c0 : Kt p e below s₁ st0 (mkF m 0 #[vi 0, vi 3, vi 3, .val fm_] []) := c0
 obtain ⟨fs, hr, hrun, hended, hW, hsame⟩ := X0.leave (v := some (ii 0)) (fun h => by rw [Bd.returns] at h; cases h)
 refine ⟨_, _, c0 _ ?_, hrun, hended, _, _, rfl, ?_, ⟨_, rfl⟩, hW, hsame.mono (by decide) (by decide)⟩
 ·show S_ p e below s₁ m 0 #[vi 0, vi 3, vi 3, .val fm_] [] _
  refine XS.iloadN X0.here hx rfl (hb hby d22_0) rfl ?_
  refine XS.ifNo X0.here hx rfl (hb hby d22_1) rfl rfl ?_
  refine XS.iloadN X0.here hx rfl (hb hby d22_4) rfl ?_
  refine XS.iloadN X0.here hx rfl (hb hby d22_5) rfl ?_
  refine XS.icmpNo X0.here hx rfl (hb hby d22_6) rfl rfl ?_
  refine XS.iloadN X0.here hx rfl (hb hby d22_9) rfl ?_
  refine XS.iloadN X0.here hx rfl (hb hby d22_10) rfl ?_
  refine yC X0.here hx rfl 11 22 rfl (hb hby d22_11) rfl rfl ?_
  show S_ p e below s₁ m 22 #[vi 0, vi 3, vi 3, .val fm_] [] _
  refine XS.iloadN X0.here hx rfl (hb hby d22_22) rfl ?_
  show S_ p e below s₁ m 23 #[vi 0, vi 3, vi 3, .val fm_] [(ii 0)] _
  exact retOut X0 hx Bd.returns rfl (Or.inl ⟨rfl, Or.inl rfl, _, rfl⟩) (hb hby d22_23) hr
 ·show Q_cft_3 Z fm_ h0 n0 _ s₁.heap _
  rw [e0]
  exact ⟨rfl, N0, rfl⟩
theorem ef_cbe_3 (m : MethodId) : entryFrame m #[(ii 0), (ii 3), (ii 3)] 3 = mkF m 0 #[vi 0, vi 3, vi 3] [] := by first | (simp [entryFrame, mkF, argsToLocals, Value.category]; done) | rfl
def Q_cbe_3 (Z : State) (fm_ : Value) (h0 : Heap) (n0 : Nat) (v : Option Value) (h : Heap) (L : List Loc) : Prop := v = none ∧ Fr n0 L ∧ h = h0
set_option maxRecDepth 65536 in
set_option maxHeartbeats 40000000 in
theorem rm_cbe_3 (l : Launch) (Z : State) (a0 : Array Value) (hw : HW Z a0) (ws : List Jvm.Cond) (fm_ : Value) (h0 : Heap) (n0 : Nat) (O0 : Old Z n0 h0) (ZS0_ : Sta Z Z.heap nm4 "SIOOBE_FORMATTER" nm6 fm_) (hfm_ : fm_.isRef = true) :
  MFP l Z (⟨nm0, "checkBoundsBeginEnd", "(III)V"⟩ : MethodName) jdk_42_method_158_code 3 none ({ frames := 1, cells := 0, slots := 0, locals := 15 } : Room) ws #[(ii 0), (ii 3), (ii 3)] h0 (Q_cbe_3 Z fm_ h0 n0) := by
 refine MetFree.of_bodySF (plainFor_of_name pn_java_lang_String) hisR ?_
 intro p e s m args below meth c s₁ Bd hml0 hP hK
 obtain ⟨rfl, hZ, hh⟩ := hP
 have hx := Bd.exec
 have hby := Bd.bytes
 have hml : c.maxLocals = 3 := hml0
 have hown : s.vm.findClass nm0 = some m.cls := findClass_of_methodNamed Bd.named
 have hnm := (name_of_methodNamed Bd.named Bd.method).1
 have X0 : Stand p l e ({ frames := 1, cells := 0, slots := 0, locals := 15 } : Room) s m #[(ii 0), (ii 3), (ii 3)] below meth c s₁ [] 0 0 := Stand.of_body Bd
 have e0 : s₁.heap = h0 := by rw [← hh, Bd.state]; rfl
 have N0 := Fr.nil n0
 have kp0 : Keep h0 h0 [] := Keep.refl _ _
 have c0 : ∀ t, S_ p e below s₁ m 0 #[vi 0, vi 3, vi 3] [] t → Steps p.tables e below (s₁.setTop (entryFrame m #[(ii 0), (ii 3), (ii 3)] 3)) t := fun t k => castTop (ef_cbe_3 m) k
 generalize s₁.setTop (entryFrame m #[(ii 0), (ii 3), (ii 3)] 3) = st0 at c0 ⊢
 replace c0 : Kt p e below s₁ st0 (mkF m 0 #[vi 0, vi 3, vi 3] []) := c0
 have c1 : Kt p e below s₁ st0 (mkF m 3 #[vi 0, vi 3, vi 3] [(ii 3), (ii 3), (ii 0)]) := fun t k => by
  refine c0 t ?_
  show S_ p e below s₁ m 0 #[vi 0, vi 3, vi 3] [] t
  refine XS.iloadN X0.here hx rfl (hb hby d23_0) rfl ?_
  refine XS.iloadN X0.here hx rfl (hb hby d23_1) rfl ?_
  refine XS.iloadN X0.here hx rfl (hb hby d23_2) rfl ?_
  exact k
 obtain ⟨T2, X2, e2, c2⟩ := kgetS X0 hx hZ hown (host := "") (Or.inl (w182 hw)) Via.refl e0 (ZS0_.ext O0.2) c1 rfl (hb hby d23_3)
 obtain ⟨_, T3, L3, X3, hQ3, c3⟩ := kstat X2 hx hZ hown (w184 hw) (w185 hw) (w183 hw) (w186 hw) (rm_cft_3 l Z a0 hw [] fm_ h0 n0 O0 hfm_) e2 c2 hml pd_pIIILjava_util_function_BiFunction_rI [(ii 0), (ii 3), (ii 3), fm_] [] 0 (hb hby d23_6) rfl rfl rfl rfl rfl rfl
 obtain ⟨rfl, N4q, K5⟩ := hQ3
 have N4 := Fr.app N0 N4q
 obtain ⟨fs, hr, hrun, hended, hW, hsame⟩ := X3.leave (v := none) (fun _ => rfl)
 refine ⟨_, _, c3 _ ?_, hrun, hended, _, _, rfl, ?_, ⟨_, rfl⟩, hW, hsame.mono (by decide) (by decide)⟩
 ·show S_ p e below T3 m 9 #[vi 0, vi 3, vi 3] [(ii 0)] _
  refine XS.pop X3.here hx rfl (hb hby d23_9) rfl rfl ?_
  show S_ p e below T3 m 10 #[vi 0, vi 3, vi 3] [] _
  exact X3.returnOut hx Bd.returns (hb hby d23_10) hr
 ·show Q_cbe_3 Z fm_ h0 n0 _ T3.heap _
  rw [K5]
  exact ⟨rfl, N4, rfl⟩
theorem ef_ucbe_3 (m : MethodId) (s_ : Addr) : entryFrame m #[(ii 0), (ii 3), (rr s_)] 3 = mkF m 0 #[vi 0, vi 3, vr s_] [] := by first | (simp [entryFrame, mkF, argsToLocals, Value.category]; done) | rfl
def Q_ucbe_3 (Z : State) (s_ : Addr) (ks_ : ClassId) (vs_ : List Value) (fm_ : Value) (h0 : Heap) (n0 : Nat) (v : Option Value) (h : Heap) (L : List Loc) : Prop := v = none ∧ Fr n0 L ∧ h = h0
set_option maxRecDepth 65536 in
set_option maxHeartbeats 40000000 in
theorem rm_ucbe_3 (l : Launch) (Z : State) (a0 : Array Value) (hw : HW Z a0) (ws : List Jvm.Cond) (s_ : Addr) (ks_ : ClassId) (vs_ : List Value) (fm_ : Value) (h0 : Heap) (n0 : Nat) (O0 : Old Z n0 h0) (A0_ : Arv Z h0 s_ ks_ .byte (6 : Int32) vs_ (ii 0)) (ZS1_ : Sta Z Z.heap nm4 "SIOOBE_FORMATTER" nm6 fm_) (hfm_ : fm_.isRef = true) :
  MFP l Z (⟨nm1, "checkBoundsBeginEnd", "(II[B)V"⟩ : MethodName) jdk_52_method_93_code 3 none ({ frames := 2, cells := 0, slots := 0, locals := 29 } : Room) ws #[(ii 0), (ii 3), (rr s_)] h0 (Q_ucbe_3 Z s_ ks_ vs_ fm_ h0 n0) := by
 refine MetFree.of_bodySF (plainFor_of_name pn_java_lang_StringUTF16) hisR ?_
 intro p e s m args below meth c s₁ Bd hml0 hP hK
 obtain ⟨rfl, hZ, hh⟩ := hP
 have hx := Bd.exec
 have hby := Bd.bytes
 have hml : c.maxLocals = 3 := hml0
 have hown : s.vm.findClass nm1 = some m.cls := findClass_of_methodNamed Bd.named
 have hnm := (name_of_methodNamed Bd.named Bd.method).1
 have X0 : Stand p l e ({ frames := 2, cells := 0, slots := 0, locals := 29 } : Room) s m #[(ii 0), (ii 3), (rr s_)] below meth c s₁ [] 0 0 := Stand.of_body Bd
 have e0 : s₁.heap = h0 := by rw [← hh, Bd.state]; rfl
 have N0 := Fr.nil n0
 have kp0 : Keep h0 h0 [] := Keep.refl _ _
 have c0 : ∀ t, S_ p e below s₁ m 0 #[vi 0, vi 3, vr s_] [] t → Steps p.tables e below (s₁.setTop (entryFrame m #[(ii 0), (ii 3), (rr s_)] 3)) t := fun t k => castTop (ef_ucbe_3 m s_) k
 generalize s₁.setTop (entryFrame m #[(ii 0), (ii 3), (rr s_)] 3) = st0 at c0 ⊢
 replace c0 : Kt p e below s₁ st0 (mkF m 0 #[vi 0, vi 3, vr s_] []) := c0
 have c1 : Kt p e below s₁ st0 (mkF m 3 #[vi 0, vi 3, vr s_] [(rr s_), (ii 3), (ii 0)]) := fun t k => by
  refine c0 t ?_
  show S_ p e below s₁ m 0 #[vi 0, vi 3, vr s_] [] t
  refine XS.iloadN X0.here hx rfl (hb hby d24_0) rfl ?_
  refine XS.iloadN X0.here hx rfl (hb hby d24_1) rfl ?_
  refine XS.aloadN X0.here hx rfl (hb hby d24_2) rfl rfl ?_
  exact k
 obtain ⟨_, T2, L2, X2, hQ2, c2⟩ := kstat X0 hx hZ hown (w176 hw) (w177 hw) (w127 hw) (w178 hw) (rm_u16len_3 l Z a0 hw [] s_ ks_ vs_ h0 n0 O0 A0_) e0 c1 hml pd_pABrI [(rr s_)] [(ii 3), (ii 0)] 2 (hb hby d24_3) rfl rfl rfl rfl rfl rfl
 obtain ⟨rfl, N3q, K4⟩ := hQ2
 have N3 := Fr.app N0 N3q
 obtain ⟨_, T5, L5, X5, hQ5, c5⟩ := kstat X2 hx hZ hown (w179 hw) (w180 hw) (w6 hw) (w181 hw) (rm_cbe_3 l Z a0 hw [] fm_ h0 n0 O0 ZS1_ hfm_) K4 c2 hml pd_pIIIrV [(ii 0), (ii 3), (ii 3)] [] 0 (hb hby d24_6) rfl rfl rfl rfl rfl rfl
 obtain ⟨rfl, N6q, K7⟩ := hQ5
 have N6 := Fr.app N3 N6q
 obtain ⟨fs, hr, hrun, hended, hW, hsame⟩ := X5.leave (v := none) (fun _ => rfl)
 refine ⟨_, _, c5 _ ?_, hrun, hended, _, _, rfl, ?_, ⟨_, rfl⟩, hW, hsame.mono (by decide) (by decide)⟩
 ·show S_ p e below T5 m 9 #[vi 0, vi 3, vr s_] [] _
  exact X5.returnOut hx Bd.returns (hb hby d24_9) hr
 ·show Q_ucbe_3 Z s_ ks_ vs_ fm_ h0 n0 _ T5.heap _
  rw [K7]
  exact ⟨rfl, N6, rfl⟩
theorem ef_uxu_3 (m : MethodId) (s_ : Addr) (ch_ : Int32) : entryFrame m #[(rr s_), (.int ch_), (ii 0), (ii 3)] 5 = mkF m 0 #[vr s_, vi ch_, vi 0, vi 3, u_] [] := by first | (simp [entryFrame, mkF, argsToLocals, Value.category]; done) | rfl
def Q_uxu_3 (Z : State) (s_ : Addr) (ks_ : ClassId) (ch_ : Int32) (c0_ : Int32) (c1_ : Int32) (c2_ : Int32) (h0 : Heap) (n0 : Nat) (v : Option Value) (h : Heap) (L : List Loc) : Prop := (∃ (r_ : Int32), v = some (.int r_) ∧ Fr n0 L ∧ h = h0 ∧ ¬ (r_ < (0 : Int32)) ∧ ((c0_ = ch_ ∨ c1_ = ch_ ∨ c2_ = ch_))) ∨ (v = some (ii (-1)) ∧ Fr n0 L ∧ h = h0 ∧ ¬ (c0_ = ch_) ∧ ¬ (c1_ = ch_) ∧ ¬ (c2_ = ch_))
set_option maxRecDepth 65536 in
set_option maxHeartbeats 40000000 in
theorem rm_uxu_3 (l : Launch) (Z : State) (a0 : Array Value) (hw : HW Z a0) (ws : List Jvm.Cond) (s_ : Addr) (ks_ : ClassId) (ch_ : Int32) (c0_ : Int32) (c1_ : Int32) (c2_ : Int32) (h0 : Heap) (n0 : Nat) (O0 : Old Z n0 h0) (A0_ : Arv Z h0 s_ ks_ .byte (6 : Int32) [(.int (nar .byte ((c0_ >>> ((0 : Int32) &&& 31)).toInt8.toInt32))), (.int (nar .byte ((c0_ >>> ((8 : Int32) &&& 31)).toInt8.toInt32))), (.int (nar .byte ((c1_ >>> ((0 : Int32) &&& 31)).toInt8.toInt32))), (.int (nar .byte ((c1_ >>> ((8 : Int32) &&& 31)).toInt8.toInt32))), (.int (nar .byte ((c2_ >>> ((0 : Int32) &&& 31)).toInt8.toInt32))), (.int (nar .byte ((c2_ >>> ((8 : Int32) &&& 31)).toInt8.toInt32)))] (ii 0)) (ZS1_ : Sta Z Z.heap nm1 "$assertionsDisabled" "Z" (ii 1)) (ZS2_ : Sta Z Z.heap nm1 "HI_BYTE_SHIFT" "I" (ii 0)) (ZS3_ : Sta Z Z.heap nm1 "LO_BYTE_SHIFT" "I" (ii 8)) (hc0_ : nar .char c0_ = c0_) (hc1_ : nar .char c1_ = c1_) (hc2_ : nar .char c2_ = c2_) :
  MFP l Z (⟨nm1, "indexOfCharUnsafe", "([BIII)I"⟩ : MethodName) jdk_52_method_48_code 5 (some .int) ({ frames := 1, cells := 0, slots := 0, locals := 13 } : Room) ws #[(rr s_), (.int ch_), (ii 0), (ii 3)] h0 (Q_uxu_3 Z s_ ks_ ch_ c0_ c1_ c2_ h0 n0) := by
 refine MetFree.of_bodySF (plainFor_of_name pn_java_lang_StringUTF16) hisR ?_
 intro p e s m args below meth c s₁ Bd hml0 hP hK
 obtain ⟨rfl, hZ, hh⟩ := hP
 have hx := Bd.exec
 have hby := Bd.bytes
 have hml : c.maxLocals = 5 := hml0
 have hown : s.vm.findClass nm1 = some m.cls := findClass_of_methodNamed Bd.named
 have hnm := (name_of_methodNamed Bd.named Bd.method).1
 have X0 : Stand p l e ({ frames := 1, cells := 0, slots := 0, locals := 13 } : Room) s m #[(rr s_), (.int ch_), (ii 0), (ii 3)] below meth c s₁ [] 0 0 := Stand.of_body Bd
 have e0 : s₁.heap = h0 := by rw [← hh, Bd.state]; rfl
 have N0 := Fr.nil n0
 have kp0 : Keep h0 h0 [] := Keep.refl _ _
 have c0 : ∀ t, S_ p e below s₁ m 0 #[vr s_, vi ch_, vi 0, vi 3, u_] [] t → Steps p.tables e below (s₁.setTop (entryFrame m #[(rr s_), (.int ch_), (ii 0), (ii 3)] 5)) t := fun t k => castTop (ef_uxu_3 m s_ ch_) k
 generalize s₁.setTop (entryFrame m #[(rr s_), (.int ch_), (ii 0), (ii 3)] 5) = st0 at c0 ⊢
 replace c0 : Kt p e below s₁ st0 (mkF m 0 #[vr s_, vi ch_, vi 0, vi 3, u_] []) := c0
 have c1 : Kt p e below s₁ st0 (mkF m 12 #[vr s_, vi ch_, vi 0, vi 3, vi 0] [(ii 0), (rr s_)]) := fun t k => by
  refine c0 t ?_
  show S_ p e below s₁ m 0 #[vr s_, vi ch_, vi 0, vi 3, u_] [] t
  refine XS.iloadN X0.here hx rfl (hb hby d25_0) rfl ?_
  refine XS.istore X0.here hx rfl (hb hby d25_1) rfl (l' := #[vr s_, vi ch_, vi 0, vi 3, vi 0]) rfl ?_
  refine XS.iload X0.here hx rfl (hb hby d25_3) rfl ?_
  refine XS.iloadN X0.here hx rfl (hb hby d25_5) rfl ?_
  refine XS.icmpNo X0.here hx rfl (hb hby d25_6) rfl rfl ?_
  refine XS.aloadN X0.here hx rfl (hb hby d25_9) rfl rfl ?_
  refine XS.iload X0.here hx rfl (hb hby d25_10) rfl ?_
  exact k
 obtain ⟨_, T2, L2, X2, hQ2, c2⟩ := kstat X0 hx hZ hown (w161 hw) (w162 hw) (w127 hw) (w163 hw) (rm_getc l Z a0 hw [] s_ ks_ (6 : Int32) [(.int (nar .byte ((c0_ >>> ((0 : Int32) &&& 31)).toInt8.toInt32))), (.int (nar .byte ((c0_ >>> ((8 : Int32) &&& 31)).toInt8.toInt32))), (.int (nar .byte ((c1_ >>> ((0 : Int32) &&& 31)).toInt8.toInt32))), (.int (nar .byte ((c1_ >>> ((8 : Int32) &&& 31)).toInt8.toInt32))), (.int (nar .byte ((c2_ >>> ((0 : Int32) &&& 31)).toInt8.toInt32))), (.int (nar .byte ((c2_ >>> ((8 : Int32) &&& 31)).toInt8.toInt32)))] (0 : Int32) ((nar .byte ((c0_ >>> ((0 : Int32) &&& 31)).toInt8.toInt32))) ((nar .byte ((c0_ >>> ((8 : Int32) &&& 31)).toInt8.toInt32))) c0_ h0 n0 O0 A0_ ZS1_ ZS2_ ZS3_ (by decide) (by decide) (by decide) (by decide) rfl rfl (own_get16 hc0_)) e0 c1 hml pd_pABIrC [(rr s_), (ii 0)] [] 0 (hb hby d25_12) rfl rfl rfl rfl rfl rfl
 obtain ⟨rfl, N3q, K4⟩ := hQ2
 have N3 := Fr.app N0 N3q
 have c5 : Kt p e below T2 st0 (mkF m 16 #[vr s_, vi ch_, vi 0, vi 3, vi 0] [(.int ch_), (.int c0_)]) := fun t k => by
  refine c2 t ?_
  show S_ p e below T2 m 15 #[vr s_, vi ch_, vi 0, vi 3, vi 0] [(.int c0_)] t
  refine XS.iloadN X2.here hx rfl (hb hby d25_15) rfl ?_
  exact k
 by_cases hc6 : c0_ = ch_
 ·obtain ⟨fs, hr, hrun, hended, hW, hsame⟩ := X2.leave (v := some (ii 0)) (fun h => by rw [Bd.returns] at h; cases h)
  refine ⟨_, _, c5 _ ?_, hrun, hended, _, _, rfl, ?_, ⟨_, rfl⟩, hW, hsame.mono (by decide) (by decide)⟩
  ·show S_ p e below T2 m 16 #[vr s_, vi ch_, vi 0, vi 3, vi 0] [(.int ch_), (.int c0_)] _
   refine XS.icmpNo X2.here hx rfl (hb hby d25_16) rfl (teq hc6).2 ?_
   refine XS.iload X2.here hx rfl (hb hby d25_19) rfl ?_
   show S_ p e below T2 m 21 #[vr s_, vi ch_, vi 0, vi 3, vi 0] [(ii 0)] _
   exact retOut X2 hx Bd.returns rfl (Or.inl ⟨rfl, Or.inl rfl, _, rfl⟩) (hb hby d25_21) hr
  ·show Q_uxu_3 Z s_ ks_ ch_ c0_ c1_ c2_ h0 n0 _ T2.heap _
   rw [K4]
   exact (Or.inl ⟨(0 : Int32), rfl, N3, rfl, (by decide), (Or.inl hc6)⟩)
 ·have c7 : Kt p e below T2 st0 (mkF m 12 #[vr s_, vi ch_, vi 0, vi 3, vi 1] [(ii 1), (rr s_)]) := fun t k => by
   refine c5 t ?_
   show S_ p e below T2 m 16 #[vr s_, vi ch_, vi 0, vi 3, vi 0] [(.int ch_), (.int c0_)] t
   refine yC X2.here hx rfl 16 22 rfl (hb hby d25_16) rfl (feq hc6).2 ?_
   refine XS.iinc X2.here hx rfl (hb hby d25_22) rfl (l' := #[vr s_, vi ch_, vi 0, vi 3, vi 1]) rfl ?_
   refine yG X2.here hx rfl 25 3 rfl (hb hby d25_25) ?_
   refine XS.iload X2.here hx rfl (hb hby d25_3) rfl ?_
   refine XS.iloadN X2.here hx rfl (hb hby d25_5) rfl ?_
   refine XS.icmpNo X2.here hx rfl (hb hby d25_6) rfl rfl ?_
   refine XS.aloadN X2.here hx rfl (hb hby d25_9) rfl rfl ?_
   refine XS.iload X2.here hx rfl (hb hby d25_10) rfl ?_
   exact k
  obtain ⟨_, T8, L8, X8, hQ8, c8⟩ := kstat X2 hx hZ hown (w161 hw) (w162 hw) (w127 hw) (w163 hw) (rm_getc l Z a0 hw [] s_ ks_ (6 : Int32) [(.int (nar .byte ((c0_ >>> ((0 : Int32) &&& 31)).toInt8.toInt32))), (.int (nar .byte ((c0_ >>> ((8 : Int32) &&& 31)).toInt8.toInt32))), (.int (nar .byte ((c1_ >>> ((0 : Int32) &&& 31)).toInt8.toInt32))), (.int (nar .byte ((c1_ >>> ((8 : Int32) &&& 31)).toInt8.toInt32))), (.int (nar .byte ((c2_ >>> ((0 : Int32) &&& 31)).toInt8.toInt32))), (.int (nar .byte ((c2_ >>> ((8 : Int32) &&& 31)).toInt8.toInt32)))] (1 : Int32) ((nar .byte ((c1_ >>> ((0 : Int32) &&& 31)).toInt8.toInt32))) ((nar .byte ((c1_ >>> ((8 : Int32) &&& 31)).toInt8.toInt32))) c1_ h0 n0 O0 A0_ ZS1_ ZS2_ ZS3_ (by decide) (by decide) (by decide) (by decide) rfl rfl (own_get16 hc1_)) K4 c7 hml pd_pABIrC [(rr s_), (ii 1)] [] 0 (hb hby d25_12) rfl rfl rfl rfl rfl rfl
  obtain ⟨rfl, N9q, K10⟩ := hQ8
  have N9 := Fr.app N3 N9q
  have c11 : Kt p e below T8 st0 (mkF m 16 #[vr s_, vi ch_, vi 0, vi 3, vi 1] [(.int ch_), (.int c1_)]) := fun t k => by
   refine c8 t ?_
   show S_ p e below T8 m 15 #[vr s_, vi ch_, vi 0, vi 3, vi 1] [(.int c1_)] t
   refine XS.iloadN X8.here hx rfl (hb hby d25_15) rfl ?_
   exact k
  by_cases hc12 : c1_ = ch_
  ·obtain ⟨fs, hr, hrun, hended, hW, hsame⟩ := X8.leave (v := some (ii 1)) (fun h => by rw [Bd.returns] at h; cases h)
   refine ⟨_, _, c11 _ ?_, hrun, hended, _, _, rfl, ?_, ⟨_, rfl⟩, hW, hsame.mono (by decide) (by decide)⟩
   ·show S_ p e below T8 m 16 #[vr s_, vi ch_, vi 0, vi 3, vi 1] [(.int ch_), (.int c1_)] _
    refine XS.icmpNo X8.here hx rfl (hb hby d25_16) rfl (teq hc12).2 ?_
    refine XS.iload X8.here hx rfl (hb hby d25_19) rfl ?_
    show S_ p e below T8 m 21 #[vr s_, vi ch_, vi 0, vi 3, vi 1] [(ii 1)] _
    exact retOut X8 hx Bd.returns rfl (Or.inl ⟨rfl, Or.inl rfl, _, rfl⟩) (hb hby d25_21) hr
   ·show Q_uxu_3 Z s_ ks_ ch_ c0_ c1_ c2_ h0 n0 _ T8.heap _
    rw [K10]
    exact (Or.inl ⟨(1 : Int32), rfl, N9, rfl, (by decide), (Or.inr (Or.inl hc12))⟩)
  ·have c13 : Kt p e below T8 st0 (mkF m 12 #[vr s_, vi ch_, vi 0, vi 3, vi 2] [(ii 2), (rr s_)]) := fun t k => by
    refine c11 t ?_
    show S_ p e below T8 m 16 #[vr s_, vi ch_, vi 0, vi 3, vi 1] [(.int ch_), (.int c1_)] t
    refine yC X8.here hx rfl 16 22 rfl (hb hby d25_16) rfl (feq hc12).2 ?_
    refine XS.iinc X8.here hx rfl (hb hby d25_22) rfl (l' := #[vr s_, vi ch_, vi 0, vi 3, vi 2]) rfl ?_
    refine yG X8.here hx rfl 25 3 rfl (hb hby d25_25) ?_
    refine XS.iload X8.here hx rfl (hb hby d25_3) rfl ?_
    refine XS.iloadN X8.here hx rfl (hb hby d25_5) rfl ?_
    refine XS.icmpNo X8.here hx rfl (hb hby d25_6) rfl rfl ?_
    refine XS.aloadN X8.here hx rfl (hb hby d25_9) rfl rfl ?_
    refine XS.iload X8.here hx rfl (hb hby d25_10) rfl ?_
    exact k
   obtain ⟨_, T14, L14, X14, hQ14, c14⟩ := kstat X8 hx hZ hown (w161 hw) (w162 hw) (w127 hw) (w163 hw) (rm_getc l Z a0 hw [] s_ ks_ (6 : Int32) [(.int (nar .byte ((c0_ >>> ((0 : Int32) &&& 31)).toInt8.toInt32))), (.int (nar .byte ((c0_ >>> ((8 : Int32) &&& 31)).toInt8.toInt32))), (.int (nar .byte ((c1_ >>> ((0 : Int32) &&& 31)).toInt8.toInt32))), (.int (nar .byte ((c1_ >>> ((8 : Int32) &&& 31)).toInt8.toInt32))), (.int (nar .byte ((c2_ >>> ((0 : Int32) &&& 31)).toInt8.toInt32))), (.int (nar .byte ((c2_ >>> ((8 : Int32) &&& 31)).toInt8.toInt32)))] (2 : Int32) ((nar .byte ((c2_ >>> ((0 : Int32) &&& 31)).toInt8.toInt32))) ((nar .byte ((c2_ >>> ((8 : Int32) &&& 31)).toInt8.toInt32))) c2_ h0 n0 O0 A0_ ZS1_ ZS2_ ZS3_ (by decide) (by decide) (by decide) (by decide) rfl rfl (own_get16 hc2_)) K10 c13 hml pd_pABIrC [(rr s_), (ii 2)] [] 0 (hb hby d25_12) rfl rfl rfl rfl rfl rfl
   obtain ⟨rfl, N15q, K16⟩ := hQ14
   have N15 := Fr.app N9 N15q
   have c17 : Kt p e below T14 st0 (mkF m 16 #[vr s_, vi ch_, vi 0, vi 3, vi 2] [(.int ch_), (.int c2_)]) := fun t k => by
    refine c14 t ?_
    show S_ p e below T14 m 15 #[vr s_, vi ch_, vi 0, vi 3, vi 2] [(.int c2_)] t
    refine XS.iloadN X14.here hx rfl (hb hby d25_15) rfl ?_
    exact k
   by_cases hc18 : c2_ = ch_
   ·obtain ⟨fs, hr, hrun, hended, hW, hsame⟩ := X14.leave (v := some (ii 2)) (fun h => by rw [Bd.returns] at h; cases h)
    refine ⟨_, _, c17 _ ?_, hrun, hended, _, _, rfl, ?_, ⟨_, rfl⟩, hW, hsame.mono (by decide) (by decide)⟩
    ·show S_ p e below T14 m 16 #[vr s_, vi ch_, vi 0, vi 3, vi 2] [(.int ch_), (.int c2_)] _
     refine XS.icmpNo X14.here hx rfl (hb hby d25_16) rfl (teq hc18).2 ?_
     refine XS.iload X14.here hx rfl (hb hby d25_19) rfl ?_
     show S_ p e below T14 m 21 #[vr s_, vi ch_, vi 0, vi 3, vi 2] [(ii 2)] _
     exact retOut X14 hx Bd.returns rfl (Or.inl ⟨rfl, Or.inl rfl, _, rfl⟩) (hb hby d25_21) hr
    ·show Q_uxu_3 Z s_ ks_ ch_ c0_ c1_ c2_ h0 n0 _ T14.heap _
     rw [K16]
     exact (Or.inl ⟨(2 : Int32), rfl, N15, rfl, (by decide), (Or.inr (Or.inr (hc18)))⟩)
   ·obtain ⟨fs, hr, hrun, hended, hW, hsame⟩ := X14.leave (v := some (ii (-1))) (fun h => by rw [Bd.returns] at h; cases h)
    refine ⟨_, _, c17 _ ?_, hrun, hended, _, _, rfl, ?_, ⟨_, rfl⟩, hW, hsame.mono (by decide) (by decide)⟩
    ·show S_ p e below T14 m 16 #[vr s_, vi ch_, vi 0, vi 3, vi 2] [(.int ch_), (.int c2_)] _
     refine yC X14.here hx rfl 16 22 rfl (hb hby d25_16) rfl (feq hc18).2 ?_
     refine XS.iinc X14.here hx rfl (hb hby d25_22) rfl (l' := #[vr s_, vi ch_, vi 0, vi 3, vi 3]) rfl ?_
     refine yG X14.here hx rfl 25 3 rfl (hb hby d25_25) ?_
     refine XS.iload X14.here hx rfl (hb hby d25_3) rfl ?_
     refine XS.iloadN X14.here hx rfl (hb hby d25_5) rfl ?_
     refine yC X14.here hx rfl 6 28 rfl (hb hby d25_6) rfl rfl ?_
     refine XS.iconst X14.here hx rfl (hb hby d25_28) ?_
     show S_ p e below T14 m 29 #[vr s_, vi ch_, vi 0, vi 3, vi 3] [(ii (-1))] _
     exact retOut X14 hx Bd.returns rfl (Or.inl ⟨rfl, Or.inl rfl, _, rfl⟩) (hb hby d25_29) hr
    ·show Q_uxu_3 Z s_ ks_ ch_ c0_ c1_ c2_ h0 n0 _ T14.heap _
     rw [K16]
     exact (Or.inr (⟨rfl, N15, rfl, hc6, hc12, hc18⟩))
theorem ef_ux_3 (m : MethodId) (s_ : Addr) (ch_ : Int32) : entryFrame m #[(rr s_), (.int ch_), (ii 0), (ii 3)] 4 = mkF m 0 #[vr s_, vi ch_, vi 0, vi 3] [] := by first | (simp [entryFrame, mkF, argsToLocals, Value.category]; done) | rfl
def Q_ux_3 (Z : State) (s_ : Addr) (ks_ : ClassId) (ch_ : Int32) (c0_ : Int32) (c1_ : Int32) (c2_ : Int32) (fm_ : Value) (h0 : Heap) (n0 : Nat) (v : Option Value) (h : Heap) (L : List Loc) : Prop := (∃ (r_ : Int32), v = some (.int r_) ∧ Fr n0 L ∧ h = h0 ∧ ¬ (r_ < (0 : Int32)) ∧ ((c0_ = ch_ ∨ c1_ = ch_ ∨ c2_ = ch_))) ∨ (v = some (ii (-1)) ∧ Fr n0 L ∧ h = h0 ∧ ¬ (c0_ = ch_) ∧ ¬ (c1_ = ch_) ∧ ¬ (c2_ = ch_))
set_option maxRecDepth 65536 in
set_option maxHeartbeats 40000000 in
theorem rm_ux_3 (l : Launch) (Z : State) (a0 : Array Value) (hw : HW Z a0) (ws : List Jvm.Cond) (s_ : Addr) (ks_ : ClassId) (ch_ : Int32) (c0_ : Int32) (c1_ : Int32) (c2_ : Int32) (fm_ : Value) (h0 : Heap) (n0 : Nat) (O0 : Old Z n0 h0) (A0_ : Arv Z h0 s_ ks_ .byte (6 : Int32) [(.int (nar .byte ((c0_ >>> ((0 : Int32) &&& 31)).toInt8.toInt32))), (.int (nar .byte ((c0_ >>> ((8 : Int32) &&& 31)).toInt8.toInt32))), (.int (nar .byte ((c1_ >>> ((0 : Int32) &&& 31)).toInt8.toInt32))), (.int (nar .byte ((c1_ >>> ((8 : Int32) &&& 31)).toInt8.toInt32))), (.int (nar .byte ((c2_ >>> ((0 : Int32) &&& 31)).toInt8.toInt32))), (.int (nar .byte ((c2_ >>> ((8 : Int32) &&& 31)).toInt8.toInt32)))] (ii 0)) (ZS1_ : Sta Z Z.heap nm1 "$assertionsDisabled" "Z" (ii 1)) (ZS2_ : Sta Z Z.heap nm1 "HI_BYTE_SHIFT" "I" (ii 0)) (ZS3_ : Sta Z Z.heap nm1 "LO_BYTE_SHIFT" "I" (ii 8)) (hc0_ : nar .char c0_ = c0_) (hc1_ : nar .char c1_ = c1_) (hc2_ : nar .char c2_ = c2_) (ZS7_ : Sta Z Z.heap nm4 "SIOOBE_FORMATTER" nm6 fm_) (hfm_ : fm_.isRef = true) :
  MFP l Z (⟨nm1, "indexOfChar", "([BIII)I"⟩ : MethodName) jdk_52_method_47_code 4 (some .int) ({ frames := 3, cells := 0, slots := 0, locals := 43 } : Room) ws #[(rr s_), (.int ch_), (ii 0), (ii 3)] h0 (Q_ux_3 Z s_ ks_ ch_ c0_ c1_ c2_ fm_ h0 n0) := by
 refine MetFree.of_bodySF (plainFor_of_name pn_java_lang_StringUTF16) hisR ?_
 intro p e s m args below meth c s₁ Bd hml0 hP hK
 obtain ⟨rfl, hZ, hh⟩ := hP
 have hx := Bd.exec
 have hby := Bd.bytes
 have hml : c.maxLocals = 4 := hml0
 have hown : s.vm.findClass nm1 = some m.cls := findClass_of_methodNamed Bd.named
 have hnm := (name_of_methodNamed Bd.named Bd.method).1
 have X0 : Stand p l e ({ frames := 3, cells := 0, slots := 0, locals := 43 } : Room) s m #[(rr s_), (.int ch_), (ii 0), (ii 3)] below meth c s₁ [] 0 0 := Stand.of_body Bd
 have e0 : s₁.heap = h0 := by rw [← hh, Bd.state]; rfl
 have N0 := Fr.nil n0
 have kp0 : Keep h0 h0 [] := Keep.refl _ _
 have c0 : ∀ t, S_ p e below s₁ m 0 #[vr s_, vi ch_, vi 0, vi 3] [] t → Steps p.tables e below (s₁.setTop (entryFrame m #[(rr s_), (.int ch_), (ii 0), (ii 3)] 4)) t := fun t k => castTop (ef_ux_3 m s_ ch_) k
 generalize s₁.setTop (entryFrame m #[(rr s_), (.int ch_), (ii 0), (ii 3)] 4) = st0 at c0 ⊢
 replace c0 : Kt p e below s₁ st0 (mkF m 0 #[vr s_, vi ch_, vi 0, vi 3] []) := c0
 have c1 : Kt p e below s₁ st0 (mkF m 3 #[vr s_, vi ch_, vi 0, vi 3] [(rr s_), (ii 3), (ii 0)]) := fun t k => by
  refine c0 t ?_
  show S_ p e below s₁ m 0 #[vr s_, vi ch_, vi 0, vi 3] [] t
  refine XS.iloadN X0.here hx rfl (hb hby d26_0) rfl ?_
  refine XS.iloadN X0.here hx rfl (hb hby d26_1) rfl ?_
  refine XS.aloadN X0.here hx rfl (hb hby d26_2) rfl rfl ?_
  exact k
 obtain ⟨_, T2, L2, X2, hQ2, c2⟩ := kstat X0 hx hZ hown (w173 hw) (w174 hw) (w127 hw) (w175 hw) (rm_ucbe_3 l Z a0 hw [] s_ ks_ [(.int (nar .byte ((c0_ >>> ((0 : Int32) &&& 31)).toInt8.toInt32))), (.int (nar .byte ((c0_ >>> ((8 : Int32) &&& 31)).toInt8.toInt32))), (.int (nar .byte ((c1_ >>> ((0 : Int32) &&& 31)).toInt8.toInt32))), (.int (nar .byte ((c1_ >>> ((8 : Int32) &&& 31)).toInt8.toInt32))), (.int (nar .byte ((c2_ >>> ((0 : Int32) &&& 31)).toInt8.toInt32))), (.int (nar .byte ((c2_ >>> ((8 : Int32) &&& 31)).toInt8.toInt32)))] fm_ h0 n0 O0 A0_ ZS7_ hfm_) e0 c1 hml pd_pIIABrV [(ii 0), (ii 3), (rr s_)] [] 0 (hb hby d26_3) rfl rfl rfl rfl rfl rfl
 obtain ⟨rfl, N3q, K4⟩ := hQ2
 have N3 := Fr.app N0 N3q
 have c5 : Kt p e below T2 st0 (mkF m 10 #[vr s_, vi ch_, vi 0, vi 3] [(ii 3), (ii 0), (.int ch_), (rr s_)]) := fun t k => by
  refine c2 t ?_
  show S_ p e below T2 m 6 #[vr s_, vi ch_, vi 0, vi 3] [] t
  refine XS.aloadN X2.here hx rfl (hb hby d26_6) rfl rfl ?_
  refine XS.iloadN X2.here hx rfl (hb hby d26_7) rfl ?_
  refine XS.iloadN X2.here hx rfl (hb hby d26_8) rfl ?_
  refine XS.iloadN X2.here hx rfl (hb hby d26_9) rfl ?_
  exact k
 obtain ⟨_, T6, L6, X6, hQ6, c6⟩ := kstat X2 hx hZ hown (w187 hw) (w188 hw) (w127 hw) (w189 hw) (rm_uxu_3 l Z a0 hw [] s_ ks_ ch_ c0_ c1_ c2_ h0 n0 O0 A0_ ZS1_ ZS2_ ZS3_ hc0_ hc1_ hc2_) K4 c5 hml pd_pABIIIrI [(rr s_), (.int ch_), (ii 0), (ii 3)] [] 0 (hb hby d26_10) rfl rfl rfl rfl rfl rfl
 rcases hQ6 with hQ6 | hQ6
 ·obtain ⟨i7, rfl, N8q, K9, p10, p11⟩ := hQ6
  have N8 := Fr.app N3 N8q
  obtain ⟨fs, hr, hrun, hended, hW, hsame⟩ := X6.leave (v := some (.int i7)) (fun h => by rw [Bd.returns] at h; cases h)
  refine ⟨_, _, c6 _ ?_, hrun, hended, _, _, rfl, ?_, ⟨_, rfl⟩, hW, hsame.mono (by decide) (by decide)⟩
  ·show S_ p e below T6 m 13 #[vr s_, vi ch_, vi 0, vi 3] [(.int i7)] _
   exact retOut X6 hx Bd.returns rfl (Or.inl ⟨rfl, Or.inl rfl, _, rfl⟩) (hb hby d26_13) hr
  ·show Q_ux_3 Z s_ ks_ ch_ c0_ c1_ c2_ fm_ h0 n0 _ T6.heap _
   rw [K9]
   exact (Or.inl ⟨i7, rfl, N8, rfl, p10, p11⟩)
 ·obtain ⟨rfl, N12q, K13, p14, p15, p16⟩ := hQ6
  have N12 := Fr.app N3 N12q
  obtain ⟨fs, hr, hrun, hended, hW, hsame⟩ := X6.leave (v := some (ii (-1))) (fun h => by rw [Bd.returns] at h; cases h)
  refine ⟨_, _, c6 _ ?_, hrun, hended, _, _, rfl, ?_, ⟨_, rfl⟩, hW, hsame.mono (by decide) (by decide)⟩
  ·show S_ p e below T6 m 13 #[vr s_, vi ch_, vi 0, vi 3] [(ii (-1))] _
   exact retOut X6 hx Bd.returns rfl (Or.inl ⟨rfl, Or.inl rfl, _, rfl⟩) (hb hby d26_13) hr
  ·show Q_ux_3 Z s_ ks_ ch_ c0_ c1_ c2_ fm_ h0 n0 _ T6.heap _
   rw [K13]
   exact (Or.inr (⟨rfl, N12, rfl, p14, p15, p16⟩))
theorem ef_ui_3 (m : MethodId) (s_ : Addr) (ch_ : Int32) : entryFrame m #[(rr s_), (.int ch_), (ii 0), (ii 3)] 4 = mkF m 0 #[vr s_, vi ch_, vi 0, vi 3] [] := by first | (simp [entryFrame, mkF, argsToLocals, Value.category]; done) | rfl
def Q_ui_3 (Z : State) (s_ : Addr) (ks_ : ClassId) (ch_ : Int32) (c0_ : Int32) (c1_ : Int32) (c2_ : Int32) (fm_ : Value) (h0 : Heap) (n0 : Nat) (v : Option Value) (h : Heap) (L : List Loc) : Prop := (∃ (r_ : Int32), v = some (.int r_) ∧ Fr n0 L ∧ h = h0 ∧ ¬ (r_ < (0 : Int32)) ∧ ((c0_ = ch_ ∨ c1_ = ch_ ∨ c2_ = ch_))) ∨ (v = some (ii (-1)) ∧ Fr n0 L ∧ h = h0 ∧ ¬ (c0_ = ch_) ∧ ¬ (c1_ = ch_) ∧ ¬ (c2_ = ch_))
set_option maxRecDepth 65536 in
set_option maxHeartbeats 40000000 in
theorem rm_ui_3 (l : Launch) (Z : State) (a0 : Array Value) (hw : HW Z a0) (ws : List Jvm.Cond) (s_ : Addr) (ks_ : ClassId) (ch_ : Int32) (c0_ : Int32) (c1_ : Int32) (c2_ : Int32) (fm_ : Value) (h0 : Heap) (n0 : Nat) (O0 : Old Z n0 h0) (A0_ : Arv Z h0 s_ ks_ .byte (6 : Int32) [(.int (nar .byte ((c0_ >>> ((0 : Int32) &&& 31)).toInt8.toInt32))), (.int (nar .byte ((c0_ >>> ((8 : Int32) &&& 31)).toInt8.toInt32))), (.int (nar .byte ((c1_ >>> ((0 : Int32) &&& 31)).toInt8.toInt32))), (.int (nar .byte ((c1_ >>> ((8 : Int32) &&& 31)).toInt8.toInt32))), (.int (nar .byte ((c2_ >>> ((0 : Int32) &&& 31)).toInt8.toInt32))), (.int (nar .byte ((c2_ >>> ((8 : Int32) &&& 31)).toInt8.toInt32)))] (ii 0)) (ZS1_ : Sta Z Z.heap nm1 "$assertionsDisabled" "Z" (ii 1)) (ZS2_ : Sta Z Z.heap nm1 "HI_BYTE_SHIFT" "I" (ii 0)) (ZS3_ : Sta Z Z.heap nm1 "LO_BYTE_SHIFT" "I" (ii 8)) (hc0_ : nar .char c0_ = c0_) (hc1_ : nar .char c1_ = c1_) (hc2_ : nar .char c2_ = c2_) (ZS7_ : Sta Z Z.heap nm4 "SIOOBE_FORMATTER" nm6 fm_) (hfm_ : fm_.isRef = true) (h3_ : ch_ < (65536 : Int32)) :
  MFP l Z (⟨nm1, "indexOf", "([BIII)I"⟩ : MethodName) jdk_52_method_40_code 4 (some .int) ({ frames := 4, cells := 0, slots := 0, locals := 58 } : Room) ws #[(rr s_), (.int ch_), (ii 0), (ii 3)] h0 (Q_ui_3 Z s_ ks_ ch_ c0_ c1_ c2_ fm_ h0 n0) := by
 refine MetFree.of_bodySF (plainFor_of_name pn_java_lang_StringUTF16) hisR ?_
 intro p e s m args below meth c s₁ Bd hml0 hP hK
 obtain ⟨rfl, hZ, hh⟩ := hP
 have hx := Bd.exec
 have hby := Bd.bytes
 have hml : c.maxLocals = 4 := hml0
 have hown : s.vm.findClass nm1 = some m.cls := findClass_of_methodNamed Bd.named
 have hnm := (name_of_methodNamed Bd.named Bd.method).1
 have X0 : Stand p l e ({ frames := 4, cells := 0, slots := 0, locals := 58 } : Room) s m #[(rr s_), (.int ch_), (ii 0), (ii 3)] below meth c s₁ [] 0 0 := Stand.of_body Bd
 have e0 : s₁.heap = h0 := by rw [← hh, Bd.state]; rfl
 have N0 := Fr.nil n0
 have kp0 : Keep h0 h0 [] := Keep.refl _ _
 have c0 : ∀ t, S_ p e below s₁ m 0 #[vr s_, vi ch_, vi 0, vi 3] [] t → Steps p.tables e below (s₁.setTop (entryFrame m #[(rr s_), (.int ch_), (ii 0), (ii 3)] 4)) t := fun t k => castTop (ef_ui_3 m s_ ch_) k
 generalize s₁.setTop (entryFrame m #[(rr s_), (.int ch_), (ii 0), (ii 3)] 4) = st0 at c0 ⊢
 replace c0 : Kt p e below s₁ st0 (mkF m 0 #[vr s_, vi ch_, vi 0, vi 3] []) := c0
 have c1 : Kt p e below s₁ st0 (mkF m 2 #[vr s_, vi ch_, vi 0, vi 3] [(ii 0), (ii 0)]) := fun t k => by
  refine c0 t ?_
  show S_ p e below s₁ m 0 #[vr s_, vi ch_, vi 0, vi 3] [] t
  refine XS.iloadN X0.here hx rfl (hb hby d27_0) rfl ?_
  refine XS.iconst X0.here hx rfl (hb hby d27_1) ?_
  exact k
 obtain ⟨_, T2, L2, X2, hQ2, c2⟩ := kstat X0 hx hZ hown (w167 hw) (w65 hw) (w66 hw) (w67 hw) (rm_mx0 l Z a0 hw []  h0 n0 O0 ) e0 c1 hml pd_pIIrI [(ii 0), (ii 0)] [] 0 (hb hby d27_2) rfl rfl rfl rfl rfl rfl
 obtain ⟨rfl, N3q, K4⟩ := hQ2
 have N3 := Fr.app N0 N3q
 have c5 : Kt p e below T2 st0 (mkF m 11 #[vr s_, vi ch_, vi 0, vi 3] [(ii 3), (ii 3)]) := fun t k => by
  refine c2 t ?_
  show S_ p e below T2 m 5 #[vr s_, vi ch_, vi 0, vi 3] [(ii 0)] t
  refine XS.istoreN X2.here hx rfl (hb hby d27_5) rfl (l' := #[vr s_, vi ch_, vi 0, vi 3]) rfl ?_
  refine XS.iloadN X2.here hx rfl (hb hby d27_6) rfl ?_
  refine XS.aloadN X2.here hx rfl (hb hby d27_7) rfl rfl ?_
  refine ldLen X2 hx hZ K4 A0_ rfl rfl (hb hby d27_8) ?_
  refine XS.iconst X2.here hx rfl (hb hby d27_9) ?_
  refine XS.ishr X2.here hx rfl (hb hby d27_10) rfl ?_
  exact k
 obtain ⟨_, T6, L6, X6, hQ6, c6⟩ := kstat X2 hx hZ hown (w168 hw) (w69 hw) (w66 hw) (w70 hw) (rm_mn3 l Z a0 hw []  h0 n0 O0 ) K4 c5 hml pd_pIIrI [(ii 3), (ii 3)] [] 0 (hb hby d27_11) rfl rfl rfl rfl rfl rfl
 obtain ⟨rfl, N7q, K8⟩ := hQ6
 have N7 := Fr.app N3 N7q
 have c9 : Kt p e below T6 st0 (mkF m 32 #[vr s_, vi ch_, vi 0, vi 3] [(ii 3), (ii 0), (.int ch_), (rr s_)]) := fun t k => by
  refine c6 t ?_
  show S_ p e below T6 m 14 #[vr s_, vi ch_, vi 0, vi 3] [(ii 3)] t
  refine XS.istoreN X6.here hx rfl (hb hby d27_14) rfl (l' := #[vr s_, vi ch_, vi 0, vi 3]) rfl ?_
  refine XS.iloadN X6.here hx rfl (hb hby d27_15) rfl ?_
  refine XS.iloadN X6.here hx rfl (hb hby d27_16) rfl ?_
  refine yC X6.here hx rfl 17 22 rfl (hb hby d27_17) rfl rfl ?_
  refine XS.iloadN X6.here hx rfl (hb hby d27_22) rfl ?_
  show S_ p e below T6 m 23 #[vr s_, vi ch_, vi 0, vi 3] [(.int ch_)] t
  refine X6.ldcInt hx hown (mvT hZ (w169 hw)) (g := (mkF m 23 #[vr s_, vi ch_, vi 0, vi 3] [(.int ch_)])) rfl (hb hby d27_23) _ ?_
  refine XS.icmpNo X6.here hx rfl (hb hby d27_25) rfl (tlt h3_).2.1 ?_
  refine XS.aloadN X6.here hx rfl (hb hby d27_28) rfl rfl ?_
  refine XS.iloadN X6.here hx rfl (hb hby d27_29) rfl ?_
  refine XS.iloadN X6.here hx rfl (hb hby d27_30) rfl ?_
  refine XS.iloadN X6.here hx rfl (hb hby d27_31) rfl ?_
  exact k
 obtain ⟨_, T10, L10, X10, hQ10, c10⟩ := kstat X6 hx hZ hown (w170 hw) (w171 hw) (w127 hw) (w172 hw) (rm_ux_3 l Z a0 hw [] s_ ks_ ch_ c0_ c1_ c2_ fm_ h0 n0 O0 A0_ ZS1_ ZS2_ ZS3_ hc0_ hc1_ hc2_ ZS7_ hfm_) K8 c9 hml pd_pABIIIrI [(rr s_), (.int ch_), (ii 0), (ii 3)] [] 0 (hb hby d27_32) rfl rfl rfl rfl rfl rfl
 rcases hQ10 with hQ10 | hQ10
 ·obtain ⟨i11, rfl, N12q, K13, p14, p15⟩ := hQ10
  have N12 := Fr.app N7 N12q
  obtain ⟨fs, hr, hrun, hended, hW, hsame⟩ := X10.leave (v := some (.int i11)) (fun h => by rw [Bd.returns] at h; cases h)
  refine ⟨_, _, c10 _ ?_, hrun, hended, _, _, rfl, ?_, ⟨_, rfl⟩, hW, hsame.mono (by decide) (by decide)⟩
  ·show S_ p e below T10 m 35 #[vr s_, vi ch_, vi 0, vi 3] [(.int i11)] _
   exact retOut X10 hx Bd.returns rfl (Or.inl ⟨rfl, Or.inl rfl, _, rfl⟩) (hb hby d27_35) hr
  ·show Q_ui_3 Z s_ ks_ ch_ c0_ c1_ c2_ fm_ h0 n0 _ T10.heap _
   rw [K13]
   exact (Or.inl ⟨i11, rfl, N12, rfl, p14, p15⟩)
 ·obtain ⟨rfl, N16q, K17, p18, p19, p20⟩ := hQ10
  have N16 := Fr.app N7 N16q
  obtain ⟨fs, hr, hrun, hended, hW, hsame⟩ := X10.leave (v := some (ii (-1))) (fun h => by rw [Bd.returns] at h; cases h)
  refine ⟨_, _, c10 _ ?_, hrun, hended, _, _, rfl, ?_, ⟨_, rfl⟩, hW, hsame.mono (by decide) (by decide)⟩
  ·show S_ p e below T10 m 35 #[vr s_, vi ch_, vi 0, vi 3] [(ii (-1))] _
   exact retOut X10 hx Bd.returns rfl (Or.inl ⟨rfl, Or.inl rfl, _, rfl⟩) (hb hby d27_35) hr
  ·show Q_ui_3 Z s_ ks_ ch_ c0_ c1_ c2_ fm_ h0 n0 _ T10.heap _
   rw [K17]
   exact (Or.inr (⟨rfl, N16, rfl, p18, p19, p20⟩))
theorem ef_lenU_3 (m : MethodId) (x_ : Addr) : entryFrame m #[(rr x_)] 1 = mkF m 0 #[vr x_] [] := by first | (simp [entryFrame, mkF, argsToLocals, Value.category]; done) | rfl
def Q_lenU_3 (Z : State) (x_ : Addr) (s_ : Addr) (ks_ : ClassId) (vs_ : List Value) (z_ : Int32) (h0 : Heap) (n0 : Nat) (v : Option Value) (h : Heap) (L : List Loc) : Prop := v = some (ii 3) ∧ Fr n0 L ∧ h = h0
set_option maxRecDepth 65536 in
set_option maxHeartbeats 40000000 in
theorem rm_lenU_3 (l : Launch) (Z : State) (a0 : Array Value) (hw : HW Z a0) (ws : List Jvm.Cond) (x_ : Addr) (s_ : Addr) (ks_ : ClassId) (vs_ : List Value) (z_ : Int32) (h0 : Heap) (n0 : Nat) (O0 : Old Z n0 h0) (E0_ : Exa Z h0 x_ nm0) (F1_ : Fld Z h0 x_ nm0 "coder" "B" (ii 1)) (F2_ : Fld Z h0 x_ nm0 "value" "[B" (rr s_)) (A3_ : Arv Z h0 s_ ks_ .byte (6 : Int32) vs_ (ii 0)) (ZS4_ : Sta Z Z.heap nm0 "COMPACT_STRINGS" "Z" (.int z_)) (hz_ : ¬ (z_ = (0 : Int32))) :
  MFP l Z (⟨nm0, "length", "()I"⟩ : MethodName) jdk_42_method_54_code 1 (some .int) ({ frames := 1, cells := 0, slots := 0, locals := 13 } : Room) ws #[(rr x_)] h0 (Q_lenU_3 Z x_ s_ ks_ vs_ z_ h0 n0) := by
 refine MetFree.of_bodySF (plainFor_of_name pn_java_lang_String) hisR ?_
 intro p e s m args below meth c s₁ Bd hml0 hP hK
 obtain ⟨rfl, hZ, hh⟩ := hP
 have hx := Bd.exec
 have hby := Bd.bytes
 have hml : c.maxLocals = 1 := hml0
 have hown : s.vm.findClass nm0 = some m.cls := findClass_of_methodNamed Bd.named
 have hnm := (name_of_methodNamed Bd.named Bd.method).1
 have X0 : Stand p l e ({ frames := 1, cells := 0, slots := 0, locals := 13 } : Room) s m #[(rr x_)] below meth c s₁ [] 0 0 := Stand.of_body Bd
 have e0 : s₁.heap = h0 := by rw [← hh, Bd.state]; rfl
 have N0 := Fr.nil n0
 have kp0 : Keep h0 h0 [] := Keep.refl _ _
 have c0 : ∀ t, S_ p e below s₁ m 0 #[vr x_] [] t → Steps p.tables e below (s₁.setTop (entryFrame m #[(rr x_)] 1)) t := fun t k => castTop (ef_lenU_3 m x_) k
 generalize s₁.setTop (entryFrame m #[(rr x_)] 1) = st0 at c0 ⊢
 replace c0 : Kt p e below s₁ st0 (mkF m 0 #[vr x_] []) := c0
 have c1 : Kt p e below s₁ st0 (mkF m 1 #[vr x_] [(rr x_)]) := fun t k => by
  refine c0 t ?_
  show S_ p e below s₁ m 0 #[vr x_] [] t
  refine XS.aloadN X0.here hx rfl (hb hby d17_0) rfl rfl ?_
  exact k
 obtain ⟨T2, X2, e2, c2⟩ := kget X0 hx hZ hown (host := "") (Or.inl (w24 hw)) Via.refl e0 F2_ c1 rfl rfl (hb hby d17_1)
 have c3 : Kt p e below T2 st0 (mkF m 6 #[vr x_] [(rr x_), (ii 6)]) := fun t k => by
  refine c2 t ?_
  show S_ p e below T2 m 4 #[vr x_] [(rr s_)] t
  refine ldLen X2 hx hZ e2 A3_ rfl rfl (hb hby d17_4) ?_
  refine XS.aloadN X2.here hx rfl (hb hby d17_5) rfl rfl ?_
  exact k
 obtain ⟨_, T4, L4, X4, hQ4, c4⟩ := kvirt X2 hx hZ hown (w52 hw) (w53 hw) (w55 hw) (w54 hw) (w56 hw) (w6 hw) (rm_codU l Z a0 hw [] x_ z_ h0 n0 O0 F1_ ZS4_ hz_) e2 E0_ c3 hml pd_prB [] [(ii 6)] 1 (hb hby d17_6) rfl rfl rfl rfl rfl rfl
 obtain ⟨rfl, N5q, K6⟩ := hQ4
 have N5 := Fr.app N0 N5q
 obtain ⟨fs, hr, hrun, hended, hW, hsame⟩ := X4.leave (v := some (ii 3)) (fun h => by rw [Bd.returns] at h; cases h)
 refine ⟨_, _, c4 _ ?_, hrun, hended, _, _, rfl, ?_, ⟨_, rfl⟩, hW, hsame.mono (by decide) (by decide)⟩
 ·show S_ p e below T4 m 9 #[vr x_] [(ii 1), (ii 6)] _
  refine XS.ishr X4.here hx rfl (hb hby d17_9) rfl ?_
  show S_ p e below T4 m 10 #[vr x_] [(ii 3)] _
  exact retOut X4 hx Bd.returns rfl (Or.inl ⟨rfl, Or.inl rfl, _, rfl⟩) (hb hby d17_10) hr
 ·show Q_lenU_3 Z x_ s_ ks_ vs_ z_ h0 n0 _ T4.heap _
  rw [K6]
  exact ⟨rfl, N5, rfl⟩
theorem ef_six2U_3 (m : MethodId) (x_ : Addr) (ch_ : Int32) : entryFrame m #[(rr x_), (.int ch_), (ii 0)] 3 = mkF m 0 #[vr x_, vi ch_, vi 0] [] := by first | (simp [entryFrame, mkF, argsToLocals, Value.category]; done) | rfl
def Q_six2U_3 (Z : State) (x_ : Addr) (z_ : Int32) (s_ : Addr) (ks_ : ClassId) (ch_ : Int32) (c0_ : Int32) (c1_ : Int32) (c2_ : Int32) (fm_ : Value) (h0 : Heap) (n0 : Nat) (v : Option Value) (h : Heap) (L : List Loc) : Prop := (∃ (r_ : Int32), v = some (.int r_) ∧ Fr n0 L ∧ h = h0 ∧ ¬ (r_ < (0 : Int32)) ∧ ((c0_ = ch_ ∨ c1_ = ch_ ∨ c2_ = ch_))) ∨ (v = some (ii (-1)) ∧ Fr n0 L ∧ h = h0 ∧ ¬ (c0_ = ch_) ∧ ¬ (c1_ = ch_) ∧ ¬ (c2_ = ch_))
set_option maxRecDepth 65536 in
set_option maxHeartbeats 40000000 in
theorem rm_six2U_3 (l : Launch) (Z : State) (a0 : Array Value) (hw : HW Z a0) (ws : List Jvm.Cond) (x_ : Addr) (z_ : Int32) (s_ : Addr) (ks_ : ClassId) (ch_ : Int32) (c0_ : Int32) (c1_ : Int32) (c2_ : Int32) (fm_ : Value) (h0 : Heap) (n0 : Nat) (O0 : Old Z n0 h0) (E0_ : Exa Z h0 x_ nm0) (F1_ : Fld Z h0 x_ nm0 "coder" "B" (ii 1)) (F2_ : Fld Z h0 x_ nm0 "value" "[B" (rr s_)) (A3_ : Arv Z h0 s_ ks_ .byte (6 : Int32) [(.int (nar .byte ((c0_ >>> ((0 : Int32) &&& 31)).toInt8.toInt32))), (.int (nar .byte ((c0_ >>> ((8 : Int32) &&& 31)).toInt8.toInt32))), (.int (nar .byte ((c1_ >>> ((0 : Int32) &&& 31)).toInt8.toInt32))), (.int (nar .byte ((c1_ >>> ((8 : Int32) &&& 31)).toInt8.toInt32))), (.int (nar .byte ((c2_ >>> ((0 : Int32) &&& 31)).toInt8.toInt32))), (.int (nar .byte ((c2_ >>> ((8 : Int32) &&& 31)).toInt8.toInt32)))] (ii 0)) (ZS4_ : Sta Z Z.heap nm0 "COMPACT_STRINGS" "Z" (.int z_)) (hz_ : ¬ (z_ = (0 : Int32))) (ZS6_ : Sta Z Z.heap nm1 "$assertionsDisabled" "Z" (ii 1)) (ZS7_ : Sta Z Z.heap nm1 "HI_BYTE_SHIFT" "I" (ii 0)) (ZS8_ : Sta Z Z.heap nm1 "LO_BYTE_SHIFT" "I" (ii 8)) (hc0_ : nar .char c0_ = c0_) (hc1_ : nar .char c1_ = c1_) (hc2_ : nar .char c2_ = c2_) (ZS12_ : Sta Z Z.heap nm4 "SIOOBE_FORMATTER" nm6 fm_) (hfm_ : fm_.isRef = true) (h3_ : ch_ < (65536 : Int32)) :
  MFP l Z (⟨nm0, "indexOf", "(II)I"⟩ : MethodName) jdk_42_method_80_code 3 (some .int) ({ frames := 5, cells := 0, slots := 0, locals := 73 } : Room) ws #[(rr x_), (.int ch_), (ii 0)] h0 (Q_six2U_3 Z x_ z_ s_ ks_ ch_ c0_ c1_ c2_ fm_ h0 n0) := by
 refine MetFree.of_bodySF (plainFor_of_name pn_java_lang_String) hisR ?_
 intro p e s m args below meth c s₁ Bd hml0 hP hK
 obtain ⟨rfl, hZ, hh⟩ := hP
 have hx := Bd.exec
 have hby := Bd.bytes
 have hml : c.maxLocals = 3 := hml0
 have hown : s.vm.findClass nm0 = some m.cls := findClass_of_methodNamed Bd.named
 have hnm := (name_of_methodNamed Bd.named Bd.method).1
 have X0 : Stand p l e ({ frames := 5, cells := 0, slots := 0, locals := 73 } : Room) s m #[(rr x_), (.int ch_), (ii 0)] below meth c s₁ [] 0 0 := Stand.of_body Bd
 have e0 : s₁.heap = h0 := by rw [← hh, Bd.state]; rfl
 have N0 := Fr.nil n0
 have kp0 : Keep h0 h0 [] := Keep.refl _ _
 have c0 : ∀ t, S_ p e below s₁ m 0 #[vr x_, vi ch_, vi 0] [] t → Steps p.tables e below (s₁.setTop (entryFrame m #[(rr x_), (.int ch_), (ii 0)] 3)) t := fun t k => castTop (ef_six2U_3 m x_ ch_) k
 generalize s₁.setTop (entryFrame m #[(rr x_), (.int ch_), (ii 0)] 3) = st0 at c0 ⊢
 replace c0 : Kt p e below s₁ st0 (mkF m 0 #[vr x_, vi ch_, vi 0] []) := c0
 have c1 : Kt p e below s₁ st0 (mkF m 1 #[vr x_, vi ch_, vi 0] [(rr x_)]) := fun t k => by
  refine c0 t ?_
  show S_ p e below s₁ m 0 #[vr x_, vi ch_, vi 0] [] t
  refine XS.aloadN X0.here hx rfl (hb hby d18_0) rfl rfl ?_
  exact k
 obtain ⟨_, T2, L2, X2, hQ2, c2⟩ := kvirt X0 hx hZ hown (w41 hw) (w42 hw) (w44 hw) (w43 hw) (w45 hw) (w6 hw) (rm_islU l Z a0 hw [] x_ z_ h0 n0 O0 F1_ ZS4_ hz_) e0 E0_ c1 hml pd_prZ [] [] 0 (hb hby d18_1) rfl rfl rfl rfl rfl rfl
 obtain ⟨rfl, N3q, K4⟩ := hQ2
 have N3 := Fr.app N0 N3q
 have c5 : Kt p e below T2 st0 (mkF m 24 #[vr x_, vi ch_, vi 0] [(rr x_)]) := fun t k => by
  refine c2 t ?_
  show S_ p e below T2 m 4 #[vr x_, vi ch_, vi 0] [(ii 0)] t
  refine yI X2.here hx rfl 4 23 rfl (hb hby d18_4) rfl rfl ?_
  refine XS.aloadN X2.here hx rfl (hb hby d18_23) rfl rfl ?_
  exact k
 obtain ⟨T6, X6, e6, c6⟩ := kget X2 hx hZ hown (host := "") (Or.inl (w24 hw)) Via.refl K4 F2_ c5 rfl rfl (hb hby d18_24)
 have c7 : Kt p e below T6 st0 (mkF m 30 #[vr x_, vi ch_, vi 0] [(rr x_), (ii 0), (.int ch_), (rr s_)]) := fun t k => by
  refine c6 t ?_
  show S_ p e below T6 m 27 #[vr x_, vi ch_, vi 0] [(rr s_)] t
  refine XS.iloadN X6.here hx rfl (hb hby d18_27) rfl ?_
  refine XS.iloadN X6.here hx rfl (hb hby d18_28) rfl ?_
  refine XS.aloadN X6.here hx rfl (hb hby d18_29) rfl rfl ?_
  exact k
 obtain ⟨_, T8, L8, X8, hQ8, c8⟩ := kvirt X6 hx hZ hown (w47 hw) (w48 hw) (w50 hw) (w49 hw) (w51 hw) (w6 hw) (rm_lenU_3 l Z a0 hw [] x_ s_ ks_ [(.int (nar .byte ((c0_ >>> ((0 : Int32) &&& 31)).toInt8.toInt32))), (.int (nar .byte ((c0_ >>> ((8 : Int32) &&& 31)).toInt8.toInt32))), (.int (nar .byte ((c1_ >>> ((0 : Int32) &&& 31)).toInt8.toInt32))), (.int (nar .byte ((c1_ >>> ((8 : Int32) &&& 31)).toInt8.toInt32))), (.int (nar .byte ((c2_ >>> ((0 : Int32) &&& 31)).toInt8.toInt32))), (.int (nar .byte ((c2_ >>> ((8 : Int32) &&& 31)).toInt8.toInt32)))] z_ h0 n0 O0 E0_ F1_ F2_ A3_ ZS4_ hz_) e6 E0_ c7 hml pd_prI [] [(ii 0), (.int ch_), (rr s_)] 3 (hb hby d18_30) rfl rfl rfl rfl rfl rfl
 obtain ⟨rfl, N9q, K10⟩ := hQ8
 have N9 := Fr.app N3 N9q
 obtain ⟨_, T11, L11, X11, hQ11, c11⟩ := kstat X8 hx hZ hown (w164 hw) (w165 hw) (w127 hw) (w166 hw) (rm_ui_3 l Z a0 hw [] s_ ks_ ch_ c0_ c1_ c2_ fm_ h0 n0 O0 A3_ ZS6_ ZS7_ ZS8_ hc0_ hc1_ hc2_ ZS12_ hfm_ h3_) K10 c8 hml pd_pABIIIrI [(rr s_), (.int ch_), (ii 0), (ii 3)] [] 0 (hb hby d18_33) rfl rfl rfl rfl rfl rfl
 rcases hQ11 with hQ11 | hQ11
 ·obtain ⟨i12, rfl, N13q, K14, p15, p16⟩ := hQ11
  have N13 := Fr.app N9 N13q
  obtain ⟨fs, hr, hrun, hended, hW, hsame⟩ := X11.leave (v := some (.int i12)) (fun h => by rw [Bd.returns] at h; cases h)
  refine ⟨_, _, c11 _ ?_, hrun, hended, _, _, rfl, ?_, ⟨_, rfl⟩, hW, hsame.mono (by decide) (by decide)⟩
  ·show S_ p e below T11 m 36 #[vr x_, vi ch_, vi 0] [(.int i12)] _
   exact retOut X11 hx Bd.returns rfl (Or.inl ⟨rfl, Or.inl rfl, _, rfl⟩) (hb hby d18_36) hr
  ·show Q_six2U_3 Z x_ z_ s_ ks_ ch_ c0_ c1_ c2_ fm_ h0 n0 _ T11.heap _
   rw [K14]
   exact (Or.inl ⟨i12, rfl, N13, rfl, p15, p16⟩)
 ·obtain ⟨rfl, N17q, K18, p19, p20, p21⟩ := hQ11
  have N17 := Fr.app N9 N17q
  obtain ⟨fs, hr, hrun, hended, hW, hsame⟩ := X11.leave (v := some (ii (-1))) (fun h => by rw [Bd.returns] at h; cases h)
  refine ⟨_, _, c11 _ ?_, hrun, hended, _, _, rfl, ?_, ⟨_, rfl⟩, hW, hsame.mono (by decide) (by decide)⟩
  ·show S_ p e below T11 m 36 #[vr x_, vi ch_, vi 0] [(ii (-1))] _
   exact retOut X11 hx Bd.returns rfl (Or.inl ⟨rfl, Or.inl rfl, _, rfl⟩) (hb hby d18_36) hr
  ·show Q_six2U_3 Z x_ z_ s_ ks_ ch_ c0_ c1_ c2_ fm_ h0 n0 _ T11.heap _
   rw [K18]
   exact (Or.inr (⟨rfl, N17, rfl, p19, p20, p21⟩))
theorem ef_six1U_3 (m : MethodId) (x_ : Addr) (ch_ : Int32) : entryFrame m #[(rr x_), (.int ch_)] 2 = mkF m 0 #[vr x_, vi ch_] [] := by first | (simp [entryFrame, mkF, argsToLocals, Value.category]; done) | rfl
def Q_six1U_3 (Z : State) (x_ : Addr) (z_ : Int32) (s_ : Addr) (ks_ : ClassId) (ch_ : Int32) (c0_ : Int32) (c1_ : Int32) (c2_ : Int32) (fm_ : Value) (h0 : Heap) (n0 : Nat) (v : Option Value) (h : Heap) (L : List Loc) : Prop := (∃ (r_ : Int32), v = some (.int r_) ∧ Fr n0 L ∧ h = h0 ∧ ¬ (r_ < (0 : Int32)) ∧ ((c0_ = ch_ ∨ c1_ = ch_ ∨ c2_ = ch_))) ∨ (v = some (ii (-1)) ∧ Fr n0 L ∧ h = h0 ∧ ¬ (c0_ = ch_) ∧ ¬ (c1_ = ch_) ∧ ¬ (c2_ = ch_))
set_option maxRecDepth 65536 in
set_option maxHeartbeats 40000000 in
theorem rm_six1U_3 (l : Launch) (Z : State) (a0 : Array Value) (hw : HW Z a0) (ws : List Jvm.Cond) (x_ : Addr) (z_ : Int32) (s_ : Addr) (ks_ : ClassId) (ch_ : Int32) (c0_ : Int32) (c1_ : Int32) (c2_ : Int32) (fm_ : Value) (h0 : Heap) (n0 : Nat) (O0 : Old Z n0 h0) (E0_ : Exa Z h0 x_ nm0) (F1_ : Fld Z h0 x_ nm0 "coder" "B" (ii 1)) (F2_ : Fld Z h0 x_ nm0 "value" "[B" (rr s_)) (A3_ : Arv Z h0 s_ ks_ .byte (6 : Int32) [(.int (nar .byte ((c0_ >>> ((0 : Int32) &&& 31)).toInt8.toInt32))), (.int (nar .byte ((c0_ >>> ((8 : Int32) &&& 31)).toInt8.toInt32))), (.int (nar .byte ((c1_ >>> ((0 : Int32) &&& 31)).toInt8.toInt32))), (.int (nar .byte ((c1_ >>> ((8 : Int32) &&& 31)).toInt8.toInt32))), (.int (nar .byte ((c2_ >>> ((0 : Int32) &&& 31)).toInt8.toInt32))), (.int (nar .byte ((c2_ >>> ((8 : Int32) &&& 31)).toInt8.toInt32)))] (ii 0)) (ZS4_ : Sta Z Z.heap nm0 "COMPACT_STRINGS" "Z" (.int z_)) (hz_ : ¬ (z_ = (0 : Int32))) (ZS6_ : Sta Z Z.heap nm1 "$assertionsDisabled" "Z" (ii 1)) (ZS7_ : Sta Z Z.heap nm1 "HI_BYTE_SHIFT" "I" (ii 0)) (ZS8_ : Sta Z Z.heap nm1 "LO_BYTE_SHIFT" "I" (ii 8)) (hc0_ : nar .char c0_ = c0_) (hc1_ : nar .char c1_ = c1_) (hc2_ : nar .char c2_ = c2_) (ZS12_ : Sta Z Z.heap nm4 "SIOOBE_FORMATTER" nm6 fm_) (hfm_ : fm_.isRef = true) (h3_ : ch_ < (65536 : Int32)) :
  MFP l Z (⟨nm0, "indexOf", "(I)I"⟩ : MethodName) jdk_42_method_79_code 2 (some .int) ({ frames := 6, cells := 0, slots := 0, locals := 87 } : Room) ws #[(rr x_), (.int ch_)] h0 (Q_six1U_3 Z x_ z_ s_ ks_ ch_ c0_ c1_ c2_ fm_ h0 n0) := by
 refine MetFree.of_bodySF (plainFor_of_name pn_java_lang_String) hisR ?_
 intro p e s m args below meth c s₁ Bd hml0 hP hK
 obtain ⟨rfl, hZ, hh⟩ := hP
 have hx := Bd.exec
 have hby := Bd.bytes
 have hml : c.maxLocals = 2 := hml0
 have hown : s.vm.findClass nm0 = some m.cls := findClass_of_methodNamed Bd.named
 have hnm := (name_of_methodNamed Bd.named Bd.method).1
 have X0 : Stand p l e ({ frames := 6, cells := 0, slots := 0, locals := 87 } : Room) s m #[(rr x_), (.int ch_)] below meth c s₁ [] 0 0 := Stand.of_body Bd
 have e0 : s₁.heap = h0 := by rw [← hh, Bd.state]; rfl
 have N0 := Fr.nil n0
 have kp0 : Keep h0 h0 [] := Keep.refl _ _
 have c0 : ∀ t, S_ p e below s₁ m 0 #[vr x_, vi ch_] [] t → Steps p.tables e below (s₁.setTop (entryFrame m #[(rr x_), (.int ch_)] 2)) t := fun t k => castTop (ef_six1U_3 m x_ ch_) k
 generalize s₁.setTop (entryFrame m #[(rr x_), (.int ch_)] 2) = st0 at c0 ⊢
 replace c0 : Kt p e below s₁ st0 (mkF m 0 #[vr x_, vi ch_] []) := c0
 have c1 : Kt p e below s₁ st0 (mkF m 3 #[vr x_, vi ch_] [(ii 0), (.int ch_), (rr x_)]) := fun t k => by
  refine c0 t ?_
  show S_ p e below s₁ m 0 #[vr x_, vi ch_] [] t
  refine XS.aloadN X0.here hx rfl (hb hby d19_0) rfl rfl ?_
  refine XS.iloadN X0.here hx rfl (hb hby d19_1) rfl ?_
  refine XS.iconst X0.here hx rfl (hb hby d19_2) ?_
  exact k
 obtain ⟨_, T2, L2, X2, hQ2, c2⟩ := kvirt X0 hx hZ hown (w36 hw) (w37 hw) (w39 hw) (w38 hw) (w40 hw) (w6 hw) (rm_six2U_3 l Z a0 hw [] x_ z_ s_ ks_ ch_ c0_ c1_ c2_ fm_ h0 n0 O0 E0_ F1_ F2_ A3_ ZS4_ hz_ ZS6_ ZS7_ ZS8_ hc0_ hc1_ hc2_ ZS12_ hfm_ h3_) e0 E0_ c1 hml pd_pIIrI [(.int ch_), (ii 0)] [] 0 (hb hby d19_3) rfl rfl rfl rfl rfl rfl
 rcases hQ2 with hQ2 | hQ2
 ·obtain ⟨i3, rfl, N4q, K5, p6, p7⟩ := hQ2
  have N4 := Fr.app N0 N4q
  obtain ⟨fs, hr, hrun, hended, hW, hsame⟩ := X2.leave (v := some (.int i3)) (fun h => by rw [Bd.returns] at h; cases h)
  refine ⟨_, _, c2 _ ?_, hrun, hended, _, _, rfl, ?_, ⟨_, rfl⟩, hW, hsame.mono (by decide) (by decide)⟩
  ·show S_ p e below T2 m 6 #[vr x_, vi ch_] [(.int i3)] _
   exact retOut X2 hx Bd.returns rfl (Or.inl ⟨rfl, Or.inl rfl, _, rfl⟩) (hb hby d19_6) hr
  ·show Q_six1U_3 Z x_ z_ s_ ks_ ch_ c0_ c1_ c2_ fm_ h0 n0 _ T2.heap _
   rw [K5]
   exact (Or.inl ⟨i3, rfl, N4, rfl, p6, p7⟩)
 ·obtain ⟨rfl, N8q, K9, p10, p11, p12⟩ := hQ2
  have N8 := Fr.app N0 N8q
  obtain ⟨fs, hr, hrun, hended, hW, hsame⟩ := X2.leave (v := some (ii (-1))) (fun h => by rw [Bd.returns] at h; cases h)
  refine ⟨_, _, c2 _ ?_, hrun, hended, _, _, rfl, ?_, ⟨_, rfl⟩, hW, hsame.mono (by decide) (by decide)⟩
  ·show S_ p e below T2 m 6 #[vr x_, vi ch_] [(ii (-1))] _
   exact retOut X2 hx Bd.returns rfl (Or.inl ⟨rfl, Or.inl rfl, _, rfl⟩) (hb hby d19_6) hr
  ·show Q_six1U_3 Z x_ z_ s_ ks_ ch_ c0_ c1_ c2_ fm_ h0 n0 _ T2.heap _
   rw [K9]
   exact (Or.inr (⟨rfl, N8, rfl, p10, p11, p12⟩))
theorem d28_0 : decode jdk_43_method_46_code 0 = .ok (.iconst 1, 1) := by decide +kernel
theorem d28_1 : decode jdk_43_method_46_code 1 = .ok (.newarray .byte, 2) := by decide +kernel
theorem d28_3 : decode jdk_43_method_46_code 3 = .ok (.dup, 1) := by decide +kernel
theorem d28_4 : decode jdk_43_method_46_code 4 = .ok (.iconst 0, 1) := by decide +kernel
theorem d28_5 : decode jdk_43_method_46_code 5 = .ok (.iload_n 0, 1) := by decide +kernel
theorem d28_6 : decode jdk_43_method_46_code 6 = .ok (.i2b, 1) := by decide +kernel
theorem d28_7 : decode jdk_43_method_46_code 7 = .ok (.bastore, 1) := by decide +kernel
theorem d28_8 : decode jdk_43_method_46_code 8 = .ok (.areturn, 1) := by decide +kernel
theorem ef_l1tb (m : MethodId) (c0_ : Int32) : entryFrame m #[(.int c0_)] 1 = mkF m 0 #[vi c0_] [] := by first | (simp [entryFrame, mkF, argsToLocals, Value.category]; done) | rfl
def Q_l1tb (Z : State) (c0_ : Int32) (h0 : Heap) (n0 : Nat) (v : Option Value) (h : Heap) (L : List Loc) : Prop := ∃ (b_ : Addr), ∃ (kb_ : ClassId), v = some (rr b_) ∧ Fr n0 L ∧ Keep h0 h [] ∧ Arv Z h b_ kb_ .byte (1 : Int32) [(.int (nar .byte (c0_.toInt8.toInt32)))] (ii 0) ∧ n0 ≤ b_ ∧ h0.size ≤ b_
set_option maxRecDepth 65536 in
set_option maxHeartbeats 40000000 in
theorem rm_l1tb (l : Launch) (Z : State) (a0 : Array Value) (hw : HW Z a0) (ws : List Jvm.Cond) (c0_ : Int32) (h0 : Heap) (n0 : Nat) (O0 : Old Z n0 h0) :
  MFP l Z (⟨nm5, "toBytes", "(C)[B"⟩ : MethodName) jdk_43_method_46_code 1 (some (.array .byte)) ({ frames := 0, cells := 1, slots := 1, locals := 0 } : Room) ws #[(.int c0_)] h0 (Q_l1tb Z c0_ h0 n0) := by
 refine MetFree.of_bodySF (plainFor_of_name pn_java_lang_StringLatin1) hisR ?_
 intro p e s m args below meth c s₁ Bd hml0 hP hK
 obtain ⟨rfl, hZ, hh⟩ := hP
 have hx := Bd.exec
 have hby := Bd.bytes
 have hml : c.maxLocals = 1 := hml0
 have hown : s.vm.findClass nm5 = some m.cls := findClass_of_methodNamed Bd.named
 have hnm := (name_of_methodNamed Bd.named Bd.method).1
 have X0 : Stand p l e ({ frames := 0, cells := 1, slots := 1, locals := 0 } : Room) s m #[(.int c0_)] below meth c s₁ [] 0 0 := Stand.of_body Bd
 have e0 : s₁.heap = h0 := by rw [← hh, Bd.state]; rfl
 have N0 := Fr.nil n0
 have kp0 : Keep h0 h0 [] := Keep.refl _ _
 have c0 : ∀ t, S_ p e below s₁ m 0 #[vi c0_] [] t → Steps p.tables e below (s₁.setTop (entryFrame m #[(.int c0_)] 1)) t := fun t k => castTop (ef_l1tb m c0_) k
 generalize s₁.setTop (entryFrame m #[(.int c0_)] 1) = st0 at c0 ⊢
 replace c0 : Kt p e below s₁ st0 (mkF m 0 #[vi c0_] []) := c0
 have c1 : Kt p e below s₁ st0 (mkF m 1 #[vi c0_] [(ii 1)]) := fun t k => by
  refine c0 t ?_
  show S_ p e below s₁ m 0 #[vi c0_] [] t
  refine XS.iconst X0.here hx rfl (hb hby d28_0) ?_
  exact k
 obtain ⟨b2, T2, h2, k2, z2, g2, X2, e2, E2, o3, A2, c2⟩ := knewP (aty := .byte) X0 hx hZ (w19 hw) e0 c1 rfl (hb hby d28_1) rfl (by decide) 1 (by decide) (by decide) (by decide) (by decide) O0
 have kp5 := kp0.ext E2
 have z6 := Nat.le_trans kp0.1 z2
 have f4 : Arv Z h2 b2 k2 .byte (1 : Int32) [(ii 0)] (ii 0) := A2.pad (pad_rep [] (ii 0) 1)
 have c7 : Kt p e below T2 st0 (mkF m 7 #[vi c0_] [(.int (c0_.toInt8.toInt32)), (ii 0), (rr b2), (rr b2)]) := fun t k => by
  refine c2 t ?_
  show S_ p e below T2 m 3 #[vi c0_] [(rr b2)] t
  refine XS.dup X2.here hx rfl (hb hby d28_3) rfl rfl ?_
  refine XS.iconst X2.here hx rfl (hb hby d28_4) ?_
  refine XS.iloadN X2.here hx rfl (hb hby d28_5) rfl ?_
  refine XS.i2b X2.here hx rfl (hb hby d28_6) rfl ?_
  exact k
 obtain ⟨T8, h8, X8, e8, W8, f11, o9, N10, c8⟩ := kstB X2 hx hZ e2 f4 (j := (0 : Int32)) (by decide) (by decide) 0 rfl (Nat.le_of_ble_eq_true rfl) c7 rfl rfl (hb hby d28_7) o3 N0 g2
 have f12 : Arv Z h8 b2 k2 .byte (1 : Int32) [(.int (nar .byte (c0_.toInt8.toInt32)))] (ii 0) := f11
 have kp13 := kp5.wr W8 (Or.inr z6)
 obtain ⟨fs, hr, hrun, hended, hW, hsame⟩ := X8.leave (v := some (rr b2)) (fun h => by rw [Bd.returns] at h; cases h)
 refine ⟨_, _, c8 _ ?_, hrun, hended, _, _, rfl, ?_, ⟨_, rfl⟩, hW, hsame.mono (by decide) (by decide)⟩
 ·show S_ p e below T8 m 8 #[vi c0_] [(rr b2)] _
  exact retOut X8 hx Bd.returns rfl (Or.inr (Or.inr (Or.inr (Or.inr ⟨rfl, rfl, rfl⟩)))) (hb hby d28_8) hr
 ·show Q_l1tb Z c0_ h0 n0 _ T8.heap _
  rw [e8]
  exact ⟨b2, k2, rfl, N10, kp13, f12, g2, z6⟩
theorem d29_0 : decode jdk_52_method_24_code 0 = .ok (.iconst 2, 1) := by decide +kernel
theorem d29_1 : decode jdk_52_method_24_code 1 = .ok (.newarray .byte, 2) := by decide +kernel
theorem d29_3 : decode jdk_52_method_24_code 3 = .ok (.astore_n 1, 1) := by decide +kernel
theorem d29_4 : decode jdk_52_method_24_code 4 = .ok (.aload_n 1, 1) := by decide +kernel
theorem d29_5 : decode jdk_52_method_24_code 5 = .ok (.iconst 0, 1) := by decide +kernel
theorem d29_6 : decode jdk_52_method_24_code 6 = .ok (.iload_n 0, 1) := by decide +kernel
theorem d29_7 : decode jdk_52_method_24_code 7 = .ok (.invokestatic 111, 3) := by decide +kernel
theorem d29_10 : decode jdk_52_method_24_code 10 = .ok (.aload_n 1, 1) := by decide +kernel
theorem d29_11 : decode jdk_52_method_24_code 11 = .ok (.areturn, 1) := by decide +kernel
theorem ef_u16tb (m : MethodId) (c0_ : Int32) : entryFrame m #[(.int c0_)] 2 = mkF m 0 #[vi c0_, u_] [] := by first | (simp [entryFrame, mkF, argsToLocals, Value.category]; done) | rfl
def Q_u16tb (Z : State) (c0_ : Int32) (h0 : Heap) (n0 : Nat) (v : Option Value) (h : Heap) (L : List Loc) : Prop := ∃ (b_ : Addr), ∃ (kb_ : ClassId), v = some (rr b_) ∧ Fr n0 L ∧ Keep h0 h [] ∧ Arv Z h b_ kb_ .byte (2 : Int32) [(.int (nar .byte ((c0_ >>> ((0 : Int32) &&& 31)).toInt8.toInt32))), (.int (nar .byte ((c0_ >>> ((8 : Int32) &&& 31)).toInt8.toInt32)))] (ii 0) ∧ n0 ≤ b_ ∧ h0.size ≤ b_
set_option maxRecDepth 65536 in
set_option maxHeartbeats 40000000 in
theorem rm_u16tb (l : Launch) (Z : State) (a0 : Array Value) (hw : HW Z a0) (ws : List Jvm.Cond) (c0_ : Int32) (h0 : Heap) (n0 : Nat) (O0 : Old Z n0 h0) (ZS0_ : Sta Z Z.heap nm1 "$assertionsDisabled" "Z" (ii 1)) (ZS1_ : Sta Z Z.heap nm1 "HI_BYTE_SHIFT" "I" (ii 0)) (ZS2_ : Sta Z Z.heap nm1 "LO_BYTE_SHIFT" "I" (ii 8)) :
  MFP l Z (⟨nm1, "toBytes", "(C)[B"⟩ : MethodName) jdk_52_method_24_code 2 (some (.array .byte)) ({ frames := 1, cells := 1, slots := 2, locals := 14 } : Room) ws #[(.int c0_)] h0 (Q_u16tb Z c0_ h0 n0) := by
 refine MetFree.of_bodySF (plainFor_of_name pn_java_lang_StringUTF16) hisR ?_
 intro p e s m args below meth c s₁ Bd hml0 hP hK
 obtain ⟨rfl, hZ, hh⟩ := hP
 have hx := Bd.exec
 have hby := Bd.bytes
 have hml : c.maxLocals = 2 := hml0
 have hown : s.vm.findClass nm1 = some m.cls := findClass_of_methodNamed Bd.named
 have hnm := (name_of_methodNamed Bd.named Bd.method).1
 have X0 : Stand p l e ({ frames := 1, cells := 1, slots := 2, locals := 14 } : Room) s m #[(.int c0_)] below meth c s₁ [] 0 0 := Stand.of_body Bd
 have e0 : s₁.heap = h0 := by rw [← hh, Bd.state]; rfl
 have N0 := Fr.nil n0
 have kp0 : Keep h0 h0 [] := Keep.refl _ _
 have c0 : ∀ t, S_ p e below s₁ m 0 #[vi c0_, u_] [] t → Steps p.tables e below (s₁.setTop (entryFrame m #[(.int c0_)] 2)) t := fun t k => castTop (ef_u16tb m c0_) k
 generalize s₁.setTop (entryFrame m #[(.int c0_)] 2) = st0 at c0 ⊢
 replace c0 : Kt p e below s₁ st0 (mkF m 0 #[vi c0_, u_] []) := c0
 have c1 : Kt p e below s₁ st0 (mkF m 1 #[vi c0_, u_] [(ii 2)]) := fun t k => by
  refine c0 t ?_
  show S_ p e below s₁ m 0 #[vi c0_, u_] [] t
  refine XS.iconst X0.here hx rfl (hb hby d29_0) ?_
  exact k
 obtain ⟨b2, T2, h2, k2, z2, g2, X2, e2, E2, o3, A2, c2⟩ := knewP (aty := .byte) X0 hx hZ (w19 hw) e0 c1 rfl (hb hby d29_1) rfl (by decide) 2 (by decide) (by decide) (by decide) (by decide) O0
 have kp5 := kp0.ext E2
 have z6 := Nat.le_trans kp0.1 z2
 have f4 : Arv Z h2 b2 k2 .byte (2 : Int32) [(ii 0), (ii 0)] (ii 0) := A2.pad (pad_rep [] (ii 0) 2)
 have c7 : Kt p e below T2 st0 (mkF m 7 #[vi c0_, vr b2] [(.int c0_), (ii 0), (rr b2)]) := fun t k => by
  refine c2 t ?_
  show S_ p e below T2 m 3 #[vi c0_, u_] [(rr b2)] t
  refine XS.astoreN X2.here hx rfl (hb hby d29_3) rfl rfl (l' := #[vi c0_, vr b2]) rfl ?_
  refine XS.aloadN X2.here hx rfl (hb hby d29_4) rfl rfl ?_
  refine XS.iconst X2.here hx rfl (hb hby d29_5) ?_
  refine XS.iloadN X2.here hx rfl (hb hby d29_6) rfl ?_
  exact k
 obtain ⟨_, T8, L8, X8, hQ8, c8⟩ := kstat X2 hx hZ hown (w155 hw) (w156 hw) (w127 hw) (w157 hw) (rm_putc l Z a0 hw [] b2 k2 (2 : Int32) [(ii 0), (ii 0)] (0 : Int32) c0_ h2 n0 o3 f4 g2 ZS0_ ZS1_ ZS2_ (by decide) (by decide) (by decide) (by decide) (Nat.le_of_ble_eq_true rfl) (Nat.le_of_ble_eq_true rfl)) e2 c7 hml pd_pABIIrV [(rr b2), (ii 0), (.int c0_)] [] 0 (hb hby d29_7) rfl rfl rfl rfl rfl rfl
 obtain ⟨rfl, N9q, K10, p11⟩ := hQ8
 have N9 := Fr.app N0 N9q
 have o12 := o3.keep K10 (allS g2 all0)
 have kp13 := kp5.trans K10 (allS (Or.inr z6) all0)
 have f14 : Arv Z T8.heap b2 k2 .byte (2 : Int32) [(.int (nar .byte ((c0_ >>> ((0 : Int32) &&& 31)).toInt8.toInt32))), (.int (nar .byte ((c0_ >>> ((8 : Int32) &&& 31)).toInt8.toInt32)))] (ii 0) := p11
 obtain ⟨fs, hr, hrun, hended, hW, hsame⟩ := X8.leave (v := some (rr b2)) (fun h => by rw [Bd.returns] at h; cases h)
 refine ⟨_, _, c8 _ ?_, hrun, hended, _, _, rfl, ?_, ⟨_, rfl⟩, hW, hsame.mono (by decide) (by decide)⟩
 ·show S_ p e below T8 m 10 #[vi c0_, vr b2] [] _
  refine XS.aloadN X8.here hx rfl (hb hby d29_10) rfl rfl ?_
  show S_ p e below T8 m 11 #[vi c0_, vr b2] [(rr b2)] _
  exact retOut X8 hx Bd.returns rfl (Or.inr (Or.inr (Or.inr (Or.inr ⟨rfl, rfl, rfl⟩)))) (hb hby d29_11) hr
 ·show Q_u16tb Z c0_ h0 n0 _ T8.heap _
  exact ⟨b2, k2, rfl, N9, kp13, f14, g2, z6⟩
theorem d30_0 : decode jdk_42_method_151_code 0 = .ok (.aload_n 0, 1) := by decide +kernel
theorem d30_1 : decode jdk_42_method_151_code 1 = .ok (.invokespecial 1, 3) := by decide +kernel
theorem d30_4 : decode jdk_42_method_151_code 4 = .ok (.aload_n 0, 1) := by decide +kernel
theorem d30_5 : decode jdk_42_method_151_code 5 = .ok (.aload_n 1, 1) := by decide +kernel
theorem d30_6 : decode jdk_42_method_151_code 6 = .ok (.putfield 9, 3) := by decide +kernel
theorem d30_9 : decode jdk_42_method_151_code 9 = .ok (.aload_n 0, 1) := by decide +kernel
theorem d30_10 : decode jdk_42_method_151_code 10 = .ok (.iload_n 2, 1) := by decide +kernel
theorem d30_11 : decode jdk_42_method_151_code 11 = .ok (.putfield 15, 3) := by decide +kernel
theorem d30_14 : decode jdk_42_method_151_code 14 = .ok (.return_, 1) := by decide +kernel
theorem ef_sbb0 (m : MethodId) (x_ : Addr) (s_ : Addr) : entryFrame m #[(rr x_), (rr s_), (ii 0)] 3 = mkF m 0 #[vr x_, vr s_, vi 0] [] := by first | (simp [entryFrame, mkF, argsToLocals, Value.category]; done) | rfl
def Q_sbb0 (Z : State) (x_ : Addr) (s_ : Addr) (h0 : Heap) (n0 : Nat) (v : Option Value) (h : Heap) (L : List Loc) : Prop := v = none ∧ Fr n0 L ∧ Keep h0 h [x_] ∧ Exa Z h x_ nm0 ∧ Fld Z h x_ nm0 "coder" "B" (ii 0) ∧ Fld Z h x_ nm0 "value" "[B" (rr s_)
set_option maxRecDepth 65536 in
set_option maxHeartbeats 40000000 in
theorem rm_sbb0 (l : Launch) (Z : State) (a0 : Array Value) (hw : HW Z a0) (ws : List Jvm.Cond) (x_ : Addr) (s_ : Addr) (h0 : Heap) (n0 : Nat) (O0 : Old Z n0 h0) (E0_ : Exa Z h0 x_ nm0) (F1_ : Fld Z h0 x_ nm0 "value" "[B" .null) (F2_ : Fld Z h0 x_ nm0 "coder" "B" (ii 0)) (G3_ : n0 ≤ x_) :
  MFP l Z (⟨nm0, "<init>", "([BB)V"⟩ : MethodName) jdk_42_method_151_code 3 none ({ frames := 1, cells := 0, slots := 0, locals := 12 } : Room) ws #[(rr x_), (rr s_), (ii 0)] h0 (Q_sbb0 Z x_ s_ h0 n0) := by
 refine MetFree.of_bodySF (plainFor_of_name pn_java_lang_String) hisR ?_
 intro p e s m args below meth c s₁ Bd hml0 hP hK
 obtain ⟨rfl, hZ, hh⟩ := hP
 have hx := Bd.exec
 have hby := Bd.bytes
 have hml : c.maxLocals = 3 := hml0
 have hown : s.vm.findClass nm0 = some m.cls := findClass_of_methodNamed Bd.named
 have hnm := (name_of_methodNamed Bd.named Bd.method).1
 have X0 : Stand p l e ({ frames := 1, cells := 0, slots := 0, locals := 12 } : Room) s m #[(rr x_), (rr s_), (ii 0)] below meth c s₁ [] 0 0 := Stand.of_body Bd
 have e0 : s₁.heap = h0 := by rw [← hh, Bd.state]; rfl
 have N0 := Fr.nil n0
 have kp0 : Keep h0 h0 [x_] := Keep.refl _ _
 have c0 : ∀ t, S_ p e below s₁ m 0 #[vr x_, vr s_, vi 0] [] t → Steps p.tables e below (s₁.setTop (entryFrame m #[(rr x_), (rr s_), (ii 0)] 3)) t := fun t k => castTop (ef_sbb0 m x_ s_) k
 generalize s₁.setTop (entryFrame m #[(rr x_), (rr s_), (ii 0)] 3) = st0 at c0 ⊢
 replace c0 : Kt p e below s₁ st0 (mkF m 0 #[vr x_, vr s_, vi 0] []) := c0
 have c1 : Kt p e below s₁ st0 (mkF m 1 #[vr x_, vr s_, vi 0] [(rr x_)]) := fun t k => by
  refine c0 t ?_
  show S_ p e below s₁ m 0 #[vr x_, vr s_, vi 0] [] t
  refine XS.aloadN X0.here hx rfl (hb hby d30_0) rfl rfl ?_
  exact k
 obtain ⟨T2, X2, e2, c2⟩ := kinit X0 hx hZ hown (w15 hw) (w16 hw) (w17 hw) e0 c1 rfl hml rfl rfl (hb hby d30_1) 0 (own_w rfl) (by decide) (by decide)
 have c3 : Kt p e below T2 st0 (mkF m 6 #[vr x_, vr s_, vi 0] [(rr s_), (rr x_)]) := fun t k => by
  refine c2 t ?_
  show S_ p e below T2 m 4 #[vr x_, vr s_, vi 0] [] t
  refine XS.aloadN X2.here hx rfl (hb hby d30_4) rfl rfl ?_
  refine XS.aloadN X2.here hx rfl (hb hby d30_5) rfl rfl ?_
  exact k
 obtain ⟨T4, h4, X4, e4, W4, f5, o7, N6, c4⟩ := kput X2 hx hZ (.array .byte) hown (host := "") (Or.inl (w24 hw)) Via.refl e2 F1_ E0_ (Or.inr ⟨(w20 hw), rfl, hnm⟩) (w5 hw) c3 rfl rfl (hb hby d30_6) (by decide) rfl rfl O0 N0 G3_
 have kp8 := kp0.wr W4 (Or.inl (List.mem_of_getElem? (i := 0) rfl))
 have f9 := F2_.other W4 (Or.inr (slot_ne (Or.inr (w21 hw)) (Or.inr (w20 hw)) (by decide) (t := .byte) (t' := (.array .byte)) (by decide) (by decide)))
 have c10 : Kt p e below T4 st0 (mkF m 11 #[vr x_, vr s_, vi 0] [(ii 0), (rr x_)]) := fun t k => by
  refine c4 t ?_
  show S_ p e below T4 m 9 #[vr x_, vr s_, vi 0] [] t
  refine XS.aloadN X4.here hx rfl (hb hby d30_9) rfl rfl ?_
  refine XS.iloadN X4.here hx rfl (hb hby d30_10) rfl ?_
  exact k
 obtain ⟨T11, h11, X11, e11, W11, f12, o14, N13, c11⟩ := kput X4 hx hZ .byte hown (host := "") (Or.inl (w25 hw)) Via.refl e4 f9 (E0_.wr W4) (Or.inr ⟨(w21 hw), rfl, hnm⟩) (w5 hw) c10 rfl rfl (hb hby d30_11) (by decide) rfl rfl o7 N6 G3_
 have kp15 := kp8.wr W11 (Or.inl (List.mem_of_getElem? (i := 0) rfl))
 have f16 := f5.other W11 (Or.inr (slot_ne (Or.inr (w20 hw)) (Or.inr (w21 hw)) (by decide) (t := (.array .byte)) (t' := .byte) (by decide) (by decide)))
 obtain ⟨fs, hr, hrun, hended, hW, hsame⟩ := X11.leave (v := none) (fun _ => rfl)
 refine ⟨_, _, c11 _ ?_, hrun, hended, _, _, rfl, ?_, ⟨_, rfl⟩, hW, hsame.mono (by decide) (by decide)⟩
 ·show S_ p e below T11 m 14 #[vr x_, vr s_, vi 0] [] _
  exact X11.returnOut hx Bd.returns (hb hby d30_14) hr
 ·show Q_sbb0 Z x_ s_ h0 n0 _ T11.heap _
  rw [e11]
  exact ⟨rfl, N13, kp15, ((E0_.wr W4).wr W11), f12, f16⟩
theorem ef_sbb1 (m : MethodId) (x_ : Addr) (s_ : Addr) : entryFrame m #[(rr x_), (rr s_), (ii 1)] 3 = mkF m 0 #[vr x_, vr s_, vi 1] [] := by first | (simp [entryFrame, mkF, argsToLocals, Value.category]; done) | rfl
def Q_sbb1 (Z : State) (x_ : Addr) (s_ : Addr) (h0 : Heap) (n0 : Nat) (v : Option Value) (h : Heap) (L : List Loc) : Prop := v = none ∧ Fr n0 L ∧ Keep h0 h [x_] ∧ Exa Z h x_ nm0 ∧ Fld Z h x_ nm0 "coder" "B" (ii 1) ∧ Fld Z h x_ nm0 "value" "[B" (rr s_)
set_option maxRecDepth 65536 in
set_option maxHeartbeats 40000000 in
theorem rm_sbb1 (l : Launch) (Z : State) (a0 : Array Value) (hw : HW Z a0) (ws : List Jvm.Cond) (x_ : Addr) (s_ : Addr) (h0 : Heap) (n0 : Nat) (O0 : Old Z n0 h0) (E0_ : Exa Z h0 x_ nm0) (F1_ : Fld Z h0 x_ nm0 "value" "[B" .null) (F2_ : Fld Z h0 x_ nm0 "coder" "B" (ii 0)) (G3_ : n0 ≤ x_) :
  MFP l Z (⟨nm0, "<init>", "([BB)V"⟩ : MethodName) jdk_42_method_151_code 3 none ({ frames := 1, cells := 0, slots := 0, locals := 12 } : Room) ws #[(rr x_), (rr s_), (ii 1)] h0 (Q_sbb1 Z x_ s_ h0 n0) := by
 refine MetFree.of_bodySF (plainFor_of_name pn_java_lang_String) hisR ?_
 intro p e s m args below meth c s₁ Bd hml0 hP hK
 obtain ⟨rfl, hZ, hh⟩ := hP
 have hx := Bd.exec
 have hby := Bd.bytes
 have hml : c.maxLocals = 3 := hml0
 have hown : s.vm.findClass nm0 = some m.cls := findClass_of_methodNamed Bd.named
 have hnm := (name_of_methodNamed Bd.named Bd.method).1
 have X0 : Stand p l e ({ frames := 1, cells := 0, slots := 0, locals := 12 } : Room) s m #[(rr x_), (rr s_), (ii 1)] below meth c s₁ [] 0 0 := Stand.of_body Bd
 have e0 : s₁.heap = h0 := by rw [← hh, Bd.state]; rfl
 have N0 := Fr.nil n0
 have kp0 : Keep h0 h0 [x_] := Keep.refl _ _
 have c0 : ∀ t, S_ p e below s₁ m 0 #[vr x_, vr s_, vi 1] [] t → Steps p.tables e below (s₁.setTop (entryFrame m #[(rr x_), (rr s_), (ii 1)] 3)) t := fun t k => castTop (ef_sbb1 m x_ s_) k
 generalize s₁.setTop (entryFrame m #[(rr x_), (rr s_), (ii 1)] 3) = st0 at c0 ⊢
 replace c0 : Kt p e below s₁ st0 (mkF m 0 #[vr x_, vr s_, vi 1] []) := c0
 have c1 : Kt p e below s₁ st0 (mkF m 1 #[vr x_, vr s_, vi 1] [(rr x_)]) := fun t k => by
  refine c0 t ?_
  show S_ p e below s₁ m 0 #[vr x_, vr s_, vi 1] [] t
  refine XS.aloadN X0.here hx rfl (hb hby d30_0) rfl rfl ?_
  exact k
 obtain ⟨T2, X2, e2, c2⟩ := kinit X0 hx hZ hown (w15 hw) (w16 hw) (w17 hw) e0 c1 rfl hml rfl rfl (hb hby d30_1) 0 (own_w rfl) (by decide) (by decide)
 have c3 : Kt p e below T2 st0 (mkF m 6 #[vr x_, vr s_, vi 1] [(rr s_), (rr x_)]) := fun t k => by
  refine c2 t ?_
  show S_ p e below T2 m 4 #[vr x_, vr s_, vi 1] [] t
  refine XS.aloadN X2.here hx rfl (hb hby d30_4) rfl rfl ?_
  refine XS.aloadN X2.here hx rfl (hb hby d30_5) rfl rfl ?_
  exact k
 obtain ⟨T4, h4, X4, e4, W4, f5, o7, N6, c4⟩ := kput X2 hx hZ (.array .byte) hown (host := "") (Or.inl (w24 hw)) Via.refl e2 F1_ E0_ (Or.inr ⟨(w20 hw), rfl, hnm⟩) (w5 hw) c3 rfl rfl (hb hby d30_6) (by decide) rfl rfl O0 N0 G3_
 have kp8 := kp0.wr W4 (Or.inl (List.mem_of_getElem? (i := 0) rfl))
 have f9 := F2_.other W4 (Or.inr (slot_ne (Or.inr (w21 hw)) (Or.inr (w20 hw)) (by decide) (t := .byte) (t' := (.array .byte)) (by decide) (by decide)))
 have c10 : Kt p e below T4 st0 (mkF m 11 #[vr x_, vr s_, vi 1] [(ii 1), (rr x_)]) := fun t k => by
  refine c4 t ?_
  show S_ p e below T4 m 9 #[vr x_, vr s_, vi 1] [] t
  refine XS.aloadN X4.here hx rfl (hb hby d30_9) rfl rfl ?_
  refine XS.iloadN X4.here hx rfl (hb hby d30_10) rfl ?_
  exact k
 obtain ⟨T11, h11, X11, e11, W11, f12, o14, N13, c11⟩ := kput X4 hx hZ .byte hown (host := "") (Or.inl (w25 hw)) Via.refl e4 f9 (E0_.wr W4) (Or.inr ⟨(w21 hw), rfl, hnm⟩) (w5 hw) c10 rfl rfl (hb hby d30_11) (by decide) rfl rfl o7 N6 G3_
 have kp15 := kp8.wr W11 (Or.inl (List.mem_of_getElem? (i := 0) rfl))
 have f16 := f5.other W11 (Or.inr (slot_ne (Or.inr (w20 hw)) (Or.inr (w21 hw)) (by decide) (t := (.array .byte)) (t' := .byte) (by decide) (by decide)))
 obtain ⟨fs, hr, hrun, hended, hW, hsame⟩ := X11.leave (v := none) (fun _ => rfl)
 refine ⟨_, _, c11 _ ?_, hrun, hended, _, _, rfl, ?_, ⟨_, rfl⟩, hW, hsame.mono (by decide) (by decide)⟩
 ·show S_ p e below T11 m 14 #[vr x_, vr s_, vi 1] [] _
  exact X11.returnOut hx Bd.returns (hb hby d30_14) hr
 ·show Q_sbb1 Z x_ s_ h0 n0 _ T11.heap _
  rw [e11]
  exact ⟨rfl, N13, kp15, ((E0_.wr W4).wr W11), f12, f16⟩
theorem d31_0 : decode jdk_42_method_139_code 0 = .ok (.getstatic 38, 3) := by decide +kernel
theorem d31_3 : decode jdk_42_method_139_code 3 = .ok (.ifCond .eq 23, 3) := by decide +kernel
theorem d31_6 : decode jdk_42_method_139_code 6 = .ok (.iload_n 0, 1) := by decide +kernel
theorem d31_7 : decode jdk_42_method_139_code 7 = .ok (.invokestatic 1015, 3) := by decide +kernel
theorem pd_pCrZ : parseMethodDescriptor "(C)Z" = some ⟨[.char], some .boolean⟩ := by decide +kernel
theorem d31_10 : decode jdk_42_method_139_code 10 = .ok (.ifCond .eq 16, 3) := by decide +kernel
theorem d31_13 : decode jdk_42_method_139_code 13 = .ok (.new 10, 3) := by decide +kernel
theorem d31_16 : decode jdk_42_method_139_code 16 = .ok (.dup, 1) := by decide +kernel
theorem d31_17 : decode jdk_42_method_139_code 17 = .ok (.iload_n 0, 1) := by decide +kernel
theorem d31_18 : decode jdk_42_method_139_code 18 = .ok (.invokestatic 1018, 3) := by decide +kernel
theorem pd_pCrAB : parseMethodDescriptor "(C)[B" = some ⟨[.char], some (.array .byte)⟩ := by decide +kernel
theorem d31_21 : decode jdk_42_method_139_code 21 = .ok (.iconst 0, 1) := by decide +kernel
theorem d31_22 : decode jdk_42_method_139_code 22 = .ok (.invokespecial 209, 3) := by decide +kernel
theorem pd_pABBrV : parseMethodDescriptor "([BB)V" = some ⟨[(.array .byte), .byte], none⟩ := by decide +kernel
theorem d31_25 : decode jdk_42_method_139_code 25 = .ok (.areturn, 1) := by decide +kernel
theorem d31_26 : decode jdk_42_method_139_code 26 = .ok (.new 10, 3) := by decide +kernel
theorem d31_29 : decode jdk_42_method_139_code 29 = .ok (.dup, 1) := by decide +kernel
theorem d31_30 : decode jdk_42_method_139_code 30 = .ok (.iload_n 0, 1) := by decide +kernel
theorem d31_31 : decode jdk_42_method_139_code 31 = .ok (.invokestatic 1021, 3) := by decide +kernel
theorem d31_34 : decode jdk_42_method_139_code 34 = .ok (.iconst 1, 1) := by decide +kernel
theorem d31_35 : decode jdk_42_method_139_code 35 = .ok (.invokespecial 209, 3) := by decide +kernel
theorem d31_38 : decode jdk_42_method_139_code 38 = .ok (.areturn, 1) := by decide +kernel
theorem ef_svo (m : MethodId) (c0_ : Int32) : entryFrame m #[(.int c0_)] 1 = mkF m 0 #[vi c0_] [] := by first | (simp [entryFrame, mkF, argsToLocals, Value.category]; done) | rfl
def Q_svo (Z : State) (c0_ : Int32) (z_ : Int32) (h0 : Heap) (n0 : Nat) (v : Option Value) (h : Heap) (L : List Loc) : Prop := (∃ (x_ : Addr), v = some (rr x_) ∧ Fr n0 L ∧ Keep h0 h [] ∧ Exa Z h x_ nm0 ∧ Fld Z h x_ nm0 "coder" "B" (ii 0) ∧ ∃ (b_ : Addr), ∃ (kb_ : ClassId), Fld Z h x_ nm0 "value" "[B" (rr b_) ∧ Arv Z h b_ kb_ .byte (1 : Int32) [(.int (nar .byte (c0_.toInt8.toInt32)))] (ii 0) ∧ h0.size ≤ x_ ∧ ¬ ((255 : Int32) < c0_)) ∨ (∃ (x_ : Addr), v = some (rr x_) ∧ Fr n0 L ∧ Keep h0 h [] ∧ Exa Z h x_ nm0 ∧ Fld Z h x_ nm0 "coder" "B" (ii 1) ∧ ∃ (b_ : Addr), ∃ (kb_ : ClassId), Fld Z h x_ nm0 "value" "[B" (rr b_) ∧ Arv Z h b_ kb_ .byte (2 : Int32) [(.int (nar .byte ((c0_ >>> ((0 : Int32) &&& 31)).toInt8.toInt32))), (.int (nar .byte ((c0_ >>> ((8 : Int32) &&& 31)).toInt8.toInt32)))] (ii 0) ∧ h0.size ≤ x_)
set_option maxRecDepth 65536 in
set_option maxHeartbeats 40000000 in
theorem rm_svo (l : Launch) (Z : State) (a0 : Array Value) (hw : HW Z a0) (ws : List Jvm.Cond) (c0_ : Int32) (z_ : Int32) (h0 : Heap) (n0 : Nat) (O0 : Old Z n0 h0) (ZS0_ : Sta Z Z.heap nm0 "COMPACT_STRINGS" "Z" (.int z_)) (hz_ : ¬ (z_ = (0 : Int32))) (ZS2_ : Sta Z Z.heap nm1 "$assertionsDisabled" "Z" (ii 1)) (ZS3_ : Sta Z Z.heap nm1 "HI_BYTE_SHIFT" "I" (ii 0)) (ZS4_ : Sta Z Z.heap nm1 "LO_BYTE_SHIFT" "I" (ii 8)) :
  MFP l Z (⟨nm0, "valueOf", "(C)Ljava/lang/String;"⟩ : MethodName) jdk_42_method_139_code 1 (some (.object nm0)) ({ frames := 2, cells := 2, slots := 6, locals := 29 } : Room) ws #[(.int c0_)] h0 (Q_svo Z c0_ z_ h0 n0) := by
 refine MetFree.of_bodySF (plainFor_of_name pn_java_lang_String) hisR ?_
 intro p e s m args below meth c s₁ Bd hml0 hP hK
 obtain ⟨rfl, hZ, hh⟩ := hP
 have hx := Bd.exec
 have hby := Bd.bytes
 have hml : c.maxLocals = 1 := hml0
 have hown : s.vm.findClass nm0 = some m.cls := findClass_of_methodNamed Bd.named
 have hnm := (name_of_methodNamed Bd.named Bd.method).1
 have X0 : Stand p l e ({ frames := 2, cells := 2, slots := 6, locals := 29 } : Room) s m #[(.int c0_)] below meth c s₁ [] 0 0 := Stand.of_body Bd
 have e0 : s₁.heap = h0 := by rw [← hh, Bd.state]; rfl
 have N0 := Fr.nil n0
 have kp0 : Keep h0 h0 [] := Keep.refl _ _
 have c0 : ∀ t, S_ p e below s₁ m 0 #[vi c0_] [] t → Steps p.tables e below (s₁.setTop (entryFrame m #[(.int c0_)] 1)) t := fun t k => castTop (ef_svo m c0_) k
 generalize s₁.setTop (entryFrame m #[(.int c0_)] 1) = st0 at c0 ⊢
 replace c0 : Kt p e below s₁ st0 (mkF m 0 #[vi c0_] []) := c0
 obtain ⟨T1, X1, e1, c1⟩ := kgetS X0 hx hZ hown (host := "") (Or.inl (w46 hw)) Via.refl e0 (ZS0_.ext O0.2) c0 rfl (hb hby d31_0)
 have c2 : Kt p e below T1 st0 (mkF m 7 #[vi c0_] [(.int c0_)]) := fun t k => by
  refine c1 t ?_
  show S_ p e below T1 m 3 #[vi c0_] [(.int z_)] t
  refine XS.ifNo X1.here hx rfl (hb hby d31_3) rfl ((if0 _ _).trans (feq hz_).1) ?_
  refine XS.iloadN X1.here hx rfl (hb hby d31_6) rfl ?_
  exact k
 obtain ⟨_, T3, L3, X3, hQ3, c3⟩ := kstat X1 hx hZ hown (w109 hw) (w110 hw) (w59 hw) (w111 hw) (rm_ceC l Z a0 hw [] c0_ h0 n0 O0 ) e1 c2 hml pd_pCrZ [(.int c0_)] [] 0 (hb hby d31_7) rfl rfl rfl rfl rfl rfl
 rcases hQ3 with hQ3 | hQ3
 ·obtain ⟨rfl, N4q, K5, p6⟩ := hQ3
  have N4 := Fr.app N0 N4q
  have c7 : Kt p e below T3 st0 (mkF m 13 #[vi c0_] []) := fun t k => by
   refine c3 t ?_
   show S_ p e below T3 m 10 #[vi c0_] [(ii 1)] t
   refine XS.ifNo X3.here hx rfl (hb hby d31_10) rfl rfl ?_
   exact k
  obtain ⟨b8, T8, h8, z8, g8, X8, e8, E8, o9, A8, D8, U8, c8⟩ := knew X3 hx hZ hown (w112 hw) (w5 hw) (w6 hw) K5 c7 rfl (hb hby d31_13) (by decide) (by decide) O0
  have kp10 := kp0.ext E8
  have z11 := Nat.le_trans kp0.1 z8
  have c12 : Kt p e below T8 st0 (mkF m 18 #[vi c0_] [(.int c0_), (rr b8), (rr b8)]) := fun t k => by
   refine c8 t ?_
   show S_ p e below T8 m 16 #[vi c0_] [(rr b8)] t
   refine XS.dup X8.here hx rfl (hb hby d31_16) rfl rfl ?_
   refine XS.iloadN X8.here hx rfl (hb hby d31_17) rfl ?_
   exact k
  obtain ⟨_, T13, L13, X13, hQ13, c13⟩ := kstat X8 hx hZ hown (w113 hw) (w114 hw) (w59 hw) (w115 hw) (rm_l1tb l Z a0 hw [] c0_ h8 n0 o9 ) e8 c12 hml pd_pCrAB [(.int c0_)] [(rr b8), (rr b8)] 2 (hb hby d31_18) rfl rfl rfl rfl rfl rfl
  obtain ⟨b14, k15, rfl, N16q, K17, p18, p19, p20⟩ := hQ13
  have N16 := Fr.app N4 N16q
  have o21 := o9.keep K17 all0
  have kp22 := kp10.trans K17 all0
  have z23 := Nat.le_trans kp10.1 p20
  have g24 := Nat.le_trans (Nat.le_trans (Nat.le_of_eq o9.1.symm) o9.2.1) p20
  have f25 := (show Fld Z h8 b8 nm0 "value" "[B" .null from D8 (Or.inr (w20 hw)) (ty := (.array .byte)) (by decide)).keep K17 nin0
  have f26 := (show Fld Z h8 b8 nm0 "coder" "B" (ii 0) from D8 (Or.inr (w21 hw)) (ty := .byte) (by decide)).keep K17 nin0
  have c27 : Kt p e below T13 st0 (mkF m 22 #[vi c0_] [(ii 0), (rr b14), (rr b8), (rr b8)]) := fun t k => by
   refine c13 t ?_
   show S_ p e below T13 m 21 #[vi c0_] [(rr b14), (rr b8), (rr b8)] t
   refine XS.iconst X13.here hx rfl (hb hby d31_21) ?_
   exact k
  obtain ⟨_, T28, L28, X28, hQ28, c28⟩ := kspec X13 hx hZ hown (w116 hw) (w117 hw) (w6 hw) (w118 hw) (rm_sbb0 l Z a0 hw [] b8 b14 T13.heap n0 o21 (A8.keep K17) f25 f26 g8) rfl c27 hml pd_pABBrV b8 [(rr b14), (ii 0)] [(rr b8)] 1 (hb hby d31_22) rfl rfl rfl rfl rfl rfl
  obtain ⟨rfl, N29q, K30, p31, p32, p33⟩ := hQ28
  have N29 := Fr.app N16 N29q
  have o34 := o21.keep K30 (allS g8 all0)
  have kp35 := kp22.trans K30 (allS (Or.inr z11) all0)
  have q36 := Ne.symm (Nat.ne_of_lt (Nat.lt_of_lt_of_le A8.lt p20))
  obtain ⟨fs, hr, hrun, hended, hW, hsame⟩ := X28.leave (v := some (rr b8)) (fun h => by rw [Bd.returns] at h; cases h)
  refine ⟨_, _, c28 _ ?_, hrun, hended, _, _, rfl, ?_, ⟨_, rfl⟩, hW, hsame.mono (by decide) (by decide)⟩
  ·show S_ p e below T28 m 25 #[vi c0_] [(rr b8)] _
   exact retOut X28 hx Bd.returns rfl (Or.inr (Or.inr (Or.inr (Or.inr ⟨rfl, rfl, rfl⟩)))) (hb hby d31_25) hr
  ·show Q_svo Z c0_ z_ h0 n0 _ T28.heap _
   exact (Or.inl ⟨b8, rfl, N29, kp35, p31, p32, b14, k15, p33, (p18.keep K30 (ninS q36 nin0)), z11, p6⟩)
 ·obtain ⟨rfl, N37q, K38, p39⟩ := hQ3
  have N37 := Fr.app N0 N37q
  have c40 : Kt p e below T3 st0 (mkF m 26 #[vi c0_] []) := fun t k => by
   refine c3 t ?_
   show S_ p e below T3 m 10 #[vi c0_] [(ii 0)] t
   refine yI X3.here hx rfl 10 26 rfl (hb hby d31_10) rfl rfl ?_
   exact k
  obtain ⟨b41, T41, h41, z41, g41, X41, e41, E41, o42, A41, D41, U41, c41⟩ := knew X3 hx hZ hown (w112 hw) (w5 hw) (w6 hw) K38 c40 rfl (hb hby d31_26) (by decide) (by decide) O0
  have kp43 := kp0.ext E41
  have z44 := Nat.le_trans kp0.1 z41
  have c45 : Kt p e below T41 st0 (mkF m 31 #[vi c0_] [(.int c0_), (rr b41), (rr b41)]) := fun t k => by
   refine c41 t ?_
   show S_ p e below T41 m 29 #[vi c0_] [(rr b41)] t
   refine XS.dup X41.here hx rfl (hb hby d31_29) rfl rfl ?_
   refine XS.iloadN X41.here hx rfl (hb hby d31_30) rfl ?_
   exact k
  obtain ⟨_, T46, L46, X46, hQ46, c46⟩ := kstat X41 hx hZ hown (w190 hw) (w191 hw) (w127 hw) (w192 hw) (rm_u16tb l Z a0 hw [] c0_ h41 n0 o42 ZS2_ ZS3_ ZS4_) e41 c45 hml pd_pCrAB [(.int c0_)] [(rr b41), (rr b41)] 2 (hb hby d31_31) rfl rfl rfl rfl rfl rfl
  obtain ⟨b47, k48, rfl, N49q, K50, p51, p52, p53⟩ := hQ46
  have N49 := Fr.app N37 N49q
  have o54 := o42.keep K50 all0
  have kp55 := kp43.trans K50 all0
  have z56 := Nat.le_trans kp43.1 p53
  have g57 := Nat.le_trans (Nat.le_trans (Nat.le_of_eq o42.1.symm) o42.2.1) p53
  have f58 := (show Fld Z h41 b41 nm0 "value" "[B" .null from D41 (Or.inr (w20 hw)) (ty := (.array .byte)) (by decide)).keep K50 nin0
  have f59 := (show Fld Z h41 b41 nm0 "coder" "B" (ii 0) from D41 (Or.inr (w21 hw)) (ty := .byte) (by decide)).keep K50 nin0
  have c60 : Kt p e below T46 st0 (mkF m 35 #[vi c0_] [(ii 1), (rr b47), (rr b41), (rr b41)]) := fun t k => by
   refine c46 t ?_
   show S_ p e below T46 m 34 #[vi c0_] [(rr b47), (rr b41), (rr b41)] t
   refine XS.iconst X46.here hx rfl (hb hby d31_34) ?_
   exact k
  obtain ⟨_, T61, L61, X61, hQ61, c61⟩ := kspec X46 hx hZ hown (w116 hw) (w117 hw) (w6 hw) (w118 hw) (rm_sbb1 l Z a0 hw [] b41 b47 T46.heap n0 o54 (A41.keep K50) f58 f59 g41) rfl c60 hml pd_pABBrV b41 [(rr b47), (ii 1)] [(rr b41)] 1 (hb hby d31_35) rfl rfl rfl rfl rfl rfl
  obtain ⟨rfl, N62q, K63, p64, p65, p66⟩ := hQ61
  have N62 := Fr.app N49 N62q
  have o67 := o54.keep K63 (allS g41 all0)
  have kp68 := kp55.trans K63 (allS (Or.inr z44) all0)
  have q69 := Ne.symm (Nat.ne_of_lt (Nat.lt_of_lt_of_le A41.lt p53))
  obtain ⟨fs, hr, hrun, hended, hW, hsame⟩ := X61.leave (v := some (rr b41)) (fun h => by rw [Bd.returns] at h; cases h)
  refine ⟨_, _, c61 _ ?_, hrun, hended, _, _, rfl, ?_, ⟨_, rfl⟩, hW, hsame.mono (by decide) (by decide)⟩
  ·show S_ p e below T61 m 38 #[vi c0_] [(rr b41)] _
   exact retOut X61 hx Bd.returns rfl (Or.inr (Or.inr (Or.inr (Or.inr ⟨rfl, rfl, rfl⟩)))) (hb hby d31_38) hr
  ·show Q_svo Z c0_ z_ h0 n0 _ T61.heap _
   exact (Or.inr (⟨b41, rfl, N62, kp68, p64, p65, b47, k48, p66, (p51.keep K63 (ninS q69 nin0)), z44⟩))
theorem pn_com_example_gjallar_gjallar_messages_Coercions : plainName nm3 = true := by first | (simp [plainName, overriddenIn]; done) | decide +kernel
theorem d32_0 : decode prog_11_method_22_code 0 = .ok (.aload_n 0, 1) := by decide +kernel
theorem d32_1 : decode prog_11_method_22_code 1 = .ok (.instanceof 10, 3) := by decide +kernel
theorem d32_4 : decode prog_11_method_22_code 4 = .ok (.ifCond .eq 39, 3) := by decide +kernel
theorem d32_7 : decode prog_11_method_22_code 7 = .ok (.aload_n 0, 1) := by decide +kernel
theorem d32_8 : decode prog_11_method_22_code 8 = .ok (.checkcast 10, 3) := by decide +kernel
theorem d32_11 : decode prog_11_method_22_code 11 = .ok (.astore_n 1, 1) := by decide +kernel
theorem d32_12 : decode prog_11_method_22_code 12 = .ok (.aload_n 1, 1) := by decide +kernel
theorem d32_13 : decode prog_11_method_22_code 13 = .ok (.bipush 46, 2) := by decide +kernel
theorem d32_15 : decode prog_11_method_22_code 15 = .ok (.invokevirtual 228, 3) := by decide +kernel
theorem d32_18 : decode prog_11_method_22_code 18 = .ok (.ifCond .ge 21, 3) := by decide +kernel
theorem d32_21 : decode prog_11_method_22_code 21 = .ok (.aload_n 1, 1) := by decide +kernel
theorem d32_22 : decode prog_11_method_22_code 22 = .ok (.bipush 101, 2) := by decide +kernel
theorem d32_24 : decode prog_11_method_22_code 24 = .ok (.invokevirtual 228, 3) := by decide +kernel
theorem d32_27 : decode prog_11_method_22_code 27 = .ok (.ifCond .ge 12, 3) := by decide +kernel
theorem d32_30 : decode prog_11_method_22_code 30 = .ok (.aload_n 1, 1) := by decide +kernel
theorem d32_31 : decode prog_11_method_22_code 31 = .ok (.bipush 69, 2) := by decide +kernel
theorem d32_33 : decode prog_11_method_22_code 33 = .ok (.invokevirtual 228, 3) := by decide +kernel
theorem d32_36 : decode prog_11_method_22_code 36 = .ok (.ifCond .lt 7, 3) := by decide +kernel
theorem d32_43 : decode prog_11_method_22_code 43 = .ok (.iconst 0, 1) := by decide +kernel
theorem d32_44 : decode prog_11_method_22_code 44 = .ok (.ireturn, 1) := by decide +kernel
theorem ef_isdL_0 (m : MethodId) (x_ : Addr) : entryFrame m #[(rr x_)] 2 = mkF m 0 #[vr x_, u_] [] := by first | (simp [entryFrame, mkF, argsToLocals, Value.category]; done) | rfl
def Q_isdL_0 (Z : State) (x_ : Addr) (s_ : Addr) (ks_ : ClassId) (z_ : Int32) (h0 : Heap) (n0 : Nat) (v : Option Value) (h : Heap) (L : List Loc) : Prop := v = some (ii 0) ∧ Fr n0 L ∧ h = h0
set_option maxRecDepth 65536 in
set_option maxHeartbeats 40000000 in
theorem rm_isdL_0 (l : Launch) (Z : State) (a0 : Array Value) (hw : HW Z a0) (ws : List Jvm.Cond) (x_ : Addr) (s_ : Addr) (ks_ : ClassId) (z_ : Int32) (h0 : Heap) (n0 : Nat) (O0 : Old Z n0 h0) (E0_ : Exa Z h0 x_ nm0) (F1_ : Fld Z h0 x_ nm0 "coder" "B" (ii 0)) (F2_ : Fld Z h0 x_ nm0 "value" "[B" (rr s_)) (A3_ : Arv Z h0 s_ ks_ .byte (0 : Int32) [] (ii 0)) (ZS4_ : Sta Z Z.heap nm0 "COMPACT_STRINGS" "Z" (.int z_)) (hz_ : ¬ (z_ = (0 : Int32))) :
  MFP l Z (⟨nm3, "isDecimalText", "(Ljava/lang/Object;)Z"⟩ : MethodName) prog_11_method_22_code 2 (some .boolean) ({ frames := 4, cells := 0, slots := 0, locals := 55 } : Room) ws #[(rr x_)] h0 (Q_isdL_0 Z x_ s_ ks_ z_ h0 n0) := by
 refine MetFree.of_bodySF (plainFor_of_name pn_com_example_gjallar_gjallar_messages_Coercions) hisR ?_
 intro p e s m args below meth c s₁ Bd hml0 hP hK
 obtain ⟨rfl, hZ, hh⟩ := hP
 have hx := Bd.exec
 have hby := Bd.bytes
 have hml : c.maxLocals = 2 := hml0
 have hown : s.vm.findClass nm3 = some m.cls := findClass_of_methodNamed Bd.named
 have hnm := (name_of_methodNamed Bd.named Bd.method).1
 have X0 : Stand p l e ({ frames := 4, cells := 0, slots := 0, locals := 55 } : Room) s m #[(rr x_)] below meth c s₁ [] 0 0 := Stand.of_body Bd
 have e0 : s₁.heap = h0 := by rw [← hh, Bd.state]; rfl
 have N0 := Fr.nil n0
 have kp0 : Keep h0 h0 [] := Keep.refl _ _
 have c0 : ∀ t, S_ p e below s₁ m 0 #[vr x_, u_] [] t → Steps p.tables e below (s₁.setTop (entryFrame m #[(rr x_)] 2)) t := fun t k => castTop (ef_isdL_0 m x_) k
 generalize s₁.setTop (entryFrame m #[(rr x_)] 2) = st0 at c0 ⊢
 replace c0 : Kt p e below s₁ st0 (mkF m 0 #[vr x_, u_] []) := c0
 have c1 : Kt p e below s₁ st0 (mkF m 1 #[vr x_, u_] [(rr x_)]) := fun t k => by
  refine c0 t ?_
  show S_ p e below s₁ m 0 #[vr x_, u_] [] t
  refine XS.aloadN X0.here hx rfl (hb hby d32_0) rfl rfl ?_
  exact k
 obtain ⟨T2, X2, e2, c2⟩ := kinst X0 hx hZ hown (w30 hw) e0 (Ins.self E0_) c1 rfl rfl (hb hby d32_1)
 have c3 : Kt p e below T2 st0 (mkF m 8 #[vr x_, u_] [(rr x_)]) := fun t k => by
  refine c2 t ?_
  show S_ p e below T2 m 4 #[vr x_, u_] [(ii 1)] t
  refine XS.ifNo X2.here hx rfl (hb hby d32_4) rfl rfl ?_
  refine XS.aloadN X2.here hx rfl (hb hby d32_7) rfl rfl ?_
  exact k
 obtain ⟨T4, X4, e4, c4⟩ := kcast X2 hx hZ hown (w30 hw) e2 (Ins.self E0_) c3 rfl rfl (hb hby d32_8)
 have c5 : Kt p e below T4 st0 (mkF m 15 #[vr x_, vr x_] [(ii 46), (rr x_)]) := fun t k => by
  refine c4 t ?_
  show S_ p e below T4 m 11 #[vr x_, u_] [(rr x_)] t
  refine XS.astoreN X4.here hx rfl (hb hby d32_11) rfl rfl (l' := #[vr x_, vr x_]) rfl ?_
  refine XS.aloadN X4.here hx rfl (hb hby d32_12) rfl rfl ?_
  refine XS.bipush X4.here hx rfl (hb hby d32_13) ?_
  exact k
 obtain ⟨_, T6, L6, X6, hQ6, c6⟩ := kvirt X4 hx hZ hown (w31 hw) (w32 hw) (w34 hw) (w33 hw) (w35 hw) (w6 hw) (rm_six1L_0 l Z a0 hw [] x_ z_ s_ ks_ (46 : Int32) h0 n0 O0 E0_ F1_ F2_ A3_ ZS4_ hz_ (by decide) (by decide)) e4 E0_ c5 hml pd_pIrI [(ii 46)] [] 0 (hb hby d32_15) rfl rfl rfl rfl rfl rfl
 obtain ⟨rfl, N7q, K8⟩ := hQ6
 have N7 := Fr.app N0 N7q
 have c9 : Kt p e below T6 st0 (mkF m 24 #[vr x_, vr x_] [(ii 101), (rr x_)]) := fun t k => by
  refine c6 t ?_
  show S_ p e below T6 m 18 #[vr x_, vr x_] [(ii (-1))] t
  refine XS.ifNo X6.here hx rfl (hb hby d32_18) rfl rfl ?_
  refine XS.aloadN X6.here hx rfl (hb hby d32_21) rfl rfl ?_
  refine XS.bipush X6.here hx rfl (hb hby d32_22) ?_
  exact k
 obtain ⟨_, T10, L10, X10, hQ10, c10⟩ := kvirt X6 hx hZ hown (w31 hw) (w32 hw) (w34 hw) (w33 hw) (w35 hw) (w6 hw) (rm_six1L_0 l Z a0 hw [] x_ z_ s_ ks_ (101 : Int32) h0 n0 O0 E0_ F1_ F2_ A3_ ZS4_ hz_ (by decide) (by decide)) K8 E0_ c9 hml pd_pIrI [(ii 101)] [] 0 (hb hby d32_24) rfl rfl rfl rfl rfl rfl
 obtain ⟨rfl, N11q, K12⟩ := hQ10
 have N11 := Fr.app N7 N11q
 have c13 : Kt p e below T10 st0 (mkF m 33 #[vr x_, vr x_] [(ii 69), (rr x_)]) := fun t k => by
  refine c10 t ?_
  show S_ p e below T10 m 27 #[vr x_, vr x_] [(ii (-1))] t
  refine XS.ifNo X10.here hx rfl (hb hby d32_27) rfl rfl ?_
  refine XS.aloadN X10.here hx rfl (hb hby d32_30) rfl rfl ?_
  refine XS.bipush X10.here hx rfl (hb hby d32_31) ?_
  exact k
 obtain ⟨_, T14, L14, X14, hQ14, c14⟩ := kvirt X10 hx hZ hown (w31 hw) (w32 hw) (w34 hw) (w33 hw) (w35 hw) (w6 hw) (rm_six1L_0 l Z a0 hw [] x_ z_ s_ ks_ (69 : Int32) h0 n0 O0 E0_ F1_ F2_ A3_ ZS4_ hz_ (by decide) (by decide)) K12 E0_ c13 hml pd_pIrI [(ii 69)] [] 0 (hb hby d32_33) rfl rfl rfl rfl rfl rfl
 obtain ⟨rfl, N15q, K16⟩ := hQ14
 have N15 := Fr.app N11 N15q
 obtain ⟨fs, hr, hrun, hended, hW, hsame⟩ := X14.leave (v := some (ii 0)) (fun h => by rw [Bd.returns] at h; cases h)
 refine ⟨_, _, c14 _ ?_, hrun, hended, _, _, rfl, ?_, ⟨_, rfl⟩, hW, hsame.mono (by decide) (by decide)⟩
 ·show S_ p e below T14 m 36 #[vr x_, vr x_] [(ii (-1))] _
  refine yI X14.here hx rfl 36 43 rfl (hb hby d32_36) rfl rfl ?_
  refine XS.iconst X14.here hx rfl (hb hby d32_43) ?_
  show S_ p e below T14 m 44 #[vr x_, vr x_] [(ii 0)] _
  exact retN X14 hx (t := .boolean) Bd.returns (by simp) (hb hby d32_44) hr
 ·show Q_isdL_0 Z x_ s_ ks_ z_ h0 n0 _ T14.heap _
  rw [K16]
  exact ⟨rfl, N15, rfl⟩
theorem d32_39 : decode prog_11_method_22_code 39 = .ok (.iconst 1, 1) := by decide +kernel
theorem d32_40 : decode prog_11_method_22_code 40 = .ok (.goto 4, 3) := by decide +kernel
theorem ef_isdL_1 (m : MethodId) (x_ : Addr) : entryFrame m #[(rr x_)] 2 = mkF m 0 #[vr x_, u_] [] := by first | (simp [entryFrame, mkF, argsToLocals, Value.category]; done) | rfl
def Q_isdL_1 (Z : State) (x_ : Addr) (s_ : Addr) (ks_ : ClassId) (z_ : Int32) (c0_ : Int32) (h0 : Heap) (n0 : Nat) (v : Option Value) (h : Heap) (L : List Loc) : Prop := (v = some (ii 1) ∧ Fr n0 L ∧ h = h0 ∧ own_mk c0_) ∨ (v = some (ii 0) ∧ Fr n0 L ∧ h = h0 ∧ ¬ (own_mk c0_))
set_option maxRecDepth 65536 in
set_option maxHeartbeats 40000000 in
theorem rm_isdL_1 (l : Launch) (Z : State) (a0 : Array Value) (hw : HW Z a0) (ws : List Jvm.Cond) (x_ : Addr) (s_ : Addr) (ks_ : ClassId) (z_ : Int32) (c0_ : Int32) (h0 : Heap) (n0 : Nat) (O0 : Old Z n0 h0) (E0_ : Exa Z h0 x_ nm0) (F1_ : Fld Z h0 x_ nm0 "coder" "B" (ii 0)) (F2_ : Fld Z h0 x_ nm0 "value" "[B" (rr s_)) (A3_ : Arv Z h0 s_ ks_ .byte (1 : Int32) [(.int (nar .byte (c0_.toInt8.toInt32)))] (ii 0)) (ZS4_ : Sta Z Z.heap nm0 "COMPACT_STRINGS" "Z" (.int z_)) (hz_ : ¬ (z_ = (0 : Int32))) (hc0_ : nar .char c0_ = c0_) (hs0_ : ¬ ((255 : Int32) < c0_)) :
  MFP l Z (⟨nm3, "isDecimalText", "(Ljava/lang/Object;)Z"⟩ : MethodName) prog_11_method_22_code 2 (some .boolean) ({ frames := 4, cells := 0, slots := 0, locals := 59 } : Room) ws #[(rr x_)] h0 (Q_isdL_1 Z x_ s_ ks_ z_ c0_ h0 n0) := by
 refine MetFree.of_bodySF (plainFor_of_name pn_com_example_gjallar_gjallar_messages_Coercions) hisR ?_
 intro p e s m args below meth c s₁ Bd hml0 hP hK
 obtain ⟨rfl, hZ, hh⟩ := hP
 have hx := Bd.exec
 have hby := Bd.bytes
 have hml : c.maxLocals = 2 := hml0
 have hown : s.vm.findClass nm3 = some m.cls := findClass_of_methodNamed Bd.named
 have hnm := (name_of_methodNamed Bd.named Bd.method).1
 have X0 : Stand p l e ({ frames := 4, cells := 0, slots := 0, locals := 59 } : Room) s m #[(rr x_)] below meth c s₁ [] 0 0 := Stand.of_body Bd
 have e0 : s₁.heap = h0 := by rw [← hh, Bd.state]; rfl
 have N0 := Fr.nil n0
 have kp0 : Keep h0 h0 [] := Keep.refl _ _
 have c0 : ∀ t, S_ p e below s₁ m 0 #[vr x_, u_] [] t → Steps p.tables e below (s₁.setTop (entryFrame m #[(rr x_)] 2)) t := fun t k => castTop (ef_isdL_1 m x_) k
 generalize s₁.setTop (entryFrame m #[(rr x_)] 2) = st0 at c0 ⊢
 replace c0 : Kt p e below s₁ st0 (mkF m 0 #[vr x_, u_] []) := c0
 have c1 : Kt p e below s₁ st0 (mkF m 1 #[vr x_, u_] [(rr x_)]) := fun t k => by
  refine c0 t ?_
  show S_ p e below s₁ m 0 #[vr x_, u_] [] t
  refine XS.aloadN X0.here hx rfl (hb hby d32_0) rfl rfl ?_
  exact k
 obtain ⟨T2, X2, e2, c2⟩ := kinst X0 hx hZ hown (w30 hw) e0 (Ins.self E0_) c1 rfl rfl (hb hby d32_1)
 have c3 : Kt p e below T2 st0 (mkF m 8 #[vr x_, u_] [(rr x_)]) := fun t k => by
  refine c2 t ?_
  show S_ p e below T2 m 4 #[vr x_, u_] [(ii 1)] t
  refine XS.ifNo X2.here hx rfl (hb hby d32_4) rfl rfl ?_
  refine XS.aloadN X2.here hx rfl (hb hby d32_7) rfl rfl ?_
  exact k
 obtain ⟨T4, X4, e4, c4⟩ := kcast X2 hx hZ hown (w30 hw) e2 (Ins.self E0_) c3 rfl rfl (hb hby d32_8)
 have c5 : Kt p e below T4 st0 (mkF m 15 #[vr x_, vr x_] [(ii 46), (rr x_)]) := fun t k => by
  refine c4 t ?_
  show S_ p e below T4 m 11 #[vr x_, u_] [(rr x_)] t
  refine XS.astoreN X4.here hx rfl (hb hby d32_11) rfl rfl (l' := #[vr x_, vr x_]) rfl ?_
  refine XS.aloadN X4.here hx rfl (hb hby d32_12) rfl rfl ?_
  refine XS.bipush X4.here hx rfl (hb hby d32_13) ?_
  exact k
 obtain ⟨_, T6, L6, X6, hQ6, c6⟩ := kvirt X4 hx hZ hown (w31 hw) (w32 hw) (w34 hw) (w33 hw) (w35 hw) (w6 hw) (rm_six1L_1 l Z a0 hw [] x_ z_ s_ ks_ (46 : Int32) ((nar .byte (c0_.toInt8.toInt32))) h0 n0 O0 E0_ F1_ F2_ A3_ ZS4_ hz_ (by decide) (by decide)) e4 E0_ c5 hml pd_pIrI [(ii 46)] [] 0 (hb hby d32_15) rfl rfl rfl rfl rfl rfl
 rcases hQ6 with hQ6 | hQ6
 ·obtain ⟨i7, rfl, N8q, K9, p10, p11⟩ := hQ6
  have N8 := Fr.app N0 N8q
  obtain ⟨fs, hr, hrun, hended, hW, hsame⟩ := X6.leave (v := some (ii 1)) (fun h => by rw [Bd.returns] at h; cases h)
  refine ⟨_, _, c6 _ ?_, hrun, hended, _, _, rfl, ?_, ⟨_, rfl⟩, hW, hsame.mono (by decide) (by decide)⟩
  ·show S_ p e below T6 m 18 #[vr x_, vr x_] [(.int i7)] _
   refine yI X6.here hx rfl 18 39 rfl (hb hby d32_18) rfl ((if0 _ _).trans (flt p10).2.1) ?_
   refine XS.iconst X6.here hx rfl (hb hby d32_39) ?_
   refine yG X6.here hx rfl 40 44 rfl (hb hby d32_40) ?_
   show S_ p e below T6 m 44 #[vr x_, vr x_] [(ii 1)] _
   exact retN X6 hx (t := .boolean) Bd.returns (by simp) (hb hby d32_44) hr
  ·show Q_isdL_1 Z x_ s_ ks_ z_ c0_ h0 n0 _ T6.heap _
   rw [K9]
   exact (Or.inl ⟨rfl, N8, rfl, ((fun q => ((Or.inl ((own_lbT hc0_ hs0_).1 q)))) p11)⟩)
 ·obtain ⟨rfl, N12q, K13, p14⟩ := hQ6
  have N12 := Fr.app N0 N12q
  have c15 : Kt p e below T6 st0 (mkF m 24 #[vr x_, vr x_] [(ii 101), (rr x_)]) := fun t k => by
   refine c6 t ?_
   show S_ p e below T6 m 18 #[vr x_, vr x_] [(ii (-1))] t
   refine XS.ifNo X6.here hx rfl (hb hby d32_18) rfl rfl ?_
   refine XS.aloadN X6.here hx rfl (hb hby d32_21) rfl rfl ?_
   refine XS.bipush X6.here hx rfl (hb hby d32_22) ?_
   exact k
  obtain ⟨_, T16, L16, X16, hQ16, c16⟩ := kvirt X6 hx hZ hown (w31 hw) (w32 hw) (w34 hw) (w33 hw) (w35 hw) (w6 hw) (rm_six1L_1 l Z a0 hw [] x_ z_ s_ ks_ (101 : Int32) ((nar .byte (c0_.toInt8.toInt32))) h0 n0 O0 E0_ F1_ F2_ A3_ ZS4_ hz_ (by decide) (by decide)) K13 E0_ c15 hml pd_pIrI [(ii 101)] [] 0 (hb hby d32_24) rfl rfl rfl rfl rfl rfl
  rcases hQ16 with hQ16 | hQ16
  ·obtain ⟨i17, rfl, N18q, K19, p20, p21⟩ := hQ16
   have N18 := Fr.app N12 N18q
   obtain ⟨fs, hr, hrun, hended, hW, hsame⟩ := X16.leave (v := some (ii 1)) (fun h => by rw [Bd.returns] at h; cases h)
   refine ⟨_, _, c16 _ ?_, hrun, hended, _, _, rfl, ?_, ⟨_, rfl⟩, hW, hsame.mono (by decide) (by decide)⟩
   ·show S_ p e below T16 m 27 #[vr x_, vr x_] [(.int i17)] _
    refine yI X16.here hx rfl 27 39 rfl (hb hby d32_27) rfl ((if0 _ _).trans (flt p20).2.1) ?_
    refine XS.iconst X16.here hx rfl (hb hby d32_39) ?_
    refine yG X16.here hx rfl 40 44 rfl (hb hby d32_40) ?_
    show S_ p e below T16 m 44 #[vr x_, vr x_] [(ii 1)] _
    exact retN X16 hx (t := .boolean) Bd.returns (by simp) (hb hby d32_44) hr
   ·show Q_isdL_1 Z x_ s_ ks_ z_ c0_ h0 n0 _ T16.heap _
    rw [K19]
    exact (Or.inl ⟨rfl, N18, rfl, ((fun q => ((Or.inr (Or.inl ((own_lbT hc0_ hs0_).2.1 q))))) p21)⟩)
  ·obtain ⟨rfl, N22q, K23, p24⟩ := hQ16
   have N22 := Fr.app N12 N22q
   have c25 : Kt p e below T16 st0 (mkF m 33 #[vr x_, vr x_] [(ii 69), (rr x_)]) := fun t k => by
    refine c16 t ?_
    show S_ p e below T16 m 27 #[vr x_, vr x_] [(ii (-1))] t
    refine XS.ifNo X16.here hx rfl (hb hby d32_27) rfl rfl ?_
    refine XS.aloadN X16.here hx rfl (hb hby d32_30) rfl rfl ?_
    refine XS.bipush X16.here hx rfl (hb hby d32_31) ?_
    exact k
   obtain ⟨_, T26, L26, X26, hQ26, c26⟩ := kvirt X16 hx hZ hown (w31 hw) (w32 hw) (w34 hw) (w33 hw) (w35 hw) (w6 hw) (rm_six1L_1 l Z a0 hw [] x_ z_ s_ ks_ (69 : Int32) ((nar .byte (c0_.toInt8.toInt32))) h0 n0 O0 E0_ F1_ F2_ A3_ ZS4_ hz_ (by decide) (by decide)) K23 E0_ c25 hml pd_pIrI [(ii 69)] [] 0 (hb hby d32_33) rfl rfl rfl rfl rfl rfl
   rcases hQ26 with hQ26 | hQ26
   ·obtain ⟨i27, rfl, N28q, K29, p30, p31⟩ := hQ26
    have N28 := Fr.app N22 N28q
    obtain ⟨fs, hr, hrun, hended, hW, hsame⟩ := X26.leave (v := some (ii 1)) (fun h => by rw [Bd.returns] at h; cases h)
    refine ⟨_, _, c26 _ ?_, hrun, hended, _, _, rfl, ?_, ⟨_, rfl⟩, hW, hsame.mono (by decide) (by decide)⟩
    ·show S_ p e below T26 m 36 #[vr x_, vr x_] [(.int i27)] _
     refine XS.ifNo X26.here hx rfl (hb hby d32_36) rfl ((if0 _ _).trans (flt p30).1) ?_
     refine XS.iconst X26.here hx rfl (hb hby d32_39) ?_
     refine yG X26.here hx rfl 40 44 rfl (hb hby d32_40) ?_
     show S_ p e below T26 m 44 #[vr x_, vr x_] [(ii 1)] _
     exact retN X26 hx (t := .boolean) Bd.returns (by simp) (hb hby d32_44) hr
    ·show Q_isdL_1 Z x_ s_ ks_ z_ c0_ h0 n0 _ T26.heap _
     rw [K29]
     exact (Or.inl ⟨rfl, N28, rfl, ((fun q => ((Or.inr (Or.inr (((own_lbT hc0_ hs0_).2.2 q)))))) p31)⟩)
   ·obtain ⟨rfl, N32q, K33, p34⟩ := hQ26
    have N32 := Fr.app N22 N32q
    obtain ⟨fs, hr, hrun, hended, hW, hsame⟩ := X26.leave (v := some (ii 0)) (fun h => by rw [Bd.returns] at h; cases h)
    refine ⟨_, _, c26 _ ?_, hrun, hended, _, _, rfl, ?_, ⟨_, rfl⟩, hW, hsame.mono (by decide) (by decide)⟩
    ·show S_ p e below T26 m 36 #[vr x_, vr x_] [(ii (-1))] _
     refine yI X26.here hx rfl 36 43 rfl (hb hby d32_36) rfl rfl ?_
     refine XS.iconst X26.here hx rfl (hb hby d32_43) ?_
     show S_ p e below T26 m 44 #[vr x_, vr x_] [(ii 0)] _
     exact retN X26 hx (t := .boolean) Bd.returns (by simp) (hb hby d32_44) hr
    ·show Q_isdL_1 Z x_ s_ ks_ z_ c0_ h0 n0 _ T26.heap _
     rw [K33]
     exact (Or.inr (⟨rfl, N32, rfl, (own_lbN p14 p24 p34)⟩))
theorem ef_isdU_1 (m : MethodId) (x_ : Addr) : entryFrame m #[(rr x_)] 2 = mkF m 0 #[vr x_, u_] [] := by first | (simp [entryFrame, mkF, argsToLocals, Value.category]; done) | rfl
def Q_isdU_1 (Z : State) (x_ : Addr) (s_ : Addr) (ks_ : ClassId) (z_ : Int32) (c0_ : Int32) (fm_ : Value) (h0 : Heap) (n0 : Nat) (v : Option Value) (h : Heap) (L : List Loc) : Prop := (v = some (ii 1) ∧ Fr n0 L ∧ h = h0 ∧ own_mk c0_) ∨ (v = some (ii 0) ∧ Fr n0 L ∧ h = h0 ∧ ¬ (own_mk c0_))
set_option maxRecDepth 65536 in
set_option maxHeartbeats 40000000 in
theorem rm_isdU_1 (l : Launch) (Z : State) (a0 : Array Value) (hw : HW Z a0) (ws : List Jvm.Cond) (x_ : Addr) (s_ : Addr) (ks_ : ClassId) (z_ : Int32) (c0_ : Int32) (fm_ : Value) (h0 : Heap) (n0 : Nat) (O0 : Old Z n0 h0) (E0_ : Exa Z h0 x_ nm0) (F1_ : Fld Z h0 x_ nm0 "coder" "B" (ii 1)) (F2_ : Fld Z h0 x_ nm0 "value" "[B" (rr s_)) (A3_ : Arv Z h0 s_ ks_ .byte (2 : Int32) [(.int (nar .byte ((c0_ >>> ((0 : Int32) &&& 31)).toInt8.toInt32))), (.int (nar .byte ((c0_ >>> ((8 : Int32) &&& 31)).toInt8.toInt32)))] (ii 0)) (ZS4_ : Sta Z Z.heap nm0 "COMPACT_STRINGS" "Z" (.int z_)) (hz_ : ¬ (z_ = (0 : Int32))) (hc0_ : nar .char c0_ = c0_) (ZS7_ : Sta Z Z.heap nm1 "$assertionsDisabled" "Z" (ii 1)) (ZS8_ : Sta Z Z.heap nm1 "HI_BYTE_SHIFT" "I" (ii 0)) (ZS9_ : Sta Z Z.heap nm1 "LO_BYTE_SHIFT" "I" (ii 8)) (ZS10_ : Sta Z Z.heap nm4 "SIOOBE_FORMATTER" nm6 fm_) (hfm_ : fm_.isRef = true) :
  MFP l Z (⟨nm3, "isDecimalText", "(Ljava/lang/Object;)Z"⟩ : MethodName) prog_11_method_22_code 2 (some .boolean) ({ frames := 7, cells := 0, slots := 0, locals := 100 } : Room) ws #[(rr x_)] h0 (Q_isdU_1 Z x_ s_ ks_ z_ c0_ fm_ h0 n0) := by
 refine MetFree.of_bodySF (plainFor_of_name pn_com_example_gjallar_gjallar_messages_Coercions) hisR ?_
 intro p e s m args below meth c s₁ Bd hml0 hP hK
 obtain ⟨rfl, hZ, hh⟩ := hP
 have hx := Bd.exec
 have hby := Bd.bytes
 have hml : c.maxLocals = 2 := hml0
 have hown : s.vm.findClass nm3 = some m.cls := findClass_of_methodNamed Bd.named
 have hnm := (name_of_methodNamed Bd.named Bd.method).1
 have X0 : Stand p l e ({ frames := 7, cells := 0, slots := 0, locals := 100 } : Room) s m #[(rr x_)] below meth c s₁ [] 0 0 := Stand.of_body Bd
 have e0 : s₁.heap = h0 := by rw [← hh, Bd.state]; rfl
 have N0 := Fr.nil n0
 have kp0 : Keep h0 h0 [] := Keep.refl _ _
 have c0 : ∀ t, S_ p e below s₁ m 0 #[vr x_, u_] [] t → Steps p.tables e below (s₁.setTop (entryFrame m #[(rr x_)] 2)) t := fun t k => castTop (ef_isdU_1 m x_) k
 generalize s₁.setTop (entryFrame m #[(rr x_)] 2) = st0 at c0 ⊢
 replace c0 : Kt p e below s₁ st0 (mkF m 0 #[vr x_, u_] []) := c0
 have c1 : Kt p e below s₁ st0 (mkF m 1 #[vr x_, u_] [(rr x_)]) := fun t k => by
  refine c0 t ?_
  show S_ p e below s₁ m 0 #[vr x_, u_] [] t
  refine XS.aloadN X0.here hx rfl (hb hby d32_0) rfl rfl ?_
  exact k
 obtain ⟨T2, X2, e2, c2⟩ := kinst X0 hx hZ hown (w30 hw) e0 (Ins.self E0_) c1 rfl rfl (hb hby d32_1)
 have c3 : Kt p e below T2 st0 (mkF m 8 #[vr x_, u_] [(rr x_)]) := fun t k => by
  refine c2 t ?_
  show S_ p e below T2 m 4 #[vr x_, u_] [(ii 1)] t
  refine XS.ifNo X2.here hx rfl (hb hby d32_4) rfl rfl ?_
  refine XS.aloadN X2.here hx rfl (hb hby d32_7) rfl rfl ?_
  exact k
 obtain ⟨T4, X4, e4, c4⟩ := kcast X2 hx hZ hown (w30 hw) e2 (Ins.self E0_) c3 rfl rfl (hb hby d32_8)
 have c5 : Kt p e below T4 st0 (mkF m 15 #[vr x_, vr x_] [(ii 46), (rr x_)]) := fun t k => by
  refine c4 t ?_
  show S_ p e below T4 m 11 #[vr x_, u_] [(rr x_)] t
  refine XS.astoreN X4.here hx rfl (hb hby d32_11) rfl rfl (l' := #[vr x_, vr x_]) rfl ?_
  refine XS.aloadN X4.here hx rfl (hb hby d32_12) rfl rfl ?_
  refine XS.bipush X4.here hx rfl (hb hby d32_13) ?_
  exact k
 obtain ⟨_, T6, L6, X6, hQ6, c6⟩ := kvirt X4 hx hZ hown (w31 hw) (w32 hw) (w34 hw) (w33 hw) (w35 hw) (w6 hw) (rm_six1U_1 l Z a0 hw [] x_ z_ s_ ks_ (46 : Int32) c0_ fm_ h0 n0 O0 E0_ F1_ F2_ A3_ ZS4_ hz_ ZS7_ ZS8_ ZS9_ hc0_ ZS10_ hfm_ (by decide)) e4 E0_ c5 hml pd_pIrI [(ii 46)] [] 0 (hb hby d32_15) rfl rfl rfl rfl rfl rfl
 rcases hQ6 with hQ6 | hQ6
 ·obtain ⟨i7, rfl, N8q, K9, p10, p11⟩ := hQ6
  have N8 := Fr.app N0 N8q
  obtain ⟨fs, hr, hrun, hended, hW, hsame⟩ := X6.leave (v := some (ii 1)) (fun h => by rw [Bd.returns] at h; cases h)
  refine ⟨_, _, c6 _ ?_, hrun, hended, _, _, rfl, ?_, ⟨_, rfl⟩, hW, hsame.mono (by decide) (by decide)⟩
  ·show S_ p e below T6 m 18 #[vr x_, vr x_] [(.int i7)] _
   refine yI X6.here hx rfl 18 39 rfl (hb hby d32_18) rfl ((if0 _ _).trans (flt p10).2.1) ?_
   refine XS.iconst X6.here hx rfl (hb hby d32_39) ?_
   refine yG X6.here hx rfl 40 44 rfl (hb hby d32_40) ?_
   show S_ p e below T6 m 44 #[vr x_, vr x_] [(ii 1)] _
   exact retN X6 hx (t := .boolean) Bd.returns (by simp) (hb hby d32_44) hr
  ·show Q_isdU_1 Z x_ s_ ks_ z_ c0_ fm_ h0 n0 _ T6.heap _
   rw [K9]
   exact (Or.inl ⟨rfl, N8, rfl, ((fun q => ((Or.inl q))) p11)⟩)
 ·obtain ⟨rfl, N12q, K13, p14⟩ := hQ6
  have N12 := Fr.app N0 N12q
  have c15 : Kt p e below T6 st0 (mkF m 24 #[vr x_, vr x_] [(ii 101), (rr x_)]) := fun t k => by
   refine c6 t ?_
   show S_ p e below T6 m 18 #[vr x_, vr x_] [(ii (-1))] t
   refine XS.ifNo X6.here hx rfl (hb hby d32_18) rfl rfl ?_
   refine XS.aloadN X6.here hx rfl (hb hby d32_21) rfl rfl ?_
   refine XS.bipush X6.here hx rfl (hb hby d32_22) ?_
   exact k
  obtain ⟨_, T16, L16, X16, hQ16, c16⟩ := kvirt X6 hx hZ hown (w31 hw) (w32 hw) (w34 hw) (w33 hw) (w35 hw) (w6 hw) (rm_six1U_1 l Z a0 hw [] x_ z_ s_ ks_ (101 : Int32) c0_ fm_ h0 n0 O0 E0_ F1_ F2_ A3_ ZS4_ hz_ ZS7_ ZS8_ ZS9_ hc0_ ZS10_ hfm_ (by decide)) K13 E0_ c15 hml pd_pIrI [(ii 101)] [] 0 (hb hby d32_24) rfl rfl rfl rfl rfl rfl
  rcases hQ16 with hQ16 | hQ16
  ·obtain ⟨i17, rfl, N18q, K19, p20, p21⟩ := hQ16
   have N18 := Fr.app N12 N18q
   obtain ⟨fs, hr, hrun, hended, hW, hsame⟩ := X16.leave (v := some (ii 1)) (fun h => by rw [Bd.returns] at h; cases h)
   refine ⟨_, _, c16 _ ?_, hrun, hended, _, _, rfl, ?_, ⟨_, rfl⟩, hW, hsame.mono (by decide) (by decide)⟩
   ·show S_ p e below T16 m 27 #[vr x_, vr x_] [(.int i17)] _
    refine yI X16.here hx rfl 27 39 rfl (hb hby d32_27) rfl ((if0 _ _).trans (flt p20).2.1) ?_
    refine XS.iconst X16.here hx rfl (hb hby d32_39) ?_
    refine yG X16.here hx rfl 40 44 rfl (hb hby d32_40) ?_
    show S_ p e below T16 m 44 #[vr x_, vr x_] [(ii 1)] _
    exact retN X16 hx (t := .boolean) Bd.returns (by simp) (hb hby d32_44) hr
   ·show Q_isdU_1 Z x_ s_ ks_ z_ c0_ fm_ h0 n0 _ T16.heap _
    rw [K19]
    exact (Or.inl ⟨rfl, N18, rfl, ((fun q => ((Or.inr (Or.inl q)))) p21)⟩)
  ·obtain ⟨rfl, N22q, K23, p24⟩ := hQ16
   have N22 := Fr.app N12 N22q
   have c25 : Kt p e below T16 st0 (mkF m 33 #[vr x_, vr x_] [(ii 69), (rr x_)]) := fun t k => by
    refine c16 t ?_
    show S_ p e below T16 m 27 #[vr x_, vr x_] [(ii (-1))] t
    refine XS.ifNo X16.here hx rfl (hb hby d32_27) rfl rfl ?_
    refine XS.aloadN X16.here hx rfl (hb hby d32_30) rfl rfl ?_
    refine XS.bipush X16.here hx rfl (hb hby d32_31) ?_
    exact k
   obtain ⟨_, T26, L26, X26, hQ26, c26⟩ := kvirt X16 hx hZ hown (w31 hw) (w32 hw) (w34 hw) (w33 hw) (w35 hw) (w6 hw) (rm_six1U_1 l Z a0 hw [] x_ z_ s_ ks_ (69 : Int32) c0_ fm_ h0 n0 O0 E0_ F1_ F2_ A3_ ZS4_ hz_ ZS7_ ZS8_ ZS9_ hc0_ ZS10_ hfm_ (by decide)) K23 E0_ c25 hml pd_pIrI [(ii 69)] [] 0 (hb hby d32_33) rfl rfl rfl rfl rfl rfl
   rcases hQ26 with hQ26 | hQ26
   ·obtain ⟨i27, rfl, N28q, K29, p30, p31⟩ := hQ26
    have N28 := Fr.app N22 N28q
    obtain ⟨fs, hr, hrun, hended, hW, hsame⟩ := X26.leave (v := some (ii 1)) (fun h => by rw [Bd.returns] at h; cases h)
    refine ⟨_, _, c26 _ ?_, hrun, hended, _, _, rfl, ?_, ⟨_, rfl⟩, hW, hsame.mono (by decide) (by decide)⟩
    ·show S_ p e below T26 m 36 #[vr x_, vr x_] [(.int i27)] _
     refine XS.ifNo X26.here hx rfl (hb hby d32_36) rfl ((if0 _ _).trans (flt p30).1) ?_
     refine XS.iconst X26.here hx rfl (hb hby d32_39) ?_
     refine yG X26.here hx rfl 40 44 rfl (hb hby d32_40) ?_
     show S_ p e below T26 m 44 #[vr x_, vr x_] [(ii 1)] _
     exact retN X26 hx (t := .boolean) Bd.returns (by simp) (hb hby d32_44) hr
    ·show Q_isdU_1 Z x_ s_ ks_ z_ c0_ fm_ h0 n0 _ T26.heap _
     rw [K29]
     exact (Or.inl ⟨rfl, N28, rfl, ((fun q => ((Or.inr (Or.inr (q))))) p31)⟩)
   ·obtain ⟨rfl, N32q, K33, p34⟩ := hQ26
    have N32 := Fr.app N22 N32q
    obtain ⟨fs, hr, hrun, hended, hW, hsame⟩ := X26.leave (v := some (ii 0)) (fun h => by rw [Bd.returns] at h; cases h)
    refine ⟨_, _, c26 _ ?_, hrun, hended, _, _, rfl, ?_, ⟨_, rfl⟩, hW, hsame.mono (by decide) (by decide)⟩
    ·show S_ p e below T26 m 36 #[vr x_, vr x_] [(ii (-1))] _
     refine yI X26.here hx rfl 36 43 rfl (hb hby d32_36) rfl rfl ?_
     refine XS.iconst X26.here hx rfl (hb hby d32_43) ?_
     show S_ p e below T26 m 44 #[vr x_, vr x_] [(ii 0)] _
     exact retN X26 hx (t := .boolean) Bd.returns (by simp) (hb hby d32_44) hr
    ·show Q_isdU_1 Z x_ s_ ks_ z_ c0_ fm_ h0 n0 _ T26.heap _
     rw [K33]
     exact (Or.inr (⟨rfl, N32, rfl, (fun q => Or.elim q p14 (fun q => Or.elim q p24 p34))⟩))
theorem ef_isdL_2 (m : MethodId) (x_ : Addr) : entryFrame m #[(rr x_)] 2 = mkF m 0 #[vr x_, u_] [] := by first | (simp [entryFrame, mkF, argsToLocals, Value.category]; done) | rfl
def Q_isdL_2 (Z : State) (x_ : Addr) (s_ : Addr) (ks_ : ClassId) (z_ : Int32) (c0_ : Int32) (c1_ : Int32) (h0 : Heap) (n0 : Nat) (v : Option Value) (h : Heap) (L : List Loc) : Prop := (v = some (ii 1) ∧ Fr n0 L ∧ h = h0 ∧ ((own_mk c0_ ∨ own_mk c1_))) ∨ (v = some (ii 0) ∧ Fr n0 L ∧ h = h0 ∧ ¬ (own_mk c0_) ∧ ¬ (own_mk c1_))
set_option maxRecDepth 65536 in
set_option maxHeartbeats 40000000 in
theorem rm_isdL_2 (l : Launch) (Z : State) (a0 : Array Value) (hw : HW Z a0) (ws : List Jvm.Cond) (x_ : Addr) (s_ : Addr) (ks_ : ClassId) (z_ : Int32) (c0_ : Int32) (c1_ : Int32) (h0 : Heap) (n0 : Nat) (O0 : Old Z n0 h0) (E0_ : Exa Z h0 x_ nm0) (F1_ : Fld Z h0 x_ nm0 "coder" "B" (ii 0)) (F2_ : Fld Z h0 x_ nm0 "value" "[B" (rr s_)) (A3_ : Arv Z h0 s_ ks_ .byte (2 : Int32) [(.int (nar .byte (c0_.toInt8.toInt32))), (.int (nar .byte (c1_.toInt8.toInt32)))] (ii 0)) (ZS4_ : Sta Z Z.heap nm0 "COMPACT_STRINGS" "Z" (.int z_)) (hz_ : ¬ (z_ = (0 : Int32))) (hc0_ : nar .char c0_ = c0_) (hc1_ : nar .char c1_ = c1_) (hs0_ : ¬ ((255 : Int32) < c0_)) (hs1_ : ¬ ((255 : Int32) < c1_)) :
  MFP l Z (⟨nm3, "isDecimalText", "(Ljava/lang/Object;)Z"⟩ : MethodName) prog_11_method_22_code 2 (some .boolean) ({ frames := 4, cells := 0, slots := 0, locals := 59 } : Room) ws #[(rr x_)] h0 (Q_isdL_2 Z x_ s_ ks_ z_ c0_ c1_ h0 n0) := by
 refine MetFree.of_bodySF (plainFor_of_name pn_com_example_gjallar_gjallar_messages_Coercions) hisR ?_
 intro p e s m args below meth c s₁ Bd hml0 hP hK
 obtain ⟨rfl, hZ, hh⟩ := hP
 have hx := Bd.exec
 have hby := Bd.bytes
 have hml : c.maxLocals = 2 := hml0
 have hown : s.vm.findClass nm3 = some m.cls := findClass_of_methodNamed Bd.named
 have hnm := (name_of_methodNamed Bd.named Bd.method).1
 have X0 : Stand p l e ({ frames := 4, cells := 0, slots := 0, locals := 59 } : Room) s m #[(rr x_)] below meth c s₁ [] 0 0 := Stand.of_body Bd
 have e0 : s₁.heap = h0 := by rw [← hh, Bd.state]; rfl
 have N0 := Fr.nil n0
 have kp0 : Keep h0 h0 [] := Keep.refl _ _
 have c0 : ∀ t, S_ p e below s₁ m 0 #[vr x_, u_] [] t → Steps p.tables e below (s₁.setTop (entryFrame m #[(rr x_)] 2)) t := fun t k => castTop (ef_isdL_2 m x_) k
 generalize s₁.setTop (entryFrame m #[(rr x_)] 2) = st0 at c0 ⊢
 replace c0 : Kt p e below s₁ st0 (mkF m 0 #[vr x_, u_] []) := c0
 have c1 : Kt p e below s₁ st0 (mkF m 1 #[vr x_, u_] [(rr x_)]) := fun t k => by
  refine c0 t ?_
  show S_ p e below s₁ m 0 #[vr x_, u_] [] t
  refine XS.aloadN X0.here hx rfl (hb hby d32_0) rfl rfl ?_
  exact k
 obtain ⟨T2, X2, e2, c2⟩ := kinst X0 hx hZ hown (w30 hw) e0 (Ins.self E0_) c1 rfl rfl (hb hby d32_1)
 have c3 : Kt p e below T2 st0 (mkF m 8 #[vr x_, u_] [(rr x_)]) := fun t k => by
  refine c2 t ?_
  show S_ p e below T2 m 4 #[vr x_, u_] [(ii 1)] t
  refine XS.ifNo X2.here hx rfl (hb hby d32_4) rfl rfl ?_
  refine XS.aloadN X2.here hx rfl (hb hby d32_7) rfl rfl ?_
  exact k
 obtain ⟨T4, X4, e4, c4⟩ := kcast X2 hx hZ hown (w30 hw) e2 (Ins.self E0_) c3 rfl rfl (hb hby d32_8)
 have c5 : Kt p e below T4 st0 (mkF m 15 #[vr x_, vr x_] [(ii 46), (rr x_)]) := fun t k => by
  refine c4 t ?_
  show S_ p e below T4 m 11 #[vr x_, u_] [(rr x_)] t
  refine XS.astoreN X4.here hx rfl (hb hby d32_11) rfl rfl (l' := #[vr x_, vr x_]) rfl ?_
  refine XS.aloadN X4.here hx rfl (hb hby d32_12) rfl rfl ?_
  refine XS.bipush X4.here hx rfl (hb hby d32_13) ?_
  exact k
 obtain ⟨_, T6, L6, X6, hQ6, c6⟩ := kvirt X4 hx hZ hown (w31 hw) (w32 hw) (w34 hw) (w33 hw) (w35 hw) (w6 hw) (rm_six1L_2 l Z a0 hw [] x_ z_ s_ ks_ (46 : Int32) ((nar .byte (c0_.toInt8.toInt32))) ((nar .byte (c1_.toInt8.toInt32))) h0 n0 O0 E0_ F1_ F2_ A3_ ZS4_ hz_ (by decide) (by decide)) e4 E0_ c5 hml pd_pIrI [(ii 46)] [] 0 (hb hby d32_15) rfl rfl rfl rfl rfl rfl
 rcases hQ6 with hQ6 | hQ6
 ·obtain ⟨i7, rfl, N8q, K9, p10, p11⟩ := hQ6
  have N8 := Fr.app N0 N8q
  obtain ⟨fs, hr, hrun, hended, hW, hsame⟩ := X6.leave (v := some (ii 1)) (fun h => by rw [Bd.returns] at h; cases h)
  refine ⟨_, _, c6 _ ?_, hrun, hended, _, _, rfl, ?_, ⟨_, rfl⟩, hW, hsame.mono (by decide) (by decide)⟩
  ·show S_ p e below T6 m 18 #[vr x_, vr x_] [(.int i7)] _
   refine yI X6.here hx rfl 18 39 rfl (hb hby d32_18) rfl ((if0 _ _).trans (flt p10).2.1) ?_
   refine XS.iconst X6.here hx rfl (hb hby d32_39) ?_
   refine yG X6.here hx rfl 40 44 rfl (hb hby d32_40) ?_
   show S_ p e below T6 m 44 #[vr x_, vr x_] [(ii 1)] _
   exact retN X6 hx (t := .boolean) Bd.returns (by simp) (hb hby d32_44) hr
  ·show Q_isdL_2 Z x_ s_ ks_ z_ c0_ c1_ h0 n0 _ T6.heap _
   rw [K9]
   exact (Or.inl ⟨rfl, N8, rfl, ((fun q => Or.elim q (fun q => (Or.inl (Or.inl ((own_lbT hc0_ hs0_).1 q)))) (fun q => (Or.inr ((Or.inl ((own_lbT hc1_ hs1_).1 q)))))) p11)⟩)
 ·obtain ⟨rfl, N12q, K13, p14, p15⟩ := hQ6
  have N12 := Fr.app N0 N12q
  have c16 : Kt p e below T6 st0 (mkF m 24 #[vr x_, vr x_] [(ii 101), (rr x_)]) := fun t k => by
   refine c6 t ?_
   show S_ p e below T6 m 18 #[vr x_, vr x_] [(ii (-1))] t
   refine XS.ifNo X6.here hx rfl (hb hby d32_18) rfl rfl ?_
   refine XS.aloadN X6.here hx rfl (hb hby d32_21) rfl rfl ?_
   refine XS.bipush X6.here hx rfl (hb hby d32_22) ?_
   exact k
  obtain ⟨_, T17, L17, X17, hQ17, c17⟩ := kvirt X6 hx hZ hown (w31 hw) (w32 hw) (w34 hw) (w33 hw) (w35 hw) (w6 hw) (rm_six1L_2 l Z a0 hw [] x_ z_ s_ ks_ (101 : Int32) ((nar .byte (c0_.toInt8.toInt32))) ((nar .byte (c1_.toInt8.toInt32))) h0 n0 O0 E0_ F1_ F2_ A3_ ZS4_ hz_ (by decide) (by decide)) K13 E0_ c16 hml pd_pIrI [(ii 101)] [] 0 (hb hby d32_24) rfl rfl rfl rfl rfl rfl
  rcases hQ17 with hQ17 | hQ17
  ·obtain ⟨i18, rfl, N19q, K20, p21, p22⟩ := hQ17
   have N19 := Fr.app N12 N19q
   obtain ⟨fs, hr, hrun, hended, hW, hsame⟩ := X17.leave (v := some (ii 1)) (fun h => by rw [Bd.returns] at h; cases h)
   refine ⟨_, _, c17 _ ?_, hrun, hended, _, _, rfl, ?_, ⟨_, rfl⟩, hW, hsame.mono (by decide) (by decide)⟩
   ·show S_ p e below T17 m 27 #[vr x_, vr x_] [(.int i18)] _
    refine yI X17.here hx rfl 27 39 rfl (hb hby d32_27) rfl ((if0 _ _).trans (flt p21).2.1) ?_
    refine XS.iconst X17.here hx rfl (hb hby d32_39) ?_
    refine yG X17.here hx rfl 40 44 rfl (hb hby d32_40) ?_
    show S_ p e below T17 m 44 #[vr x_, vr x_] [(ii 1)] _
    exact retN X17 hx (t := .boolean) Bd.returns (by simp) (hb hby d32_44) hr
   ·show Q_isdL_2 Z x_ s_ ks_ z_ c0_ c1_ h0 n0 _ T17.heap _
    rw [K20]
    exact (Or.inl ⟨rfl, N19, rfl, ((fun q => Or.elim q (fun q => (Or.inl (Or.inr (Or.inl ((own_lbT hc0_ hs0_).2.1 q))))) (fun q => (Or.inr ((Or.inr (Or.inl ((own_lbT hc1_ hs1_).2.1 q))))))) p22)⟩)
  ·obtain ⟨rfl, N23q, K24, p25, p26⟩ := hQ17
   have N23 := Fr.app N12 N23q
   have c27 : Kt p e below T17 st0 (mkF m 33 #[vr x_, vr x_] [(ii 69), (rr x_)]) := fun t k => by
    refine c17 t ?_
    show S_ p e below T17 m 27 #[vr x_, vr x_] [(ii (-1))] t
    refine XS.ifNo X17.here hx rfl (hb hby d32_27) rfl rfl ?_
    refine XS.aloadN X17.here hx rfl (hb hby d32_30) rfl rfl ?_
    refine XS.bipush X17.here hx rfl (hb hby d32_31) ?_
    exact k
   obtain ⟨_, T28, L28, X28, hQ28, c28⟩ := kvirt X17 hx hZ hown (w31 hw) (w32 hw) (w34 hw) (w33 hw) (w35 hw) (w6 hw) (rm_six1L_2 l Z a0 hw [] x_ z_ s_ ks_ (69 : Int32) ((nar .byte (c0_.toInt8.toInt32))) ((nar .byte (c1_.toInt8.toInt32))) h0 n0 O0 E0_ F1_ F2_ A3_ ZS4_ hz_ (by decide) (by decide)) K24 E0_ c27 hml pd_pIrI [(ii 69)] [] 0 (hb hby d32_33) rfl rfl rfl rfl rfl rfl
   rcases hQ28 with hQ28 | hQ28
   ·obtain ⟨i29, rfl, N30q, K31, p32, p33⟩ := hQ28
    have N30 := Fr.app N23 N30q
    obtain ⟨fs, hr, hrun, hended, hW, hsame⟩ := X28.leave (v := some (ii 1)) (fun h => by rw [Bd.returns] at h; cases h)
    refine ⟨_, _, c28 _ ?_, hrun, hended, _, _, rfl, ?_, ⟨_, rfl⟩, hW, hsame.mono (by decide) (by decide)⟩
    ·show S_ p e below T28 m 36 #[vr x_, vr x_] [(.int i29)] _
     refine XS.ifNo X28.here hx rfl (hb hby d32_36) rfl ((if0 _ _).trans (flt p32).1) ?_
     refine XS.iconst X28.here hx rfl (hb hby d32_39) ?_
     refine yG X28.here hx rfl 40 44 rfl (hb hby d32_40) ?_
     show S_ p e below T28 m 44 #[vr x_, vr x_] [(ii 1)] _
     exact retN X28 hx (t := .boolean) Bd.returns (by simp) (hb hby d32_44) hr
    ·show Q_isdL_2 Z x_ s_ ks_ z_ c0_ c1_ h0 n0 _ T28.heap _
     rw [K31]
     exact (Or.inl ⟨rfl, N30, rfl, ((fun q => Or.elim q (fun q => (Or.inl (Or.inr (Or.inr (((own_lbT hc0_ hs0_).2.2 q)))))) (fun q => (Or.inr ((Or.inr (Or.inr (((own_lbT hc1_ hs1_).2.2 q)))))))) p33)⟩)
   ·obtain ⟨rfl, N34q, K35, p36, p37⟩ := hQ28
    have N34 := Fr.app N23 N34q
    obtain ⟨fs, hr, hrun, hended, hW, hsame⟩ := X28.leave (v := some (ii 0)) (fun h => by rw [Bd.returns] at h; cases h)
    refine ⟨_, _, c28 _ ?_, hrun, hended, _, _, rfl, ?_, ⟨_, rfl⟩, hW, hsame.mono (by decide) (by decide)⟩
    ·show S_ p e below T28 m 36 #[vr x_, vr x_] [(ii (-1))] _
     refine yI X28.here hx rfl 36 43 rfl (hb hby d32_36) rfl rfl ?_
     refine XS.iconst X28.here hx rfl (hb hby d32_43) ?_
     show S_ p e below T28 m 44 #[vr x_, vr x_] [(ii 0)] _
     exact retN X28 hx (t := .boolean) Bd.returns (by simp) (hb hby d32_44) hr
    ·show Q_isdL_2 Z x_ s_ ks_ z_ c0_ c1_ h0 n0 _ T28.heap _
     rw [K35]
     exact (Or.inr (⟨rfl, N34, rfl, (own_lbN p14 p25 p36), (own_lbN p15 p26 p37)⟩))
theorem ef_isdU_2 (m : MethodId) (x_ : Addr) : entryFrame m #[(rr x_)] 2 = mkF m 0 #[vr x_, u_] [] := by first | (simp [entryFrame, mkF, argsToLocals, Value.category]; done) | rfl
def Q_isdU_2 (Z : State) (x_ : Addr) (s_ : Addr) (ks_ : ClassId) (z_ : Int32) (c0_ : Int32) (c1_ : Int32) (fm_ : Value) (h0 : Heap) (n0 : Nat) (v : Option Value) (h : Heap) (L : List Loc) : Prop := (v = some (ii 1) ∧ Fr n0 L ∧ h = h0 ∧ ((own_mk c0_ ∨ own_mk c1_))) ∨ (v = some (ii 0) ∧ Fr n0 L ∧ h = h0 ∧ ¬ (own_mk c0_) ∧ ¬ (own_mk c1_))
set_option maxRecDepth 65536 in
set_option maxHeartbeats 40000000 in
theorem rm_isdU_2 (l : Launch) (Z : State) (a0 : Array Value) (hw : HW Z a0) (ws : List Jvm.Cond) (x_ : Addr) (s_ : Addr) (ks_ : ClassId) (z_ : Int32) (c0_ : Int32) (c1_ : Int32) (fm_ : Value) (h0 : Heap) (n0 : Nat) (O0 : Old Z n0 h0) (E0_ : Exa Z h0 x_ nm0) (F1_ : Fld Z h0 x_ nm0 "coder" "B" (ii 1)) (F2_ : Fld Z h0 x_ nm0 "value" "[B" (rr s_)) (A3_ : Arv Z h0 s_ ks_ .byte (4 : Int32) [(.int (nar .byte ((c0_ >>> ((0 : Int32) &&& 31)).toInt8.toInt32))), (.int (nar .byte ((c0_ >>> ((8 : Int32) &&& 31)).toInt8.toInt32))), (.int (nar .byte ((c1_ >>> ((0 : Int32) &&& 31)).toInt8.toInt32))), (.int (nar .byte ((c1_ >>> ((8 : Int32) &&& 31)).toInt8.toInt32)))] (ii 0)) (ZS4_ : Sta Z Z.heap nm0 "COMPACT_STRINGS" "Z" (.int z_)) (hz_ : ¬ (z_ = (0 : Int32))) (hc0_ : nar .char c0_ = c0_) (hc1_ : nar .char c1_ = c1_) (ZS8_ : Sta Z Z.heap nm1 "$assertionsDisabled" "Z" (ii 1)) (ZS9_ : Sta Z Z.heap nm1 "HI_BYTE_SHIFT" "I" (ii 0)) (ZS10_ : Sta Z Z.heap nm1 "LO_BYTE_SHIFT" "I" (ii 8)) (ZS11_ : Sta Z Z.heap nm4 "SIOOBE_FORMATTER" nm6 fm_) (hfm_ : fm_.isRef = true) :
  MFP l Z (⟨nm3, "isDecimalText", "(Ljava/lang/Object;)Z"⟩ : MethodName) prog_11_method_22_code 2 (some .boolean) ({ frames := 7, cells := 0, slots := 0, locals := 100 } : Room) ws #[(rr x_)] h0 (Q_isdU_2 Z x_ s_ ks_ z_ c0_ c1_ fm_ h0 n0) := by
 refine MetFree.of_bodySF (plainFor_of_name pn_com_example_gjallar_gjallar_messages_Coercions) hisR ?_
 intro p e s m args below meth c s₁ Bd hml0 hP hK
 obtain ⟨rfl, hZ, hh⟩ := hP
 have hx := Bd.exec
 have hby := Bd.bytes
 have hml : c.maxLocals = 2 := hml0
 have hown : s.vm.findClass nm3 = some m.cls := findClass_of_methodNamed Bd.named
 have hnm := (name_of_methodNamed Bd.named Bd.method).1
 have X0 : Stand p l e ({ frames := 7, cells := 0, slots := 0, locals := 100 } : Room) s m #[(rr x_)] below meth c s₁ [] 0 0 := Stand.of_body Bd
 have e0 : s₁.heap = h0 := by rw [← hh, Bd.state]; rfl
 have N0 := Fr.nil n0
 have kp0 : Keep h0 h0 [] := Keep.refl _ _
 have c0 : ∀ t, S_ p e below s₁ m 0 #[vr x_, u_] [] t → Steps p.tables e below (s₁.setTop (entryFrame m #[(rr x_)] 2)) t := fun t k => castTop (ef_isdU_2 m x_) k
 generalize s₁.setTop (entryFrame m #[(rr x_)] 2) = st0 at c0 ⊢
 replace c0 : Kt p e below s₁ st0 (mkF m 0 #[vr x_, u_] []) := c0
 have c1 : Kt p e below s₁ st0 (mkF m 1 #[vr x_, u_] [(rr x_)]) := fun t k => by
  refine c0 t ?_
  show S_ p e below s₁ m 0 #[vr x_, u_] [] t
  refine XS.aloadN X0.here hx rfl (hb hby d32_0) rfl rfl ?_
  exact k
 obtain ⟨T2, X2, e2, c2⟩ := kinst X0 hx hZ hown (w30 hw) e0 (Ins.self E0_) c1 rfl rfl (hb hby d32_1)
 have c3 : Kt p e below T2 st0 (mkF m 8 #[vr x_, u_] [(rr x_)]) := fun t k => by
  refine c2 t ?_
  show S_ p e below T2 m 4 #[vr x_, u_] [(ii 1)] t
  refine XS.ifNo X2.here hx rfl (hb hby d32_4) rfl rfl ?_
  refine XS.aloadN X2.here hx rfl (hb hby d32_7) rfl rfl ?_
  exact k
 obtain ⟨T4, X4, e4, c4⟩ := kcast X2 hx hZ hown (w30 hw) e2 (Ins.self E0_) c3 rfl rfl (hb hby d32_8)
 have c5 : Kt p e below T4 st0 (mkF m 15 #[vr x_, vr x_] [(ii 46), (rr x_)]) := fun t k => by
  refine c4 t ?_
  show S_ p e below T4 m 11 #[vr x_, u_] [(rr x_)] t
  refine XS.astoreN X4.here hx rfl (hb hby d32_11) rfl rfl (l' := #[vr x_, vr x_]) rfl ?_
  refine XS.aloadN X4.here hx rfl (hb hby d32_12) rfl rfl ?_
  refine XS.bipush X4.here hx rfl (hb hby d32_13) ?_
  exact k
 obtain ⟨_, T6, L6, X6, hQ6, c6⟩ := kvirt X4 hx hZ hown (w31 hw) (w32 hw) (w34 hw) (w33 hw) (w35 hw) (w6 hw) (rm_six1U_2 l Z a0 hw [] x_ z_ s_ ks_ (46 : Int32) c0_ c1_ fm_ h0 n0 O0 E0_ F1_ F2_ A3_ ZS4_ hz_ ZS8_ ZS9_ ZS10_ hc0_ hc1_ ZS11_ hfm_ (by decide)) e4 E0_ c5 hml pd_pIrI [(ii 46)] [] 0 (hb hby d32_15) rfl rfl rfl rfl rfl rfl
 rcases hQ6 with hQ6 | hQ6
 ·obtain ⟨i7, rfl, N8q, K9, p10, p11⟩ := hQ6
  have N8 := Fr.app N0 N8q
  obtain ⟨fs, hr, hrun, hended, hW, hsame⟩ := X6.leave (v := some (ii 1)) (fun h => by rw [Bd.returns] at h; cases h)
  refine ⟨_, _, c6 _ ?_, hrun, hended, _, _, rfl, ?_, ⟨_, rfl⟩, hW, hsame.mono (by decide) (by decide)⟩
  ·show S_ p e below T6 m 18 #[vr x_, vr x_] [(.int i7)] _
   refine yI X6.here hx rfl 18 39 rfl (hb hby d32_18) rfl ((if0 _ _).trans (flt p10).2.1) ?_
   refine XS.iconst X6.here hx rfl (hb hby d32_39) ?_
   refine yG X6.here hx rfl 40 44 rfl (hb hby d32_40) ?_
   show S_ p e below T6 m 44 #[vr x_, vr x_] [(ii 1)] _
   exact retN X6 hx (t := .boolean) Bd.returns (by simp) (hb hby d32_44) hr
  ·show Q_isdU_2 Z x_ s_ ks_ z_ c0_ c1_ fm_ h0 n0 _ T6.heap _
   rw [K9]
   exact (Or.inl ⟨rfl, N8, rfl, ((fun q => Or.elim q (fun q => (Or.inl (Or.inl q))) (fun q => (Or.inr ((Or.inl q))))) p11)⟩)
 ·obtain ⟨rfl, N12q, K13, p14, p15⟩ := hQ6
  have N12 := Fr.app N0 N12q
  have c16 : Kt p e below T6 st0 (mkF m 24 #[vr x_, vr x_] [(ii 101), (rr x_)]) := fun t k => by
   refine c6 t ?_
   show S_ p e below T6 m 18 #[vr x_, vr x_] [(ii (-1))] t
   refine XS.ifNo X6.here hx rfl (hb hby d32_18) rfl rfl ?_
   refine XS.aloadN X6.here hx rfl (hb hby d32_21) rfl rfl ?_
   refine XS.bipush X6.here hx rfl (hb hby d32_22) ?_
   exact k
  obtain ⟨_, T17, L17, X17, hQ17, c17⟩ := kvirt X6 hx hZ hown (w31 hw) (w32 hw) (w34 hw) (w33 hw) (w35 hw) (w6 hw) (rm_six1U_2 l Z a0 hw [] x_ z_ s_ ks_ (101 : Int32) c0_ c1_ fm_ h0 n0 O0 E0_ F1_ F2_ A3_ ZS4_ hz_ ZS8_ ZS9_ ZS10_ hc0_ hc1_ ZS11_ hfm_ (by decide)) K13 E0_ c16 hml pd_pIrI [(ii 101)] [] 0 (hb hby d32_24) rfl rfl rfl rfl rfl rfl
  rcases hQ17 with hQ17 | hQ17
  ·obtain ⟨i18, rfl, N19q, K20, p21, p22⟩ := hQ17
   have N19 := Fr.app N12 N19q
   obtain ⟨fs, hr, hrun, hended, hW, hsame⟩ := X17.leave (v := some (ii 1)) (fun h => by rw [Bd.returns] at h; cases h)
   refine ⟨_, _, c17 _ ?_, hrun, hended, _, _, rfl, ?_, ⟨_, rfl⟩, hW, hsame.mono (by decide) (by decide)⟩
   ·show S_ p e below T17 m 27 #[vr x_, vr x_] [(.int i18)] _
    refine yI X17.here hx rfl 27 39 rfl (hb hby d32_27) rfl ((if0 _ _).trans (flt p21).2.1) ?_
    refine XS.iconst X17.here hx rfl (hb hby d32_39) ?_
    refine yG X17.here hx rfl 40 44 rfl (hb hby d32_40) ?_
    show S_ p e below T17 m 44 #[vr x_, vr x_] [(ii 1)] _
    exact retN X17 hx (t := .boolean) Bd.returns (by simp) (hb hby d32_44) hr
   ·show Q_isdU_2 Z x_ s_ ks_ z_ c0_ c1_ fm_ h0 n0 _ T17.heap _
    rw [K20]
    exact (Or.inl ⟨rfl, N19, rfl, ((fun q => Or.elim q (fun q => (Or.inl (Or.inr (Or.inl q)))) (fun q => (Or.inr ((Or.inr (Or.inl q)))))) p22)⟩)
  ·obtain ⟨rfl, N23q, K24, p25, p26⟩ := hQ17
   have N23 := Fr.app N12 N23q
   have c27 : Kt p e below T17 st0 (mkF m 33 #[vr x_, vr x_] [(ii 69), (rr x_)]) := fun t k => by
    refine c17 t ?_
    show S_ p e below T17 m 27 #[vr x_, vr x_] [(ii (-1))] t
    refine XS.ifNo X17.here hx rfl (hb hby d32_27) rfl rfl ?_
    refine XS.aloadN X17.here hx rfl (hb hby d32_30) rfl rfl ?_
    refine XS.bipush X17.here hx rfl (hb hby d32_31) ?_
    exact k
   obtain ⟨_, T28, L28, X28, hQ28, c28⟩ := kvirt X17 hx hZ hown (w31 hw) (w32 hw) (w34 hw) (w33 hw) (w35 hw) (w6 hw) (rm_six1U_2 l Z a0 hw [] x_ z_ s_ ks_ (69 : Int32) c0_ c1_ fm_ h0 n0 O0 E0_ F1_ F2_ A3_ ZS4_ hz_ ZS8_ ZS9_ ZS10_ hc0_ hc1_ ZS11_ hfm_ (by decide)) K24 E0_ c27 hml pd_pIrI [(ii 69)] [] 0 (hb hby d32_33) rfl rfl rfl rfl rfl rfl
   rcases hQ28 with hQ28 | hQ28
   ·obtain ⟨i29, rfl, N30q, K31, p32, p33⟩ := hQ28
    have N30 := Fr.app N23 N30q
    obtain ⟨fs, hr, hrun, hended, hW, hsame⟩ := X28.leave (v := some (ii 1)) (fun h => by rw [Bd.returns] at h; cases h)
    refine ⟨_, _, c28 _ ?_, hrun, hended, _, _, rfl, ?_, ⟨_, rfl⟩, hW, hsame.mono (by decide) (by decide)⟩
    ·show S_ p e below T28 m 36 #[vr x_, vr x_] [(.int i29)] _
     refine XS.ifNo X28.here hx rfl (hb hby d32_36) rfl ((if0 _ _).trans (flt p32).1) ?_
     refine XS.iconst X28.here hx rfl (hb hby d32_39) ?_
     refine yG X28.here hx rfl 40 44 rfl (hb hby d32_40) ?_
     show S_ p e below T28 m 44 #[vr x_, vr x_] [(ii 1)] _
     exact retN X28 hx (t := .boolean) Bd.returns (by simp) (hb hby d32_44) hr
    ·show Q_isdU_2 Z x_ s_ ks_ z_ c0_ c1_ fm_ h0 n0 _ T28.heap _
     rw [K31]
     exact (Or.inl ⟨rfl, N30, rfl, ((fun q => Or.elim q (fun q => (Or.inl (Or.inr (Or.inr (q))))) (fun q => (Or.inr ((Or.inr (Or.inr (q))))))) p33)⟩)
   ·obtain ⟨rfl, N34q, K35, p36, p37⟩ := hQ28
    have N34 := Fr.app N23 N34q
    obtain ⟨fs, hr, hrun, hended, hW, hsame⟩ := X28.leave (v := some (ii 0)) (fun h => by rw [Bd.returns] at h; cases h)
    refine ⟨_, _, c28 _ ?_, hrun, hended, _, _, rfl, ?_, ⟨_, rfl⟩, hW, hsame.mono (by decide) (by decide)⟩
    ·show S_ p e below T28 m 36 #[vr x_, vr x_] [(ii (-1))] _
     refine yI X28.here hx rfl 36 43 rfl (hb hby d32_36) rfl rfl ?_
     refine XS.iconst X28.here hx rfl (hb hby d32_43) ?_
     show S_ p e below T28 m 44 #[vr x_, vr x_] [(ii 0)] _
     exact retN X28 hx (t := .boolean) Bd.returns (by simp) (hb hby d32_44) hr
    ·show Q_isdU_2 Z x_ s_ ks_ z_ c0_ c1_ fm_ h0 n0 _ T28.heap _
     rw [K35]
     exact (Or.inr (⟨rfl, N34, rfl, (fun q => Or.elim q p14 (fun q => Or.elim q p25 p36)), (fun q => Or.elim q p15 (fun q => Or.elim q p26 p37))⟩))
theorem ef_isdL_3 (m : MethodId) (x_ : Addr) : entryFrame m #[(rr x_)] 2 = mkF m 0 #[vr x_, u_] [] := by first | (simp [entryFrame, mkF, argsToLocals, Value.category]; done) | rfl
def Q_isdL_3 (Z : State) (x_ : Addr) (s_ : Addr) (ks_ : ClassId) (z_ : Int32) (c0_ : Int32) (c1_ : Int32) (c2_ : Int32) (h0 : Heap) (n0 : Nat) (v : Option Value) (h : Heap) (L : List Loc) : Prop := (v = some (ii 1) ∧ Fr n0 L ∧ h = h0 ∧ ((own_mk c0_ ∨ own_mk c1_ ∨ own_mk c2_))) ∨ (v = some (ii 0) ∧ Fr n0 L ∧ h = h0 ∧ ¬ (own_mk c0_) ∧ ¬ (own_mk c1_) ∧ ¬ (own_mk c2_))
set_option maxRecDepth 65536 in
set_option maxHeartbeats 40000000 in
theorem rm_isdL_3 (l : Launch) (Z : State) (a0 : Array Value) (hw : HW Z a0) (ws : List Jvm.Cond) (x_ : Addr) (s_ : Addr) (ks_ : ClassId) (z_ : Int32) (c0_ : Int32) (c1_ : Int32) (c2_ : Int32) (h0 : Heap) (n0 : Nat) (O0 : Old Z n0 h0) (E0_ : Exa Z h0 x_ nm0) (F1_ : Fld Z h0 x_ nm0 "coder" "B" (ii 0)) (F2_ : Fld Z h0 x_ nm0 "value" "[B" (rr s_)) (A3_ : Arv Z h0 s_ ks_ .byte (3 : Int32) [(.int (nar .byte (c0_.toInt8.toInt32))), (.int (nar .byte (c1_.toInt8.toInt32))), (.int (nar .byte (c2_.toInt8.toInt32)))] (ii 0)) (ZS4_ : Sta Z Z.heap nm0 "COMPACT_STRINGS" "Z" (.int z_)) (hz_ : ¬ (z_ = (0 : Int32))) (hc0_ : nar .char c0_ = c0_) (hc1_ : nar .char c1_ = c1_) (hc2_ : nar .char c2_ = c2_) (hs0_ : ¬ ((255 : Int32) < c0_)) (hs1_ : ¬ ((255 : Int32) < c1_)) (hs2_ : ¬ ((255 : Int32) < c2_)) :
  MFP l Z (⟨nm3, "isDecimalText", "(Ljava/lang/Object;)Z"⟩ : MethodName) prog_11_method_22_code 2 (some .boolean) ({ frames := 4, cells := 0, slots := 0, locals := 59 } : Room) ws #[(rr x_)] h0 (Q_isdL_3 Z x_ s_ ks_ z_ c0_ c1_ c2_ h0 n0) := by
 refine MetFree.of_bodySF (plainFor_of_name pn_com_example_gjallar_gjallar_messages_Coercions) hisR ?_
 intro p e s m args below meth c s₁ Bd hml0 hP hK
 obtain ⟨rfl, hZ, hh⟩ := hP
 have hx := Bd.exec
 have hby := Bd.bytes
 have hml : c.maxLocals = 2 := hml0
 have hown : s.vm.findClass nm3 = some m.cls := findClass_of_methodNamed Bd.named
 have hnm := (name_of_methodNamed Bd.named Bd.method).1
 have X0 : Stand p l e ({ frames := 4, cells := 0, slots := 0, locals := 59 } : Room) s m #[(rr x_)] below meth c s₁ [] 0 0 := Stand.of_body Bd
 have e0 : s₁.heap = h0 := by rw [← hh, Bd.state]; rfl
 have N0 := Fr.nil n0
 have kp0 : Keep h0 h0 [] := Keep.refl _ _
 have c0 : ∀ t, S_ p e below s₁ m 0 #[vr x_, u_] [] t → Steps p.tables e below (s₁.setTop (entryFrame m #[(rr x_)] 2)) t := fun t k => castTop (ef_isdL_3 m x_) k
 generalize s₁.setTop (entryFrame m #[(rr x_)] 2) = st0 at c0 ⊢
 replace c0 : Kt p e below s₁ st0 (mkF m 0 #[vr x_, u_] []) := c0
 have c1 : Kt p e below s₁ st0 (mkF m 1 #[vr x_, u_] [(rr x_)]) := fun t k => by
  refine c0 t ?_
  show S_ p e below s₁ m 0 #[vr x_, u_] [] t
  refine XS.aloadN X0.here hx rfl (hb hby d32_0) rfl rfl ?_
  exact k
 obtain ⟨T2, X2, e2, c2⟩ := kinst X0 hx hZ hown (w30 hw) e0 (Ins.self E0_) c1 rfl rfl (hb hby d32_1)
 have c3 : Kt p e below T2 st0 (mkF m 8 #[vr x_, u_] [(rr x_)]) := fun t k => by
  refine c2 t ?_
  show S_ p e below T2 m 4 #[vr x_, u_] [(ii 1)] t
  refine XS.ifNo X2.here hx rfl (hb hby d32_4) rfl rfl ?_
  refine XS.aloadN X2.here hx rfl (hb hby d32_7) rfl rfl ?_
  exact k
 obtain ⟨T4, X4, e4, c4⟩ := kcast X2 hx hZ hown (w30 hw) e2 (Ins.self E0_) c3 rfl rfl (hb hby d32_8)
 have c5 : Kt p e below T4 st0 (mkF m 15 #[vr x_, vr x_] [(ii 46), (rr x_)]) := fun t k => by
  refine c4 t ?_
  show S_ p e below T4 m 11 #[vr x_, u_] [(rr x_)] t
  refine XS.astoreN X4.here hx rfl (hb hby d32_11) rfl rfl (l' := #[vr x_, vr x_]) rfl ?_
  refine XS.aloadN X4.here hx rfl (hb hby d32_12) rfl rfl ?_
  refine XS.bipush X4.here hx rfl (hb hby d32_13) ?_
  exact k
 obtain ⟨_, T6, L6, X6, hQ6, c6⟩ := kvirt X4 hx hZ hown (w31 hw) (w32 hw) (w34 hw) (w33 hw) (w35 hw) (w6 hw) (rm_six1L_3 l Z a0 hw [] x_ z_ s_ ks_ (46 : Int32) ((nar .byte (c0_.toInt8.toInt32))) ((nar .byte (c1_.toInt8.toInt32))) ((nar .byte (c2_.toInt8.toInt32))) h0 n0 O0 E0_ F1_ F2_ A3_ ZS4_ hz_ (by decide) (by decide)) e4 E0_ c5 hml pd_pIrI [(ii 46)] [] 0 (hb hby d32_15) rfl rfl rfl rfl rfl rfl
 rcases hQ6 with hQ6 | hQ6
 ·obtain ⟨i7, rfl, N8q, K9, p10, p11⟩ := hQ6
  have N8 := Fr.app N0 N8q
  obtain ⟨fs, hr, hrun, hended, hW, hsame⟩ := X6.leave (v := some (ii 1)) (fun h => by rw [Bd.returns] at h; cases h)
  refine ⟨_, _, c6 _ ?_, hrun, hended, _, _, rfl, ?_, ⟨_, rfl⟩, hW, hsame.mono (by decide) (by decide)⟩
  ·show S_ p e below T6 m 18 #[vr x_, vr x_] [(.int i7)] _
   refine yI X6.here hx rfl 18 39 rfl (hb hby d32_18) rfl ((if0 _ _).trans (flt p10).2.1) ?_
   refine XS.iconst X6.here hx rfl (hb hby d32_39) ?_
   refine yG X6.here hx rfl 40 44 rfl (hb hby d32_40) ?_
   show S_ p e below T6 m 44 #[vr x_, vr x_] [(ii 1)] _
   exact retN X6 hx (t := .boolean) Bd.returns (by simp) (hb hby d32_44) hr
  ·show Q_isdL_3 Z x_ s_ ks_ z_ c0_ c1_ c2_ h0 n0 _ T6.heap _
   rw [K9]
   exact (Or.inl ⟨rfl, N8, rfl, ((fun q => Or.elim q (fun q => (Or.inl (Or.inl ((own_lbT hc0_ hs0_).1 q)))) (fun q => Or.elim q (fun q => (Or.inr (Or.inl (Or.inl ((own_lbT hc1_ hs1_).1 q))))) (fun q => (Or.inr (Or.inr ((Or.inl ((own_lbT hc2_ hs2_).1 q)))))))) p11)⟩)
 ·obtain ⟨rfl, N12q, K13, p14, p15, p16⟩ := hQ6
  have N12 := Fr.app N0 N12q
  have c17 : Kt p e below T6 st0 (mkF m 24 #[vr x_, vr x_] [(ii 101), (rr x_)]) := fun t k => by
   refine c6 t ?_
   show S_ p e below T6 m 18 #[vr x_, vr x_] [(ii (-1))] t
   refine XS.ifNo X6.here hx rfl (hb hby d32_18) rfl rfl ?_
   refine XS.aloadN X6.here hx rfl (hb hby d32_21) rfl rfl ?_
   refine XS.bipush X6.here hx rfl (hb hby d32_22) ?_
   exact k
  obtain ⟨_, T18, L18, X18, hQ18, c18⟩ := kvirt X6 hx hZ hown (w31 hw) (w32 hw) (w34 hw) (w33 hw) (w35 hw) (w6 hw) (rm_six1L_3 l Z a0 hw [] x_ z_ s_ ks_ (101 : Int32) ((nar .byte (c0_.toInt8.toInt32))) ((nar .byte (c1_.toInt8.toInt32))) ((nar .byte (c2_.toInt8.toInt32))) h0 n0 O0 E0_ F1_ F2_ A3_ ZS4_ hz_ (by decide) (by decide)) K13 E0_ c17 hml pd_pIrI [(ii 101)] [] 0 (hb hby d32_24) rfl rfl rfl rfl rfl rfl
  rcases hQ18 with hQ18 | hQ18
  ·obtain ⟨i19, rfl, N20q, K21, p22, p23⟩ := hQ18
   have N20 := Fr.app N12 N20q
   obtain ⟨fs, hr, hrun, hended, hW, hsame⟩ := X18.leave (v := some (ii 1)) (fun h => by rw [Bd.returns] at h; cases h)
   refine ⟨_, _, c18 _ ?_, hrun, hended, _, _, rfl, ?_, ⟨_, rfl⟩, hW, hsame.mono (by decide) (by decide)⟩
   ·show S_ p e below T18 m 27 #[vr x_, vr x_] [(.int i19)] _
    refine yI X18.here hx rfl 27 39 rfl (hb hby d32_27) rfl ((if0 _ _).trans (flt p22).2.1) ?_
    refine XS.iconst X18.here hx rfl (hb hby d32_39) ?_
    refine yG X18.here hx rfl 40 44 rfl (hb hby d32_40) ?_
    show S_ p e below T18 m 44 #[vr x_, vr x_] [(ii 1)] _
    exact retN X18 hx (t := .boolean) Bd.returns (by simp) (hb hby d32_44) hr
   ·show Q_isdL_3 Z x_ s_ ks_ z_ c0_ c1_ c2_ h0 n0 _ T18.heap _
    rw [K21]
    exact (Or.inl ⟨rfl, N20, rfl, ((fun q => Or.elim q (fun q => (Or.inl (Or.inr (Or.inl ((own_lbT hc0_ hs0_).2.1 q))))) (fun q => Or.elim q (fun q => (Or.inr (Or.inl (Or.inr (Or.inl ((own_lbT hc1_ hs1_).2.1 q)))))) (fun q => (Or.inr (Or.inr ((Or.inr (Or.inl ((own_lbT hc2_ hs2_).2.1 q))))))))) p23)⟩)
  ·obtain ⟨rfl, N24q, K25, p26, p27, p28⟩ := hQ18
   have N24 := Fr.app N12 N24q
   have c29 : Kt p e below T18 st0 (mkF m 33 #[vr x_, vr x_] [(ii 69), (rr x_)]) := fun t k => by
    refine c18 t ?_
    show S_ p e below T18 m 27 #[vr x_, vr x_] [(ii (-1))] t
    refine XS.ifNo X18.here hx rfl (hb hby d32_27) rfl rfl ?_
    refine XS.aloadN X18.here hx rfl (hb hby d32_30) rfl rfl ?_
    refine XS.bipush X18.here hx rfl (hb hby d32_31) ?_
    exact k
   obtain ⟨_, T30, L30, X30, hQ30, c30⟩ := kvirt X18 hx hZ hown (w31 hw) (w32 hw) (w34 hw) (w33 hw) (w35 hw) (w6 hw) (rm_six1L_3 l Z a0 hw [] x_ z_ s_ ks_ (69 : Int32) ((nar .byte (c0_.toInt8.toInt32))) ((nar .byte (c1_.toInt8.toInt32))) ((nar .byte (c2_.toInt8.toInt32))) h0 n0 O0 E0_ F1_ F2_ A3_ ZS4_ hz_ (by decide) (by decide)) K25 E0_ c29 hml pd_pIrI [(ii 69)] [] 0 (hb hby d32_33) rfl rfl rfl rfl rfl rfl
   rcases hQ30 with hQ30 | hQ30
   ·obtain ⟨i31, rfl, N32q, K33, p34, p35⟩ := hQ30
    have N32 := Fr.app N24 N32q
    obtain ⟨fs, hr, hrun, hended, hW, hsame⟩ := X30.leave (v := some (ii 1)) (fun h => by rw [Bd.returns] at h; cases h)
    refine ⟨_, _, c30 _ ?_, hrun, hended, _, _, rfl, ?_, ⟨_, rfl⟩, hW, hsame.mono (by decide) (by decide)⟩
    ·show S_ p e below T30 m 36 #[vr x_, vr x_] [(.int i31)] _
     refine XS.ifNo X30.here hx rfl (hb hby d32_36) rfl ((if0 _ _).trans (flt p34).1) ?_
     refine XS.iconst X30.here hx rfl (hb hby d32_39) ?_
     refine yG X30.here hx rfl 40 44 rfl (hb hby d32_40) ?_
     show S_ p e below T30 m 44 #[vr x_, vr x_] [(ii 1)] _
     exact retN X30 hx (t := .boolean) Bd.returns (by simp) (hb hby d32_44) hr
    ·show Q_isdL_3 Z x_ s_ ks_ z_ c0_ c1_ c2_ h0 n0 _ T30.heap _
     rw [K33]
     exact (Or.inl ⟨rfl, N32, rfl, ((fun q => Or.elim q (fun q => (Or.inl (Or.inr (Or.inr (((own_lbT hc0_ hs0_).2.2 q)))))) (fun q => Or.elim q (fun q => (Or.inr (Or.inl (Or.inr (Or.inr (((own_lbT hc1_ hs1_).2.2 q))))))) (fun q => (Or.inr (Or.inr ((Or.inr (Or.inr (((own_lbT hc2_ hs2_).2.2 q)))))))))) p35)⟩)
   ·obtain ⟨rfl, N36q, K37, p38, p39, p40⟩ := hQ30
    have N36 := Fr.app N24 N36q
    obtain ⟨fs, hr, hrun, hended, hW, hsame⟩ := X30.leave (v := some (ii 0)) (fun h => by rw [Bd.returns] at h; cases h)
    refine ⟨_, _, c30 _ ?_, hrun, hended, _, _, rfl, ?_, ⟨_, rfl⟩, hW, hsame.mono (by decide) (by decide)⟩
    ·show S_ p e below T30 m 36 #[vr x_, vr x_] [(ii (-1))] _
     refine yI X30.here hx rfl 36 43 rfl (hb hby d32_36) rfl rfl ?_
     refine XS.iconst X30.here hx rfl (hb hby d32_43) ?_
     show S_ p e below T30 m 44 #[vr x_, vr x_] [(ii 0)] _
     exact retN X30 hx (t := .boolean) Bd.returns (by simp) (hb hby d32_44) hr
    ·show Q_isdL_3 Z x_ s_ ks_ z_ c0_ c1_ c2_ h0 n0 _ T30.heap _
     rw [K37]
     exact (Or.inr (⟨rfl, N36, rfl, (own_lbN p14 p26 p38), (own_lbN p15 p27 p39), (own_lbN p16 p28 p40)⟩))
theorem ef_isdU_3 (m : MethodId) (x_ : Addr) : entryFrame m #[(rr x_)] 2 = mkF m 0 #[vr x_, u_] [] := by first | (simp [entryFrame, mkF, argsToLocals, Value.category]; done) | rfl
def Q_isdU_3 (Z : State) (x_ : Addr) (s_ : Addr) (ks_ : ClassId) (z_ : Int32) (c0_ : Int32) (c1_ : Int32) (c2_ : Int32) (fm_ : Value) (h0 : Heap) (n0 : Nat) (v : Option Value) (h : Heap) (L : List Loc) : Prop := (v = some (ii 1) ∧ Fr n0 L ∧ h = h0 ∧ ((own_mk c0_ ∨ own_mk c1_ ∨ own_mk c2_))) ∨ (v = some (ii 0) ∧ Fr n0 L ∧ h = h0 ∧ ¬ (own_mk c0_) ∧ ¬ (own_mk c1_) ∧ ¬ (own_mk c2_))
set_option maxRecDepth 65536 in
set_option maxHeartbeats 40000000 in
theorem rm_isdU_3 (l : Launch) (Z : State) (a0 : Array Value) (hw : HW Z a0) (ws : List Jvm.Cond) (x_ : Addr) (s_ : Addr) (ks_ : ClassId) (z_ : Int32) (c0_ : Int32) (c1_ : Int32) (c2_ : Int32) (fm_ : Value) (h0 : Heap) (n0 : Nat) (O0 : Old Z n0 h0) (E0_ : Exa Z h0 x_ nm0) (F1_ : Fld Z h0 x_ nm0 "coder" "B" (ii 1)) (F2_ : Fld Z h0 x_ nm0 "value" "[B" (rr s_)) (A3_ : Arv Z h0 s_ ks_ .byte (6 : Int32) [(.int (nar .byte ((c0_ >>> ((0 : Int32) &&& 31)).toInt8.toInt32))), (.int (nar .byte ((c0_ >>> ((8 : Int32) &&& 31)).toInt8.toInt32))), (.int (nar .byte ((c1_ >>> ((0 : Int32) &&& 31)).toInt8.toInt32))), (.int (nar .byte ((c1_ >>> ((8 : Int32) &&& 31)).toInt8.toInt32))), (.int (nar .byte ((c2_ >>> ((0 : Int32) &&& 31)).toInt8.toInt32))), (.int (nar .byte ((c2_ >>> ((8 : Int32) &&& 31)).toInt8.toInt32)))] (ii 0)) (ZS4_ : Sta Z Z.heap nm0 "COMPACT_STRINGS" "Z" (.int z_)) (hz_ : ¬ (z_ = (0 : Int32))) (hc0_ : nar .char c0_ = c0_) (hc1_ : nar .char c1_ = c1_) (hc2_ : nar .char c2_ = c2_) (ZS9_ : Sta Z Z.heap nm1 "$assertionsDisabled" "Z" (ii 1)) (ZS10_ : Sta Z Z.heap nm1 "HI_BYTE_SHIFT" "I" (ii 0)) (ZS11_ : Sta Z Z.heap nm1 "LO_BYTE_SHIFT" "I" (ii 8)) (ZS12_ : Sta Z Z.heap nm4 "SIOOBE_FORMATTER" nm6 fm_) (hfm_ : fm_.isRef = true) :
  MFP l Z (⟨nm3, "isDecimalText", "(Ljava/lang/Object;)Z"⟩ : MethodName) prog_11_method_22_code 2 (some .boolean) ({ frames := 7, cells := 0, slots := 0, locals := 100 } : Room) ws #[(rr x_)] h0 (Q_isdU_3 Z x_ s_ ks_ z_ c0_ c1_ c2_ fm_ h0 n0) := by
 refine MetFree.of_bodySF (plainFor_of_name pn_com_example_gjallar_gjallar_messages_Coercions) hisR ?_
 intro p e s m args below meth c s₁ Bd hml0 hP hK
 obtain ⟨rfl, hZ, hh⟩ := hP
 have hx := Bd.exec
 have hby := Bd.bytes
 have hml : c.maxLocals = 2 := hml0
 have hown : s.vm.findClass nm3 = some m.cls := findClass_of_methodNamed Bd.named
 have hnm := (name_of_methodNamed Bd.named Bd.method).1
 have X0 : Stand p l e ({ frames := 7, cells := 0, slots := 0, locals := 100 } : Room) s m #[(rr x_)] below meth c s₁ [] 0 0 := Stand.of_body Bd
 have e0 : s₁.heap = h0 := by rw [← hh, Bd.state]; rfl
 have N0 := Fr.nil n0
 have kp0 : Keep h0 h0 [] := Keep.refl _ _
 have c0 : ∀ t, S_ p e below s₁ m 0 #[vr x_, u_] [] t → Steps p.tables e below (s₁.setTop (entryFrame m #[(rr x_)] 2)) t := fun t k => castTop (ef_isdU_3 m x_) k
 generalize s₁.setTop (entryFrame m #[(rr x_)] 2) = st0 at c0 ⊢
 replace c0 : Kt p e below s₁ st0 (mkF m 0 #[vr x_, u_] []) := c0
 have c1 : Kt p e below s₁ st0 (mkF m 1 #[vr x_, u_] [(rr x_)]) := fun t k => by
  refine c0 t ?_
  show S_ p e below s₁ m 0 #[vr x_, u_] [] t
  refine XS.aloadN X0.here hx rfl (hb hby d32_0) rfl rfl ?_
  exact k
 obtain ⟨T2, X2, e2, c2⟩ := kinst X0 hx hZ hown (w30 hw) e0 (Ins.self E0_) c1 rfl rfl (hb hby d32_1)
 have c3 : Kt p e below T2 st0 (mkF m 8 #[vr x_, u_] [(rr x_)]) := fun t k => by
  refine c2 t ?_
  show S_ p e below T2 m 4 #[vr x_, u_] [(ii 1)] t
  refine XS.ifNo X2.here hx rfl (hb hby d32_4) rfl rfl ?_
  refine XS.aloadN X2.here hx rfl (hb hby d32_7) rfl rfl ?_
  exact k
 obtain ⟨T4, X4, e4, c4⟩ := kcast X2 hx hZ hown (w30 hw) e2 (Ins.self E0_) c3 rfl rfl (hb hby d32_8)
 have c5 : Kt p e below T4 st0 (mkF m 15 #[vr x_, vr x_] [(ii 46), (rr x_)]) := fun t k => by
  refine c4 t ?_
  show S_ p e below T4 m 11 #[vr x_, u_] [(rr x_)] t
  refine XS.astoreN X4.here hx rfl (hb hby d32_11) rfl rfl (l' := #[vr x_, vr x_]) rfl ?_
  refine XS.aloadN X4.here hx rfl (hb hby d32_12) rfl rfl ?_
  refine XS.bipush X4.here hx rfl (hb hby d32_13) ?_
  exact k
 obtain ⟨_, T6, L6, X6, hQ6, c6⟩ := kvirt X4 hx hZ hown (w31 hw) (w32 hw) (w34 hw) (w33 hw) (w35 hw) (w6 hw) (rm_six1U_3 l Z a0 hw [] x_ z_ s_ ks_ (46 : Int32) c0_ c1_ c2_ fm_ h0 n0 O0 E0_ F1_ F2_ A3_ ZS4_ hz_ ZS9_ ZS10_ ZS11_ hc0_ hc1_ hc2_ ZS12_ hfm_ (by decide)) e4 E0_ c5 hml pd_pIrI [(ii 46)] [] 0 (hb hby d32_15) rfl rfl rfl rfl rfl rfl
 rcases hQ6 with hQ6 | hQ6
 ·obtain ⟨i7, rfl, N8q, K9, p10, p11⟩ := hQ6
  have N8 := Fr.app N0 N8q
  obtain ⟨fs, hr, hrun, hended, hW, hsame⟩ := X6.leave (v := some (ii 1)) (fun h => by rw [Bd.returns] at h; cases h)
  refine ⟨_, _, c6 _ ?_, hrun, hended, _, _, rfl, ?_, ⟨_, rfl⟩, hW, hsame.mono (by decide) (by decide)⟩
  ·show S_ p e below T6 m 18 #[vr x_, vr x_] [(.int i7)] _
   refine yI X6.here hx rfl 18 39 rfl (hb hby d32_18) rfl ((if0 _ _).trans (flt p10).2.1) ?_
   refine XS.iconst X6.here hx rfl (hb hby d32_39) ?_
   refine yG X6.here hx rfl 40 44 rfl (hb hby d32_40) ?_
   show S_ p e below T6 m 44 #[vr x_, vr x_] [(ii 1)] _
   exact retN X6 hx (t := .boolean) Bd.returns (by simp) (hb hby d32_44) hr
  ·show Q_isdU_3 Z x_ s_ ks_ z_ c0_ c1_ c2_ fm_ h0 n0 _ T6.heap _
   rw [K9]
   exact (Or.inl ⟨rfl, N8, rfl, ((fun q => Or.elim q (fun q => (Or.inl (Or.inl q))) (fun q => Or.elim q (fun q => (Or.inr (Or.inl (Or.inl q)))) (fun q => (Or.inr (Or.inr ((Or.inl q))))))) p11)⟩)
 ·obtain ⟨rfl, N12q, K13, p14, p15, p16⟩ := hQ6
  have N12 := Fr.app N0 N12q
  have c17 : Kt p e below T6 st0 (mkF m 24 #[vr x_, vr x_] [(ii 101), (rr x_)]) := fun t k => by
   refine c6 t ?_
   show S_ p e below T6 m 18 #[vr x_, vr x_] [(ii (-1))] t
   refine XS.ifNo X6.here hx rfl (hb hby d32_18) rfl rfl ?_
   refine XS.aloadN X6.here hx rfl (hb hby d32_21) rfl rfl ?_
   refine XS.bipush X6.here hx rfl (hb hby d32_22) ?_
   exact k
  obtain ⟨_, T18, L18, X18, hQ18, c18⟩ := kvirt X6 hx hZ hown (w31 hw) (w32 hw) (w34 hw) (w33 hw) (w35 hw) (w6 hw) (rm_six1U_3 l Z a0 hw [] x_ z_ s_ ks_ (101 : Int32) c0_ c1_ c2_ fm_ h0 n0 O0 E0_ F1_ F2_ A3_ ZS4_ hz_ ZS9_ ZS10_ ZS11_ hc0_ hc1_ hc2_ ZS12_ hfm_ (by decide)) K13 E0_ c17 hml pd_pIrI [(ii 101)] [] 0 (hb hby d32_24) rfl rfl rfl rfl rfl rfl
  rcases hQ18 with hQ18 | hQ18
  ·obtain ⟨i19, rfl, N20q, K21, p22, p23⟩ := hQ18
   have N20 := Fr.app N12 N20q
   obtain ⟨fs, hr, hrun, hended, hW, hsame⟩ := X18.leave (v := some (ii 1)) (fun h => by rw [Bd.returns] at h; cases h)
   refine ⟨_, _, c18 _ ?_, hrun, hended, _, _, rfl, ?_, ⟨_, rfl⟩, hW, hsame.mono (by decide) (by decide)⟩
   ·show S_ p e below T18 m 27 #[vr x_, vr x_] [(.int i19)] _
    refine yI X18.here hx rfl 27 39 rfl (hb hby d32_27) rfl ((if0 _ _).trans (flt p22).2.1) ?_
    refine XS.iconst X18.here hx rfl (hb hby d32_39) ?_
    refine yG X18.here hx rfl 40 44 rfl (hb hby d32_40) ?_
    show S_ p e below T18 m 44 #[vr x_, vr x_] [(ii 1)] _
    exact retN X18 hx (t := .boolean) Bd.returns (by simp) (hb hby d32_44) hr
   ·show Q_isdU_3 Z x_ s_ ks_ z_ c0_ c1_ c2_ fm_ h0 n0 _ T18.heap _
    rw [K21]
    exact (Or.inl ⟨rfl, N20, rfl, ((fun q => Or.elim q (fun q => (Or.inl (Or.inr (Or.inl q)))) (fun q => Or.elim q (fun q => (Or.inr (Or.inl (Or.inr (Or.inl q))))) (fun q => (Or.inr (Or.inr ((Or.inr (Or.inl q)))))))) p23)⟩)
  ·obtain ⟨rfl, N24q, K25, p26, p27, p28⟩ := hQ18
   have N24 := Fr.app N12 N24q
   have c29 : Kt p e below T18 st0 (mkF m 33 #[vr x_, vr x_] [(ii 69), (rr x_)]) := fun t k => by
    refine c18 t ?_
    show S_ p e below T18 m 27 #[vr x_, vr x_] [(ii (-1))] t
    refine XS.ifNo X18.here hx rfl (hb hby d32_27) rfl rfl ?_
    refine XS.aloadN X18.here hx rfl (hb hby d32_30) rfl rfl ?_
    refine XS.bipush X18.here hx rfl (hb hby d32_31) ?_
    exact k
   obtain ⟨_, T30, L30, X30, hQ30, c30⟩ := kvirt X18 hx hZ hown (w31 hw) (w32 hw) (w34 hw) (w33 hw) (w35 hw) (w6 hw) (rm_six1U_3 l Z a0 hw [] x_ z_ s_ ks_ (69 : Int32) c0_ c1_ c2_ fm_ h0 n0 O0 E0_ F1_ F2_ A3_ ZS4_ hz_ ZS9_ ZS10_ ZS11_ hc0_ hc1_ hc2_ ZS12_ hfm_ (by decide)) K25 E0_ c29 hml pd_pIrI [(ii 69)] [] 0 (hb hby d32_33) rfl rfl rfl rfl rfl rfl
   rcases hQ30 with hQ30 | hQ30
   ·obtain ⟨i31, rfl, N32q, K33, p34, p35⟩ := hQ30
    have N32 := Fr.app N24 N32q
    obtain ⟨fs, hr, hrun, hended, hW, hsame⟩ := X30.leave (v := some (ii 1)) (fun h => by rw [Bd.returns] at h; cases h)
    refine ⟨_, _, c30 _ ?_, hrun, hended, _, _, rfl, ?_, ⟨_, rfl⟩, hW, hsame.mono (by decide) (by decide)⟩
    ·show S_ p e below T30 m 36 #[vr x_, vr x_] [(.int i31)] _
     refine XS.ifNo X30.here hx rfl (hb hby d32_36) rfl ((if0 _ _).trans (flt p34).1) ?_
     refine XS.iconst X30.here hx rfl (hb hby d32_39) ?_
     refine yG X30.here hx rfl 40 44 rfl (hb hby d32_40) ?_
     show S_ p e below T30 m 44 #[vr x_, vr x_] [(ii 1)] _
     exact retN X30 hx (t := .boolean) Bd.returns (by simp) (hb hby d32_44) hr
    ·show Q_isdU_3 Z x_ s_ ks_ z_ c0_ c1_ c2_ fm_ h0 n0 _ T30.heap _
     rw [K33]
     exact (Or.inl ⟨rfl, N32, rfl, ((fun q => Or.elim q (fun q => (Or.inl (Or.inr (Or.inr (q))))) (fun q => Or.elim q (fun q => (Or.inr (Or.inl (Or.inr (Or.inr (q)))))) (fun q => (Or.inr (Or.inr ((Or.inr (Or.inr (q))))))))) p35)⟩)
   ·obtain ⟨rfl, N36q, K37, p38, p39, p40⟩ := hQ30
    have N36 := Fr.app N24 N36q
    obtain ⟨fs, hr, hrun, hended, hW, hsame⟩ := X30.leave (v := some (ii 0)) (fun h => by rw [Bd.returns] at h; cases h)
    refine ⟨_, _, c30 _ ?_, hrun, hended, _, _, rfl, ?_, ⟨_, rfl⟩, hW, hsame.mono (by decide) (by decide)⟩
    ·show S_ p e below T30 m 36 #[vr x_, vr x_] [(ii (-1))] _
     refine yI X30.here hx rfl 36 43 rfl (hb hby d32_36) rfl rfl ?_
     refine XS.iconst X30.here hx rfl (hb hby d32_43) ?_
     show S_ p e below T30 m 44 #[vr x_, vr x_] [(ii 0)] _
     exact retN X30 hx (t := .boolean) Bd.returns (by simp) (hb hby d32_44) hr
    ·show Q_isdU_3 Z x_ s_ ks_ z_ c0_ c1_ c2_ fm_ h0 n0 _ T30.heap _
     rw [K37]
     exact (Or.inr (⟨rfl, N36, rfl, (fun q => Or.elim q p14 (fun q => Or.elim q p26 p38)), (fun q => Or.elim q p15 (fun q => Or.elim q p27 p39)), (fun q => Or.elim q p16 (fun q => Or.elim q p28 p40))⟩))
theorem ef_isdN (m : MethodId) : entryFrame m #[.null] 2 = mkF m 0 #[.val .null, u_] [] := by first | (simp [entryFrame, mkF, argsToLocals, Value.category]; done) | rfl
def Q_isdN (Z : State) (h0 : Heap) (n0 : Nat) (v : Option Value) (h : Heap) (L : List Loc) : Prop := v = some (ii 0) ∧ Fr n0 L ∧ h = h0
set_option maxRecDepth 65536 in
set_option maxHeartbeats 40000000 in
theorem rm_isdN (l : Launch) (Z : State) (a0 : Array Value) (hw : HW Z a0) (ws : List Jvm.Cond) (h0 : Heap) (n0 : Nat) (O0 : Old Z n0 h0) :
  MFP l Z (⟨nm3, "isDecimalText", "(Ljava/lang/Object;)Z"⟩ : MethodName) prog_11_method_22_code 2 (some .boolean) ({ frames := 0, cells := 0, slots := 0, locals := 0 } : Room) ws #[.null] h0 (Q_isdN Z h0 n0) := by
 refine MetFree.of_bodySF (plainFor_of_name pn_com_example_gjallar_gjallar_messages_Coercions) hisR ?_
 intro p e s m args below meth c s₁ Bd hml0 hP hK
 obtain ⟨rfl, hZ, hh⟩ := hP
 have hx := Bd.exec
 have hby := Bd.bytes
 have hml : c.maxLocals = 2 := hml0
 have hown : s.vm.findClass nm3 = some m.cls := findClass_of_methodNamed Bd.named
 have hnm := (name_of_methodNamed Bd.named Bd.method).1
 have X0 : Stand p l e ({ frames := 0, cells := 0, slots := 0, locals := 0 } : Room) s m #[.null] below meth c s₁ [] 0 0 := Stand.of_body Bd
 have e0 : s₁.heap = h0 := by rw [← hh, Bd.state]; rfl
 have N0 := Fr.nil n0
 have kp0 : Keep h0 h0 [] := Keep.refl _ _
 have c0 : ∀ t, S_ p e below s₁ m 0 #[.val .null, u_] [] t → Steps p.tables e below (s₁.setTop (entryFrame m #[.null] 2)) t := fun t k => castTop (ef_isdN m) k
 generalize s₁.setTop (entryFrame m #[.null] 2) = st0 at c0 ⊢
 replace c0 : Kt p e below s₁ st0 (mkF m 0 #[.val .null, u_] []) := c0
 obtain ⟨fs, hr, hrun, hended, hW, hsame⟩ := X0.leave (v := some (ii 0)) (fun h => by rw [Bd.returns] at h; cases h)
 refine ⟨_, _, c0 _ ?_, hrun, hended, _, _, rfl, ?_, ⟨_, rfl⟩, hW, hsame.mono (by decide) (by decide)⟩
 ·show S_ p e below s₁ m 0 #[.val .null, u_] [] _
  refine XS.aloadN X0.here hx rfl (hb hby d32_0) rfl rfl ?_
  show S_ p e below s₁ m 1 #[.val .null, u_] [.null] _
  refine X0.instanceofNull hx (g := (mkF m 1 #[.val .null, u_] [.null])) rfl rfl (hb hby d32_1) _ ?_
  refine yI X0.here hx rfl 4 43 rfl (hb hby d32_4) rfl rfl ?_
  refine XS.iconst X0.here hx rfl (hb hby d32_43) ?_
  show S_ p e below s₁ m 44 #[.val .null, u_] [(ii 0)] _
  exact retN X0 hx (t := .boolean) Bd.returns (by simp) (hb hby d32_44) hr
 ·show Q_isdN Z h0 n0 _ s₁.heap _
  rw [e0]
  exact ⟨rfl, N0, rfl⟩
theorem ef_isdI (m : MethodId) (x_ : Addr) : entryFrame m #[(rr x_)] 2 = mkF m 0 #[vr x_, u_] [] := by first | (simp [entryFrame, mkF, argsToLocals, Value.category]; done) | rfl
def Q_isdI (Z : State) (x_ : Addr) (h0 : Heap) (n0 : Nat) (v : Option Value) (h : Heap) (L : List Loc) : Prop := v = some (ii 0) ∧ Fr n0 L ∧ h = h0
set_option maxRecDepth 65536 in
set_option maxHeartbeats 40000000 in
theorem rm_isdI (l : Launch) (Z : State) (a0 : Array Value) (hw : HW Z a0) (ws : List Jvm.Cond) (x_ : Addr) (h0 : Heap) (n0 : Nat) (O0 : Old Z n0 h0) (E0_ : Exa Z h0 x_ nm8) :
  MFP l Z (⟨nm3, "isDecimalText", "(Ljava/lang/Object;)Z"⟩ : MethodName) prog_11_method_22_code 2 (some .boolean) ({ frames := 0, cells := 0, slots := 0, locals := 0 } : Room) ws #[(rr x_)] h0 (Q_isdI Z x_ h0 n0) := by
 refine MetFree.of_bodySF (plainFor_of_name pn_com_example_gjallar_gjallar_messages_Coercions) hisR ?_
 intro p e s m args below meth c s₁ Bd hml0 hP hK
 obtain ⟨rfl, hZ, hh⟩ := hP
 have hx := Bd.exec
 have hby := Bd.bytes
 have hml : c.maxLocals = 2 := hml0
 have hown : s.vm.findClass nm3 = some m.cls := findClass_of_methodNamed Bd.named
 have hnm := (name_of_methodNamed Bd.named Bd.method).1
 have X0 : Stand p l e ({ frames := 0, cells := 0, slots := 0, locals := 0 } : Room) s m #[(rr x_)] below meth c s₁ [] 0 0 := Stand.of_body Bd
 have e0 : s₁.heap = h0 := by rw [← hh, Bd.state]; rfl
 have N0 := Fr.nil n0
 have kp0 : Keep h0 h0 [] := Keep.refl _ _
 have c0 : ∀ t, S_ p e below s₁ m 0 #[vr x_, u_] [] t → Steps p.tables e below (s₁.setTop (entryFrame m #[(rr x_)] 2)) t := fun t k => castTop (ef_isdI m x_) k
 generalize s₁.setTop (entryFrame m #[(rr x_)] 2) = st0 at c0 ⊢
 replace c0 : Kt p e below s₁ st0 (mkF m 0 #[vr x_, u_] []) := c0
 have c1 : Kt p e below s₁ st0 (mkF m 1 #[vr x_, u_] [(rr x_)]) := fun t k => by
  refine c0 t ?_
  show S_ p e below s₁ m 0 #[vr x_, u_] [] t
  refine XS.aloadN X0.here hx rfl (hb hby d32_0) rfl rfl ?_
  exact k
 obtain ⟨T2, X2, e2, c2⟩ := kino X0 hx hZ hown (w30 hw) e0 E0_ (own_nosub (w78 hw) (w5 hw) (NS.step (w78 hw) (NS.step (w79 hw) (own_root (w80 hw) (w5 hw) (by decide)) (by decide)) (by decide)) (by decide)) c1 rfl rfl (hb hby d32_1)
 obtain ⟨fs, hr, hrun, hended, hW, hsame⟩ := X2.leave (v := some (ii 0)) (fun h => by rw [Bd.returns] at h; cases h)
 refine ⟨_, _, c2 _ ?_, hrun, hended, _, _, rfl, ?_, ⟨_, rfl⟩, hW, hsame.mono (by decide) (by decide)⟩
 ·show S_ p e below T2 m 4 #[vr x_, u_] [(ii 0)] _
  refine yI X2.here hx rfl 4 43 rfl (hb hby d32_4) rfl rfl ?_
  refine XS.iconst X2.here hx rfl (hb hby d32_43) ?_
  show S_ p e below T2 m 44 #[vr x_, u_] [(ii 0)] _
  exact retN X2 hx (t := .boolean) Bd.returns (by simp) (hb hby d32_44) hr
 ·show Q_isdI Z x_ h0 n0 _ T2.heap _
  rw [e2]
  exact ⟨rfl, N0, rfl⟩
theorem ef_isdJ (m : MethodId) (x_ : Addr) : entryFrame m #[(rr x_)] 2 = mkF m 0 #[vr x_, u_] [] := by first | (simp [entryFrame, mkF, argsToLocals, Value.category]; done) | rfl
def Q_isdJ (Z : State) (x_ : Addr) (h0 : Heap) (n0 : Nat) (v : Option Value) (h : Heap) (L : List Loc) : Prop := v = some (ii 0) ∧ Fr n0 L ∧ h = h0
set_option maxRecDepth 65536 in
set_option maxHeartbeats 40000000 in
theorem rm_isdJ (l : Launch) (Z : State) (a0 : Array Value) (hw : HW Z a0) (ws : List Jvm.Cond) (x_ : Addr) (h0 : Heap) (n0 : Nat) (O0 : Old Z n0 h0) (E0_ : Exa Z h0 x_ nm10) :
  MFP l Z (⟨nm3, "isDecimalText", "(Ljava/lang/Object;)Z"⟩ : MethodName) prog_11_method_22_code 2 (some .boolean) ({ frames := 0, cells := 0, slots := 0, locals := 0 } : Room) ws #[(rr x_)] h0 (Q_isdJ Z x_ h0 n0) := by
 refine MetFree.of_bodySF (plainFor_of_name pn_com_example_gjallar_gjallar_messages_Coercions) hisR ?_
 intro p e s m args below meth c s₁ Bd hml0 hP hK
 obtain ⟨rfl, hZ, hh⟩ := hP
 have hx := Bd.exec
 have hby := Bd.bytes
 have hml : c.maxLocals = 2 := hml0
 have hown : s.vm.findClass nm3 = some m.cls := findClass_of_methodNamed Bd.named
 have hnm := (name_of_methodNamed Bd.named Bd.method).1
 have X0 : Stand p l e ({ frames := 0, cells := 0, slots := 0, locals := 0 } : Room) s m #[(rr x_)] below meth c s₁ [] 0 0 := Stand.of_body Bd
 have e0 : s₁.heap = h0 := by rw [← hh, Bd.state]; rfl
 have N0 := Fr.nil n0
 have kp0 : Keep h0 h0 [] := Keep.refl _ _
 have c0 : ∀ t, S_ p e below s₁ m 0 #[vr x_, u_] [] t → Steps p.tables e below (s₁.setTop (entryFrame m #[(rr x_)] 2)) t := fun t k => castTop (ef_isdJ m x_) k
 generalize s₁.setTop (entryFrame m #[(rr x_)] 2) = st0 at c0 ⊢
 replace c0 : Kt p e below s₁ st0 (mkF m 0 #[vr x_, u_] []) := c0
 have c1 : Kt p e below s₁ st0 (mkF m 1 #[vr x_, u_] [(rr x_)]) := fun t k => by
  refine c0 t ?_
  show S_ p e below s₁ m 0 #[vr x_, u_] [] t
  refine XS.aloadN X0.here hx rfl (hb hby d32_0) rfl rfl ?_
  exact k
 obtain ⟨T2, X2, e2, c2⟩ := kino X0 hx hZ hown (w30 hw) e0 E0_ (own_nosub (w104 hw) (w5 hw) (NS.step (w104 hw) (NS.step (w79 hw) (own_root (w80 hw) (w5 hw) (by decide)) (by decide)) (by decide)) (by decide)) c1 rfl rfl (hb hby d32_1)
 obtain ⟨fs, hr, hrun, hended, hW, hsame⟩ := X2.leave (v := some (ii 0)) (fun h => by rw [Bd.returns] at h; cases h)
 refine ⟨_, _, c2 _ ?_, hrun, hended, _, _, rfl, ?_, ⟨_, rfl⟩, hW, hsame.mono (by decide) (by decide)⟩
 ·show S_ p e below T2 m 4 #[vr x_, u_] [(ii 0)] _
  refine yI X2.here hx rfl 4 43 rfl (hb hby d32_4) rfl rfl ?_
  refine XS.iconst X2.here hx rfl (hb hby d32_43) ?_
  show S_ p e below T2 m 44 #[vr x_, u_] [(ii 0)] _
  exact retN X2 hx (t := .boolean) Bd.returns (by simp) (hb hby d32_44) hr
 ·show Q_isdJ Z x_ h0 n0 _ T2.heap _
  rw [e2]
  exact ⟨rfl, N0, rfl⟩
theorem pn_java_lang_Number : plainName "java/lang/Number" = true := by first | (simp [plainName, overriddenIn]; done) | decide +kernel
theorem d33_0 : decode jdk_18_method_1_code 0 = .ok (.aload_n 0, 1) := by decide +kernel
theorem d33_1 : decode jdk_18_method_1_code 1 = .ok (.invokespecial 1, 3) := by decide +kernel
theorem d33_4 : decode jdk_18_method_1_code 4 = .ok (.return_, 1) := by decide +kernel
theorem ef_numinit (m : MethodId) (x_ : Addr) : entryFrame m #[(rr x_)] 1 = mkF m 0 #[vr x_] [] := by first | (simp [entryFrame, mkF, argsToLocals, Value.category]; done) | rfl
def Q_numinit (Z : State) (x_ : Addr) (h0 : Heap) (n0 : Nat) (v : Option Value) (h : Heap) (L : List Loc) : Prop := v = none ∧ Fr n0 L ∧ h = h0
set_option maxRecDepth 65536 in
set_option maxHeartbeats 40000000 in
theorem rm_numinit (l : Launch) (Z : State) (a0 : Array Value) (hw : HW Z a0) (ws : List Jvm.Cond) (x_ : Addr) (h0 : Heap) (n0 : Nat) (O0 : Old Z n0 h0) :
  MFP l Z (⟨"java/lang/Number", "<init>", "()V"⟩ : MethodName) jdk_18_method_1_code 1 none ({ frames := 1, cells := 0, slots := 0, locals := 12 } : Room) ws #[(rr x_)] h0 (Q_numinit Z x_ h0 n0) := by
 refine MetFree.of_bodySF (plainFor_of_name pn_java_lang_Number) hisR ?_
 intro p e s m args below meth c s₁ Bd hml0 hP hK
 obtain ⟨rfl, hZ, hh⟩ := hP
 have hx := Bd.exec
 have hby := Bd.bytes
 have hml : c.maxLocals = 1 := hml0
 have hown : s.vm.findClass "java/lang/Number" = some m.cls := findClass_of_methodNamed Bd.named
 have hnm := (name_of_methodNamed Bd.named Bd.method).1
 have X0 : Stand p l e ({ frames := 1, cells := 0, slots := 0, locals := 12 } : Room) s m #[(rr x_)] below meth c s₁ [] 0 0 := Stand.of_body Bd
 have e0 : s₁.heap = h0 := by rw [← hh, Bd.state]; rfl
 have N0 := Fr.nil n0
 have kp0 : Keep h0 h0 [] := Keep.refl _ _
 have c0 : ∀ t, S_ p e below s₁ m 0 #[vr x_] [] t → Steps p.tables e below (s₁.setTop (entryFrame m #[(rr x_)] 1)) t := fun t k => castTop (ef_numinit m x_) k
 generalize s₁.setTop (entryFrame m #[(rr x_)] 1) = st0 at c0 ⊢
 replace c0 : Kt p e below s₁ st0 (mkF m 0 #[vr x_] []) := c0
 have c1 : Kt p e below s₁ st0 (mkF m 1 #[vr x_] [(rr x_)]) := fun t k => by
  refine c0 t ?_
  show S_ p e below s₁ m 0 #[vr x_] [] t
  refine XS.aloadN X0.here hx rfl (hb hby d33_0) rfl rfl ?_
  exact k
 obtain ⟨T2, X2, e2, c2⟩ := kinit X0 hx hZ hown (w93 hw) (w16 hw) (w17 hw) e0 c1 rfl hml rfl rfl (hb hby d33_1) 0 (own_w rfl) (by decide) (by decide)
 obtain ⟨fs, hr, hrun, hended, hW, hsame⟩ := X2.leave (v := none) (fun _ => rfl)
 refine ⟨_, _, c2 _ ?_, hrun, hended, _, _, rfl, ?_, ⟨_, rfl⟩, hW, hsame.mono (by decide) (by decide)⟩
 ·show S_ p e below T2 m 4 #[vr x_] [] _
  exact X2.returnOut hx Bd.returns (hb hby d33_4) hr
 ·show Q_numinit Z x_ h0 n0 _ T2.heap _
  rw [e2]
  exact ⟨rfl, N0, rfl⟩
theorem pn_java_lang_Integer : plainName nm8 = true := by first | (simp [plainName, overriddenIn]; done) | decide +kernel
theorem d34_0 : decode jdk_33_method_23_code 0 = .ok (.aload_n 0, 1) := by decide +kernel
theorem d34_1 : decode jdk_33_method_23_code 1 = .ok (.invokespecial 202, 3) := by decide +kernel
theorem pd_prV : parseMethodDescriptor "()V" = some ⟨[], none⟩ := by decide +kernel
theorem d34_4 : decode jdk_33_method_23_code 4 = .ok (.aload_n 0, 1) := by decide +kernel
theorem d34_5 : decode jdk_33_method_23_code 5 = .ok (.iload_n 1, 1) := by decide +kernel
theorem d34_6 : decode jdk_33_method_23_code 6 = .ok (.putfield 205, 3) := by decide +kernel
theorem d34_9 : decode jdk_33_method_23_code 9 = .ok (.return_, 1) := by decide +kernel
theorem ef_biI (m : MethodId) (x_ : Addr) (i_ : Int32) : entryFrame m #[(rr x_), (.int i_)] 2 = mkF m 0 #[vr x_, vi i_] [] := by first | (simp [entryFrame, mkF, argsToLocals, Value.category]; done) | rfl
def Q_biI (Z : State) (x_ : Addr) (i_ : Int32) (h0 : Heap) (n0 : Nat) (v : Option Value) (h : Heap) (L : List Loc) : Prop := v = none ∧ Fr n0 L ∧ Keep h0 h [x_] ∧ Exa Z h x_ nm8
set_option maxRecDepth 65536 in
set_option maxHeartbeats 40000000 in
theorem rm_biI (l : Launch) (Z : State) (a0 : Array Value) (hw : HW Z a0) (ws : List Jvm.Cond) (x_ : Addr) (i_ : Int32) (h0 : Heap) (n0 : Nat) (O0 : Old Z n0 h0) (E0_ : Exa Z h0 x_ nm8) (F1_ : Fld Z h0 x_ nm8 "value" "I" (ii 0)) (G2_ : n0 ≤ x_) :
  MFP l Z (⟨nm8, "<init>", "(I)V"⟩ : MethodName) jdk_33_method_23_code 2 none ({ frames := 2, cells := 0, slots := 0, locals := 24 } : Room) ws #[(rr x_), (.int i_)] h0 (Q_biI Z x_ i_ h0 n0) := by
 refine MetFree.of_bodySF (plainFor_of_name pn_java_lang_Integer) hisR ?_
 intro p e s m args below meth c s₁ Bd hml0 hP hK
 obtain ⟨rfl, hZ, hh⟩ := hP
 have hx := Bd.exec
 have hby := Bd.bytes
 have hml : c.maxLocals = 2 := hml0
 have hown : s.vm.findClass nm8 = some m.cls := findClass_of_methodNamed Bd.named
 have hnm := (name_of_methodNamed Bd.named Bd.method).1
 have X0 : Stand p l e ({ frames := 2, cells := 0, slots := 0, locals := 24 } : Room) s m #[(rr x_), (.int i_)] below meth c s₁ [] 0 0 := Stand.of_body Bd
 have e0 : s₁.heap = h0 := by rw [← hh, Bd.state]; rfl
 have N0 := Fr.nil n0
 have kp0 : Keep h0 h0 [x_] := Keep.refl _ _
 have c0 : ∀ t, S_ p e below s₁ m 0 #[vr x_, vi i_] [] t → Steps p.tables e below (s₁.setTop (entryFrame m #[(rr x_), (.int i_)] 2)) t := fun t k => castTop (ef_biI m x_ i_) k
 generalize s₁.setTop (entryFrame m #[(rr x_), (.int i_)] 2) = st0 at c0 ⊢
 replace c0 : Kt p e below s₁ st0 (mkF m 0 #[vr x_, vi i_] []) := c0
 have c1 : Kt p e below s₁ st0 (mkF m 1 #[vr x_, vi i_] [(rr x_)]) := fun t k => by
  refine c0 t ?_
  show S_ p e below s₁ m 0 #[vr x_, vi i_] [] t
  refine XS.aloadN X0.here hx rfl (hb hby d34_0) rfl rfl ?_
  exact k
 obtain ⟨_, T2, L2, X2, hQ2, c2⟩ := kspec X0 hx hZ hown (w87 hw) (w88 hw) (w91 hw) (w92 hw) (rm_numinit l Z a0 hw [] x_ h0 n0 O0 ) e0 c1 hml pd_prV x_ [] [] 0 (hb hby d34_1) rfl rfl rfl rfl rfl rfl
 obtain ⟨rfl, N3q, K4⟩ := hQ2
 have N3 := Fr.app N0 N3q
 have c5 : Kt p e below T2 st0 (mkF m 6 #[vr x_, vi i_] [(.int i_), (rr x_)]) := fun t k => by
  refine c2 t ?_
  show S_ p e below T2 m 4 #[vr x_, vi i_] [] t
  refine XS.aloadN X2.here hx rfl (hb hby d34_4) rfl rfl ?_
  refine XS.iloadN X2.here hx rfl (hb hby d34_5) rfl ?_
  exact k
 obtain ⟨T6, h6, X6, e6, W6, f7, o9, N8, c6⟩ := kput X2 hx hZ .int hown (host := "") (Or.inl (w94 hw)) Via.refl K4 F1_ E0_ (Or.inr ⟨(w95 hw), rfl, hnm⟩) (w82 hw) c5 rfl rfl (hb hby d34_6) (by decide) rfl rfl O0 N3 G2_
 have kp10 := kp0.wr W6 (Or.inl (List.mem_of_getElem? (i := 0) rfl))
 obtain ⟨fs, hr, hrun, hended, hW, hsame⟩ := X6.leave (v := none) (fun _ => rfl)
 refine ⟨_, _, c6 _ ?_, hrun, hended, _, _, rfl, ?_, ⟨_, rfl⟩, hW, hsame.mono (by decide) (by decide)⟩
 ·show S_ p e below T6 m 9 #[vr x_, vi i_] [] _
  exact X6.returnOut hx Bd.returns (hb hby d34_9) hr
 ·show Q_biI Z x_ i_ h0 n0 _ T6.heap _
  rw [e6]
  exact ⟨rfl, N8, kp10, (E0_.wr W6)⟩
theorem d35_0 : decode jdk_33_method_22_code 0 = .ok (.iload_n 0, 1) := by decide +kernel
theorem d35_1 : decode jdk_33_method_22_code 1 = .ok (.bipush (-128), 2) := by decide +kernel
theorem d35_3 : decode jdk_33_method_22_code 3 = .ok (.if_icmp .lt 20, 3) := by decide +kernel
theorem d35_23 : decode jdk_33_method_22_code 23 = .ok (.new 1, 3) := by decide +kernel
theorem d35_26 : decode jdk_33_method_22_code 26 = .ok (.dup, 1) := by decide +kernel
theorem d35_27 : decode jdk_33_method_22_code 27 = .ok (.iload_n 0, 1) := by decide +kernel
theorem d35_28 : decode jdk_33_method_22_code 28 = .ok (.invokespecial 199, 3) := by decide +kernel
theorem pd_pIrV : parseMethodDescriptor "(I)V" = some ⟨[.int], none⟩ := by decide +kernel
theorem d35_31 : decode jdk_33_method_22_code 31 = .ok (.areturn, 1) := by decide +kernel
theorem d35_6 : decode jdk_33_method_22_code 6 = .ok (.iload_n 0, 1) := by decide +kernel
theorem d35_7 : decode jdk_33_method_22_code 7 = .ok (.getstatic 191, 3) := by decide +kernel
theorem d35_10 : decode jdk_33_method_22_code 10 = .ok (.if_icmp .gt 13, 3) := by decide +kernel
theorem d35_13 : decode jdk_33_method_22_code 13 = .ok (.getstatic 195, 3) := by decide +kernel
theorem d35_16 : decode jdk_33_method_22_code 16 = .ok (.iload_n 0, 1) := by decide +kernel
theorem d35_17 : decode jdk_33_method_22_code 17 = .ok (.sipush 128, 3) := by decide +kernel
theorem d35_20 : decode jdk_33_method_22_code 20 = .ok (.iadd, 1) := by decide +kernel
theorem d35_21 : decode jdk_33_method_22_code 21 = .ok (.aaload, 1) := by decide +kernel
theorem d35_22 : decode jdk_33_method_22_code 22 = .ok (.areturn, 1) := by decide +kernel
theorem ef_voI (m : MethodId) (i_ : Int32) : entryFrame m #[(.int i_)] 1 = mkF m 0 #[vi i_] [] := by first | (simp [entryFrame, mkF, argsToLocals, Value.category]; done) | rfl
def Q_voI (Z : State) (i_ : Int32) (ca_ : Addr) (cc_ : Cell) (h0 : Heap) (n0 : Nat) (v : Option Value) (h : Heap) (L : List Loc) : Prop := ∃ (b_ : Addr), v = some (rr b_) ∧ Fr n0 L ∧ Keep h0 h [] ∧ Exa Z h b_ nm8
set_option maxRecDepth 65536 in
set_option maxHeartbeats 40000000 in
theorem rm_voI (l : Launch) (Z : State) (a0 : Array Value) (hw : HW Z a0) (ws : List Jvm.Cond) (i_ : Int32) (ca_ : Addr) (cc_ : Cell) (h0 : Heap) (n0 : Nat) (O0 : Old Z n0 h0) (ZS0_ : Sta Z Z.heap "java/lang/Integer$IntegerCache" "high" "I" (ii 127)) (ZS1_ : Sta Z Z.heap "java/lang/Integer$IntegerCache" "cache" "[Ljava/lang/Integer;" (rr ca_)) (hbx_ : Bxs Z ca_ cc_ nm8 "I" (256 : Int32) (fun j => .int (j - (128 : Int32)))) :
  MFP l Z (⟨nm8, "valueOf", "(I)Ljava/lang/Integer;"⟩ : MethodName) jdk_33_method_22_code 1 (some (.object nm8)) ({ frames := 3, cells := 1, slots := 1, locals := 38 } : Room) ws #[(.int i_)] h0 (Q_voI Z i_ ca_ cc_ h0 n0) := by
 refine MetFree.of_bodySF (plainFor_of_name pn_java_lang_Integer) hisR ?_
 intro p e s m args below meth c s₁ Bd hml0 hP hK
 obtain ⟨rfl, hZ, hh⟩ := hP
 have hx := Bd.exec
 have hby := Bd.bytes
 have hml : c.maxLocals = 1 := hml0
 have hown : s.vm.findClass nm8 = some m.cls := findClass_of_methodNamed Bd.named
 have hnm := (name_of_methodNamed Bd.named Bd.method).1
 have X0 : Stand p l e ({ frames := 3, cells := 1, slots := 1, locals := 38 } : Room) s m #[(.int i_)] below meth c s₁ [] 0 0 := Stand.of_body Bd
 have e0 : s₁.heap = h0 := by rw [← hh, Bd.state]; rfl
 have N0 := Fr.nil n0
 have kp0 : Keep h0 h0 [] := Keep.refl _ _
 have c0 : ∀ t, S_ p e below s₁ m 0 #[vi i_] [] t → Steps p.tables e below (s₁.setTop (entryFrame m #[(.int i_)] 1)) t := fun t k => castTop (ef_voI m i_) k
 generalize s₁.setTop (entryFrame m #[(.int i_)] 1) = st0 at c0 ⊢
 replace c0 : Kt p e below s₁ st0 (mkF m 0 #[vi i_] []) := c0
 have c1 : Kt p e below s₁ st0 (mkF m 3 #[vi i_] [(ii (-128)), (.int i_)]) := fun t k => by
  refine c0 t ?_
  show S_ p e below s₁ m 0 #[vi i_] [] t
  refine XS.iloadN X0.here hx rfl (hb hby d35_0) rfl ?_
  refine XS.bipush X0.here hx rfl (hb hby d35_1) ?_
  exact k
 by_cases hc2 : i_ < (-128 : Int32)
 ·have c3 : Kt p e below s₁ st0 (mkF m 23 #[vi i_] []) := fun t k => by
   refine c1 t ?_
   show S_ p e below s₁ m 3 #[vi i_] [(ii (-128)), (.int i_)] t
   refine yC X0.here hx rfl 3 23 rfl (hb hby d35_3) rfl (tlt hc2).1 ?_
   exact k
  obtain ⟨b4, T4, h4, z4, g4, X4, e4, E4, o5, A4, D4, U4, c4⟩ := knew X0 hx hZ hown (w81 hw) (w82 hw) (w73 hw) e0 c3 rfl (hb hby d35_23) (by decide) (by decide) O0
  have kp6 := kp0.ext E4
  have z7 := Nat.le_trans kp0.1 z4
  have c8 : Kt p e below T4 st0 (mkF m 28 #[vi i_] [(.int i_), (rr b4), (rr b4)]) := fun t k => by
   refine c4 t ?_
   show S_ p e below T4 m 26 #[vi i_] [(rr b4)] t
   refine XS.dup X4.here hx rfl (hb hby d35_26) rfl rfl ?_
   refine XS.iloadN X4.here hx rfl (hb hby d35_27) rfl ?_
   exact k
  obtain ⟨_, T9, L9, X9, hQ9, c9⟩ := kspec X4 hx hZ hown (w83 hw) (w84 hw) (w73 hw) (w86 hw) (rm_biI l Z a0 hw [] b4 i_ h4 n0 o5 A4 (show Fld Z h4 b4 nm8 "value" "I" (ii 0) from D4 (Or.inr (w95 hw)) (ty := .int) (by decide)) g4) e4 c8 hml pd_pIrV b4 [(.int i_)] [(rr b4)] 1 (hb hby d35_28) rfl rfl rfl rfl rfl rfl
  obtain ⟨rfl, N10q, K11, p12⟩ := hQ9
  have N10 := Fr.app N0 N10q
  have o13 := o5.keep K11 (allS g4 all0)
  have kp14 := kp6.trans K11 (allS (Or.inr z7) all0)
  obtain ⟨fs, hr, hrun, hended, hW, hsame⟩ := X9.leave (v := some (rr b4)) (fun h => by rw [Bd.returns] at h; cases h)
  refine ⟨_, _, c9 _ ?_, hrun, hended, _, _, rfl, ?_, ⟨_, rfl⟩, hW, hsame.mono (by decide) (by decide)⟩
  ·show S_ p e below T9 m 31 #[vi i_] [(rr b4)] _
   exact retOut X9 hx Bd.returns rfl (Or.inr (Or.inr (Or.inr (Or.inr ⟨rfl, rfl, rfl⟩)))) (hb hby d35_31) hr
  ·show Q_voI Z i_ ca_ cc_ h0 n0 _ T9.heap _
   exact ⟨b4, rfl, N10, kp14, p12⟩
 ·have c15 : Kt p e below s₁ st0 (mkF m 7 #[vi i_] [(.int i_)]) := fun t k => by
   refine c1 t ?_
   show S_ p e below s₁ m 3 #[vi i_] [(ii (-128)), (.int i_)] t
   refine XS.icmpNo X0.here hx rfl (hb hby d35_3) rfl (flt hc2).1 ?_
   refine XS.iloadN X0.here hx rfl (hb hby d35_6) rfl ?_
   exact k
  obtain ⟨T16, X16, e16, c16⟩ := kgetS X0 hx hZ hown (host := "") (Or.inl (w75 hw)) Via.refl e0 (ZS0_.ext O0.2) c15 rfl (hb hby d35_7)
  by_cases hc17 : (127 : Int32) < i_
  ·have c18 : Kt p e below T16 st0 (mkF m 23 #[vi i_] []) := fun t k => by
    refine c16 t ?_
    show S_ p e below T16 m 10 #[vi i_] [(ii 127), (.int i_)] t
    refine yC X16.here hx rfl 10 23 rfl (hb hby d35_10) rfl (tlt hc17).2.2.1 ?_
    exact k
   obtain ⟨b19, T19, h19, z19, g19, X19, e19, E19, o20, A19, D19, U19, c19⟩ := knew X16 hx hZ hown (w81 hw) (w82 hw) (w73 hw) e16 c18 rfl (hb hby d35_23) (by decide) (by decide) O0
   have kp21 := kp0.ext E19
   have z22 := Nat.le_trans kp0.1 z19
   have c23 : Kt p e below T19 st0 (mkF m 28 #[vi i_] [(.int i_), (rr b19), (rr b19)]) := fun t k => by
    refine c19 t ?_
    show S_ p e below T19 m 26 #[vi i_] [(rr b19)] t
    refine XS.dup X19.here hx rfl (hb hby d35_26) rfl rfl ?_
    refine XS.iloadN X19.here hx rfl (hb hby d35_27) rfl ?_
    exact k
   obtain ⟨_, T24, L24, X24, hQ24, c24⟩ := kspec X19 hx hZ hown (w83 hw) (w84 hw) (w73 hw) (w86 hw) (rm_biI l Z a0 hw [] b19 i_ h19 n0 o20 A19 (show Fld Z h19 b19 nm8 "value" "I" (ii 0) from D19 (Or.inr (w95 hw)) (ty := .int) (by decide)) g19) e19 c23 hml pd_pIrV b19 [(.int i_)] [(rr b19)] 1 (hb hby d35_28) rfl rfl rfl rfl rfl rfl
   obtain ⟨rfl, N25q, K26, p27⟩ := hQ24
   have N25 := Fr.app N0 N25q
   have o28 := o20.keep K26 (allS g19 all0)
   have kp29 := kp21.trans K26 (allS (Or.inr z22) all0)
   obtain ⟨fs, hr, hrun, hended, hW, hsame⟩ := X24.leave (v := some (rr b19)) (fun h => by rw [Bd.returns] at h; cases h)
   refine ⟨_, _, c24 _ ?_, hrun, hended, _, _, rfl, ?_, ⟨_, rfl⟩, hW, hsame.mono (by decide) (by decide)⟩
   ·show S_ p e below T24 m 31 #[vi i_] [(rr b19)] _
    exact retOut X24 hx Bd.returns rfl (Or.inr (Or.inr (Or.inr (Or.inr ⟨rfl, rfl, rfl⟩)))) (hb hby d35_31) hr
   ·show Q_voI Z i_ ca_ cc_ h0 n0 _ T24.heap _
    exact ⟨b19, rfl, N25, kp29, p27⟩
  ·have c30 : Kt p e below T16 st0 (mkF m 13 #[vi i_] []) := fun t k => by
    refine c16 t ?_
    show S_ p e below T16 m 10 #[vi i_] [(ii 127), (.int i_)] t
    refine XS.icmpNo X16.here hx rfl (hb hby d35_10) rfl (flt hc17).2.2.1 ?_
    exact k
   obtain ⟨T31, X31, e31, c31⟩ := kgetS X16 hx hZ hown (host := "") (Or.inl (w77 hw)) Via.refl e16 (ZS1_.ext O0.2) c30 rfl (hb hby d35_13)
   have c33 : Kt p e below T31 st0 (mkF m 21 #[vi i_] [(.int (i_ + (128 : Int32))), (rr ca_)]) := fun t k => by
    refine c31 t ?_
    show S_ p e below T31 m 16 #[vi i_] [(rr ca_)] t
    refine XS.iloadN X31.here hx rfl (hb hby d35_16) rfl ?_
    refine XS.sipush X31.here hx rfl (hb hby d35_17) ?_
    refine XS.iadd X31.here hx rfl (hb hby d35_20) rfl ?_
    exact k
   obtain ⟨b32, eb32, fb32, c32⟩ := kbox X31 hx hZ e31 O0 hbx_ (j := (i_ + (128 : Int32))) (own_addI _ hc2 hc17).1 (own_addI _ hc2 hc17).2 c33 rfl rfl (hb hby d35_21)
   obtain ⟨fs, hr, hrun, hended, hW, hsame⟩ := X31.leave (v := some (rr b32)) (fun h => by rw [Bd.returns] at h; cases h)
   refine ⟨_, _, c32 _ ?_, hrun, hended, _, _, rfl, ?_, ⟨_, rfl⟩, hW, hsame.mono (by decide) (by decide)⟩
   ·show S_ p e below T31 m 22 #[vi i_] [(rr b32)] _
    exact retOut X31 hx Bd.returns rfl (Or.inr (Or.inr (Or.inr (Or.inr ⟨rfl, rfl, rfl⟩)))) (hb hby d35_22) hr
   ·show Q_voI Z i_ ca_ cc_ h0 n0 _ T31.heap _
    rw [e31]
    exact ⟨b32, rfl, N0, kp0, (eb32.ext O0.2)⟩
theorem pn_java_lang_Long : plainName nm10 = true := by first | (simp [plainName, overriddenIn]; done) | decide +kernel
theorem d36_0 : decode jdk_35_method_26_code 0 = .ok (.aload_n 0, 1) := by decide +kernel
theorem d36_1 : decode jdk_35_method_26_code 1 = .ok (.invokespecial 270, 3) := by decide +kernel
theorem d36_4 : decode jdk_35_method_26_code 4 = .ok (.aload_n 0, 1) := by decide +kernel
theorem d36_5 : decode jdk_35_method_26_code 5 = .ok (.lload_n 1, 1) := by decide +kernel
theorem d36_6 : decode jdk_35_method_26_code 6 = .ok (.putfield 273, 3) := by decide +kernel
theorem d36_9 : decode jdk_35_method_26_code 9 = .ok (.return_, 1) := by decide +kernel
theorem ef_biJ (m : MethodId) (x_ : Addr) (i_ : Int64) : entryFrame m #[(rr x_), (.long i_)] 3 = mkF m 0 #[vr x_, vj i_, .second] [] := by first | (simp [entryFrame, mkF, argsToLocals, Value.category]; done) | rfl
def Q_biJ (Z : State) (x_ : Addr) (i_ : Int64) (h0 : Heap) (n0 : Nat) (v : Option Value) (h : Heap) (L : List Loc) : Prop := v = none ∧ Fr n0 L ∧ Keep h0 h [x_] ∧ Exa Z h x_ nm10
set_option maxRecDepth 65536 in
set_option maxHeartbeats 40000000 in
theorem rm_biJ (l : Launch) (Z : State) (a0 : Array Value) (hw : HW Z a0) (ws : List Jvm.Cond) (x_ : Addr) (i_ : Int64) (h0 : Heap) (n0 : Nat) (O0 : Old Z n0 h0) (E0_ : Exa Z h0 x_ nm10) (F1_ : Fld Z h0 x_ nm10 "value" "J" (.long (0 : Int64))) (G2_ : n0 ≤ x_) :
  MFP l Z (⟨nm10, "<init>", "(J)V"⟩ : MethodName) jdk_35_method_26_code 3 none ({ frames := 2, cells := 0, slots := 0, locals := 24 } : Room) ws #[(rr x_), (.long i_)] h0 (Q_biJ Z x_ i_ h0 n0) := by
 refine MetFree.of_bodySF (plainFor_of_name pn_java_lang_Long) hisR ?_
 intro p e s m args below meth c s₁ Bd hml0 hP hK
 obtain ⟨rfl, hZ, hh⟩ := hP
 have hx := Bd.exec
 have hby := Bd.bytes
 have hml : c.maxLocals = 3 := hml0
 have hown : s.vm.findClass nm10 = some m.cls := findClass_of_methodNamed Bd.named
 have hnm := (name_of_methodNamed Bd.named Bd.method).1
 have X0 : Stand p l e ({ frames := 2, cells := 0, slots := 0, locals := 24 } : Room) s m #[(rr x_), (.long i_)] below meth c s₁ [] 0 0 := Stand.of_body Bd
 have e0 : s₁.heap = h0 := by rw [← hh, Bd.state]; rfl
 have N0 := Fr.nil n0
 have kp0 : Keep h0 h0 [x_] := Keep.refl _ _
 have c0 : ∀ t, S_ p e below s₁ m 0 #[vr x_, vj i_, .second] [] t → Steps p.tables e below (s₁.setTop (entryFrame m #[(rr x_), (.long i_)] 3)) t := fun t k => castTop (ef_biJ m x_ i_) k
 generalize s₁.setTop (entryFrame m #[(rr x_), (.long i_)] 3) = st0 at c0 ⊢
 replace c0 : Kt p e below s₁ st0 (mkF m 0 #[vr x_, vj i_, .second] []) := c0
 have c1 : Kt p e below s₁ st0 (mkF m 1 #[vr x_, vj i_, .second] [(rr x_)]) := fun t k => by
  refine c0 t ?_
  show S_ p e below s₁ m 0 #[vr x_, vj i_, .second] [] t
  refine XS.aloadN X0.here hx rfl (hb hby d36_0) rfl rfl ?_
  exact k
 obtain ⟨_, T2, L2, X2, hQ2, c2⟩ := kspec X0 hx hZ hown (w141 hw) (w88 hw) (w91 hw) (w92 hw) (rm_numinit l Z a0 hw [] x_ h0 n0 O0 ) e0 c1 hml pd_prV x_ [] [] 0 (hb hby d36_1) rfl rfl rfl rfl rfl rfl
 obtain ⟨rfl, N3q, K4⟩ := hQ2
 have N3 := Fr.app N0 N3q
 have c5 : Kt p e below T2 st0 (mkF m 6 #[vr x_, vj i_, .second] [(.long i_), (rr x_)]) := fun t k => by
  refine c2 t ?_
  show S_ p e below T2 m 4 #[vr x_, vj i_, .second] [] t
  refine XS.aloadN X2.here hx rfl (hb hby d36_4) rfl rfl ?_
  refine XS.lloadN X2.here hx rfl (hb hby d36_5) rfl ?_
  exact k
 obtain ⟨T6, h6, X6, e6, W6, f7, o9, N8, c6⟩ := kput X2 hx hZ .long hown (host := "") (Or.inl (w143 hw)) Via.refl K4 F1_ E0_ (Or.inr ⟨(w144 hw), rfl, hnm⟩) (w136 hw) c5 rfl rfl (hb hby d36_6) (by decide) rfl rfl O0 N3 G2_
 have kp10 := kp0.wr W6 (Or.inl (List.mem_of_getElem? (i := 0) rfl))
 obtain ⟨fs, hr, hrun, hended, hW, hsame⟩ := X6.leave (v := none) (fun _ => rfl)
 refine ⟨_, _, c6 _ ?_, hrun, hended, _, _, rfl, ?_, ⟨_, rfl⟩, hW, hsame.mono (by decide) (by decide)⟩
 ·show S_ p e below T6 m 9 #[vr x_, vj i_, .second] [] _
  exact X6.returnOut hx Bd.returns (hb hby d36_9) hr
 ·show Q_biJ Z x_ i_ h0 n0 _ T6.heap _
  rw [e6]
  exact ⟨rfl, N8, kp10, (E0_.wr W6)⟩
theorem d37_0 : decode jdk_35_method_24_code 0 = .ok (.sipush 128, 3) := by decide +kernel
theorem d37_3 : decode jdk_35_method_24_code 3 = .ok (.istore_n 2, 1) := by decide +kernel
theorem d37_4 : decode jdk_35_method_24_code 4 = .ok (.lload_n 0, 1) := by decide +kernel
theorem d37_5 : decode jdk_35_method_24_code 5 = .ok (.ldc2_w 230, 3) := by decide +kernel
theorem d37_8 : decode jdk_35_method_24_code 8 = .ok (.lcmp, 1) := by decide +kernel
theorem d37_9 : decode jdk_35_method_24_code 9 = .ok (.ifCond .lt 22, 3) := by decide +kernel
theorem d37_31 : decode jdk_35_method_24_code 31 = .ok (.new 1, 3) := by decide +kernel
theorem d37_34 : decode jdk_35_method_24_code 34 = .ok (.dup, 1) := by decide +kernel
theorem d37_35 : decode jdk_35_method_24_code 35 = .ok (.lload_n 0, 1) := by decide +kernel
theorem d37_36 : decode jdk_35_method_24_code 36 = .ok (.invokespecial 240, 3) := by decide +kernel
theorem pd_pJrV : parseMethodDescriptor "(J)V" = some ⟨[.long], none⟩ := by decide +kernel
theorem d37_39 : decode jdk_35_method_24_code 39 = .ok (.areturn, 1) := by decide +kernel
theorem d37_12 : decode jdk_35_method_24_code 12 = .ok (.lload_n 0, 1) := by decide +kernel
theorem d37_13 : decode jdk_35_method_24_code 13 = .ok (.ldc2_w 232, 3) := by decide +kernel
theorem d37_16 : decode jdk_35_method_24_code 16 = .ok (.lcmp, 1) := by decide +kernel
theorem d37_17 : decode jdk_35_method_24_code 17 = .ok (.ifCond .gt 14, 3) := by decide +kernel
theorem d37_20 : decode jdk_35_method_24_code 20 = .ok (.getstatic 234, 3) := by decide +kernel
theorem d37_23 : decode jdk_35_method_24_code 23 = .ok (.lload_n 0, 1) := by decide +kernel
theorem d37_24 : decode jdk_35_method_24_code 24 = .ok (.l2i, 1) := by decide +kernel
theorem d37_25 : decode jdk_35_method_24_code 25 = .ok (.sipush 128, 3) := by decide +kernel
theorem d37_28 : decode jdk_35_method_24_code 28 = .ok (.iadd, 1) := by decide +kernel
theorem d37_29 : decode jdk_35_method_24_code 29 = .ok (.aaload, 1) := by decide +kernel
theorem d37_30 : decode jdk_35_method_24_code 30 = .ok (.areturn, 1) := by decide +kernel
theorem ef_voJ (m : MethodId) (i_ : Int64) : entryFrame m #[(.long i_)] 3 = mkF m 0 #[vj i_, .second, u_] [] := by first | (simp [entryFrame, mkF, argsToLocals, Value.category]; done) | rfl
def Q_voJ (Z : State) (i_ : Int64) (ca_ : Addr) (cc_ : Cell) (h0 : Heap) (n0 : Nat) (v : Option Value) (h : Heap) (L : List Loc) : Prop := ∃ (b_ : Addr), v = some (rr b_) ∧ Fr n0 L ∧ Keep h0 h [] ∧ Exa Z h b_ nm10
set_option maxRecDepth 65536 in
set_option maxHeartbeats 40000000 in
theorem rm_voJ (l : Launch) (Z : State) (a0 : Array Value) (hw : HW Z a0) (ws : List Jvm.Cond) (i_ : Int64) (ca_ : Addr) (cc_ : Cell) (h0 : Heap) (n0 : Nat) (O0 : Old Z n0 h0) (ZS0_ : Sta Z Z.heap "java/lang/Long$LongCache" "cache" "[Ljava/lang/Long;" (rr ca_)) (hbx_ : Bxs Z ca_ cc_ nm10 "J" (256 : Int32) (fun j => .long (j - (128 : Int32)).toInt64)) :
  MFP l Z (⟨nm10, "valueOf", "(J)Ljava/lang/Long;"⟩ : MethodName) jdk_35_method_24_code 3 (some (.object nm10)) ({ frames := 3, cells := 1, slots := 1, locals := 39 } : Room) ws #[(.long i_)] h0 (Q_voJ Z i_ ca_ cc_ h0 n0) := by
 refine MetFree.of_bodySF (plainFor_of_name pn_java_lang_Long) hisR ?_
 intro p e s m args below meth c s₁ Bd hml0 hP hK
 obtain ⟨rfl, hZ, hh⟩ := hP
 have hx := Bd.exec
 have hby := Bd.bytes
 have hml : c.maxLocals = 3 := hml0
 have hown : s.vm.findClass nm10 = some m.cls := findClass_of_methodNamed Bd.named
 have hnm := (name_of_methodNamed Bd.named Bd.method).1
 have X0 : Stand p l e ({ frames := 3, cells := 1, slots := 1, locals := 39 } : Room) s m #[(.long i_)] below meth c s₁ [] 0 0 := Stand.of_body Bd
 have e0 : s₁.heap = h0 := by rw [← hh, Bd.state]; rfl
 have N0 := Fr.nil n0
 have kp0 : Keep h0 h0 [] := Keep.refl _ _
 have c0 : ∀ t, S_ p e below s₁ m 0 #[vj i_, .second, u_] [] t → Steps p.tables e below (s₁.setTop (entryFrame m #[(.long i_)] 3)) t := fun t k => castTop (ef_voJ m i_) k
 generalize s₁.setTop (entryFrame m #[(.long i_)] 3) = st0 at c0 ⊢
 replace c0 : Kt p e below s₁ st0 (mkF m 0 #[vj i_, .second, u_] []) := c0
 have c1 : Kt p e below s₁ st0 (mkF m 9 #[vj i_, .second, vi 128] [(.int (lcmpW i_ (-128 : Int64)))]) := fun t k => by
  refine c0 t ?_
  show S_ p e below s₁ m 0 #[vj i_, .second, u_] [] t
  refine XS.sipush X0.here hx rfl (hb hby d37_0) ?_
  refine XS.istoreN X0.here hx rfl (hb hby d37_3) rfl (l' := #[vj i_, .second, vi 128]) rfl ?_
  refine XS.lloadN X0.here hx rfl (hb hby d37_4) rfl ?_
  show S_ p e below s₁ m 5 #[vj i_, .second, vi 128] [(.long i_)] t
  refine X0.ldc2Long hx hown (mvT hZ (w100 hw)) (g := (mkF m 5 #[vj i_, .second, vi 128] [(.long i_)])) rfl (hb hby d37_5) _ ?_
  refine XS.lcmp X0.here hx rfl (hb hby d37_8) rfl ?_
  exact k
 by_cases hc2 : (lcmpW i_ (-128 : Int64)) < (0 : Int32)
 ·have c3 : Kt p e below s₁ st0 (mkF m 31 #[vj i_, .second, vi 128] []) := fun t k => by
   refine c1 t ?_
   show S_ p e below s₁ m 9 #[vj i_, .second, vi 128] [(.int (lcmpW i_ (-128 : Int64)))] t
   refine yI X0.here hx rfl 9 31 rfl (hb hby d37_9) rfl ((if0 _ _).trans (tlt hc2).1) ?_
   exact k
  obtain ⟨b4, T4, h4, z4, g4, X4, e4, E4, o5, A4, D4, U4, c4⟩ := knew X0 hx hZ hown (w135 hw) (w136 hw) (w98 hw) e0 c3 rfl (hb hby d37_31) (by decide) (by decide) O0
  have kp6 := kp0.ext E4
  have z7 := Nat.le_trans kp0.1 z4
  have c8 : Kt p e below T4 st0 (mkF m 36 #[vj i_, .second, vi 128] [(.long i_), (rr b4), (rr b4)]) := fun t k => by
   refine c4 t ?_
   show S_ p e below T4 m 34 #[vj i_, .second, vi 128] [(rr b4)] t
   refine XS.dup X4.here hx rfl (hb hby d37_34) rfl rfl ?_
   refine XS.lloadN X4.here hx rfl (hb hby d37_35) rfl ?_
   exact k
  obtain ⟨_, T9, L9, X9, hQ9, c9⟩ := kspec X4 hx hZ hown (w137 hw) (w138 hw) (w98 hw) (w140 hw) (rm_biJ l Z a0 hw [] b4 i_ h4 n0 o5 A4 (show Fld Z h4 b4 nm10 "value" "J" (.long (0 : Int64)) from D4 (Or.inr (w144 hw)) (ty := .long) (by decide)) g4) e4 c8 hml pd_pJrV b4 [(.long i_)] [(rr b4)] 1 (hb hby d37_36) rfl rfl rfl rfl rfl rfl
  obtain ⟨rfl, N10q, K11, p12⟩ := hQ9
  have N10 := Fr.app N0 N10q
  have o13 := o5.keep K11 (allS g4 all0)
  have kp14 := kp6.trans K11 (allS (Or.inr z7) all0)
  obtain ⟨fs, hr, hrun, hended, hW, hsame⟩ := X9.leave (v := some (rr b4)) (fun h => by rw [Bd.returns] at h; cases h)
  refine ⟨_, _, c9 _ ?_, hrun, hended, _, _, rfl, ?_, ⟨_, rfl⟩, hW, hsame.mono (by decide) (by decide)⟩
  ·show S_ p e below T9 m 39 #[vj i_, .second, vi 128] [(rr b4)] _
   exact retOut X9 hx Bd.returns rfl (Or.inr (Or.inr (Or.inr (Or.inr ⟨rfl, rfl, rfl⟩)))) (hb hby d37_39) hr
  ·show Q_voJ Z i_ ca_ cc_ h0 n0 _ T9.heap _
   exact ⟨b4, rfl, N10, kp14, p12⟩
 ·have c15 : Kt p e below s₁ st0 (mkF m 17 #[vj i_, .second, vi 128] [(.int (lcmpW i_ (127 : Int64)))]) := fun t k => by
   refine c1 t ?_
   show S_ p e below s₁ m 9 #[vj i_, .second, vi 128] [(.int (lcmpW i_ (-128 : Int64)))] t
   refine XS.ifNo X0.here hx rfl (hb hby d37_9) rfl ((if0 _ _).trans (flt hc2).1) ?_
   refine XS.lloadN X0.here hx rfl (hb hby d37_12) rfl ?_
   show S_ p e below s₁ m 13 #[vj i_, .second, vi 128] [(.long i_)] t
   refine X0.ldc2Long hx hown (mvT hZ (w101 hw)) (g := (mkF m 13 #[vj i_, .second, vi 128] [(.long i_)])) rfl (hb hby d37_13) _ ?_
   refine XS.lcmp X0.here hx rfl (hb hby d37_16) rfl ?_
   exact k
  by_cases hc16 : (0 : Int32) < (lcmpW i_ (127 : Int64))
  ·have c17 : Kt p e below s₁ st0 (mkF m 31 #[vj i_, .second, vi 128] []) := fun t k => by
    refine c15 t ?_
    show S_ p e below s₁ m 17 #[vj i_, .second, vi 128] [(.int (lcmpW i_ (127 : Int64)))] t
    refine yI X0.here hx rfl 17 31 rfl (hb hby d37_17) rfl ((if0 _ _).trans (tlt hc16).2.2.1) ?_
    exact k
   obtain ⟨b18, T18, h18, z18, g18, X18, e18, E18, o19, A18, D18, U18, c18⟩ := knew X0 hx hZ hown (w135 hw) (w136 hw) (w98 hw) e0 c17 rfl (hb hby d37_31) (by decide) (by decide) O0
   have kp20 := kp0.ext E18
   have z21 := Nat.le_trans kp0.1 z18
   have c22 : Kt p e below T18 st0 (mkF m 36 #[vj i_, .second, vi 128] [(.long i_), (rr b18), (rr b18)]) := fun t k => by
    refine c18 t ?_
    show S_ p e below T18 m 34 #[vj i_, .second, vi 128] [(rr b18)] t
    refine XS.dup X18.here hx rfl (hb hby d37_34) rfl rfl ?_
    refine XS.lloadN X18.here hx rfl (hb hby d37_35) rfl ?_
    exact k
   obtain ⟨_, T23, L23, X23, hQ23, c23⟩ := kspec X18 hx hZ hown (w137 hw) (w138 hw) (w98 hw) (w140 hw) (rm_biJ l Z a0 hw [] b18 i_ h18 n0 o19 A18 (show Fld Z h18 b18 nm10 "value" "J" (.long (0 : Int64)) from D18 (Or.inr (w144 hw)) (ty := .long) (by decide)) g18) e18 c22 hml pd_pJrV b18 [(.long i_)] [(rr b18)] 1 (hb hby d37_36) rfl rfl rfl rfl rfl rfl
   obtain ⟨rfl, N24q, K25, p26⟩ := hQ23
   have N24 := Fr.app N0 N24q
   have o27 := o19.keep K25 (allS g18 all0)
   have kp28 := kp20.trans K25 (allS (Or.inr z21) all0)
   obtain ⟨fs, hr, hrun, hended, hW, hsame⟩ := X23.leave (v := some (rr b18)) (fun h => by rw [Bd.returns] at h; cases h)
   refine ⟨_, _, c23 _ ?_, hrun, hended, _, _, rfl, ?_, ⟨_, rfl⟩, hW, hsame.mono (by decide) (by decide)⟩
   ·show S_ p e below T23 m 39 #[vj i_, .second, vi 128] [(rr b18)] _
    exact retOut X23 hx Bd.returns rfl (Or.inr (Or.inr (Or.inr (Or.inr ⟨rfl, rfl, rfl⟩)))) (hb hby d37_39) hr
   ·show Q_voJ Z i_ ca_ cc_ h0 n0 _ T23.heap _
    exact ⟨b18, rfl, N24, kp28, p26⟩
  ·have c29 : Kt p e below s₁ st0 (mkF m 20 #[vj i_, .second, vi 128] []) := fun t k => by
    refine c15 t ?_
    show S_ p e below s₁ m 17 #[vj i_, .second, vi 128] [(.int (lcmpW i_ (127 : Int64)))] t
    refine XS.ifNo X0.here hx rfl (hb hby d37_17) rfl ((if0 _ _).trans (flt hc16).2.2.1) ?_
    exact k
   obtain ⟨T30, X30, e30, c30⟩ := kgetS X0 hx hZ hown (host := "") (Or.inl (w102 hw)) Via.refl e0 (ZS0_.ext O0.2) c29 rfl (hb hby d37_20)
   have c32 : Kt p e below T30 st0 (mkF m 29 #[vj i_, .second, vi 128] [(.int ((i_.toInt32) + (128 : Int32))), (rr ca_)]) := fun t k => by
    refine c30 t ?_
    show S_ p e below T30 m 23 #[vj i_, .second, vi 128] [(rr ca_)] t
    refine XS.lloadN X30.here hx rfl (hb hby d37_23) rfl ?_
    refine XS.l2i X30.here hx rfl (hb hby d37_24) rfl ?_
    refine XS.sipush X30.here hx rfl (hb hby d37_25) ?_
    refine XS.iadd X30.here hx rfl (hb hby d37_28) rfl ?_
    exact k
   obtain ⟨b31, eb31, fb31, c31⟩ := kbox X30 hx hZ e30 O0 hbx_ (j := ((i_.toInt32) + (128 : Int32))) (own_addJ _ hc2 hc16).1 (own_addJ _ hc2 hc16).2 c32 rfl rfl (hb hby d37_29)
   obtain ⟨fs, hr, hrun, hended, hW, hsame⟩ := X30.leave (v := some (rr b31)) (fun h => by rw [Bd.returns] at h; cases h)
   refine ⟨_, _, c31 _ ?_, hrun, hended, _, _, rfl, ?_, ⟨_, rfl⟩, hW, hsame.mono (by decide) (by decide)⟩
   ·show S_ p e below T30 m 30 #[vj i_, .second, vi 128] [(rr b31)] _
    exact retOut X30 hx Bd.returns rfl (Or.inr (Or.inr (Or.inr (Or.inr ⟨rfl, rfl, rfl⟩)))) (hb hby d37_30) hr
   ·show Q_voJ Z i_ ca_ cc_ h0 n0 _ T30.heap _
    rw [e30]
    exact ⟨b31, rfl, N0, kp0, (eb31.ext O0.2)⟩
theorem pn_com_example_gjallar_gjallar_messages_CoercionsIsDecimalTextPinLaw : plainName nm2 = true := by first | (simp [plainName, overriddenIn]; done) | decide +kernel
theorem d38_0 : decode method_2_code 0 = .ok (.iload_n 0, 1) := by decide +kernel
theorem d38_1 : decode method_2_code 1 = .ok (.bipush 16, 2) := by decide +kernel
theorem d38_3 : decode method_2_code 3 = .ok (.iushr, 1) := by decide +kernel
theorem d38_4 : decode method_2_code 4 = .ok (.bipush 7, 2) := by decide +kernel
theorem d38_6 : decode method_2_code 6 = .ok (.iand, 1) := by decide +kernel
theorem d38_7 : decode method_2_code 7 = .ok (.istore_n 1, 1) := by decide +kernel
theorem d38_8 : decode method_2_code 8 = .ok (.iload_n 1, 1) := by decide +kernel
theorem d38_9 : decode method_2_code 9 = .ok (.ifCond .ne 6, 3) := by decide +kernel
theorem d38_12 : decode method_2_code 12 = .ok (.bipush 46, 2) := by decide +kernel
theorem d38_14 : decode method_2_code 14 = .ok (.ireturn, 1) := by decide +kernel
theorem d38_15 : decode method_2_code 15 = .ok (.iload_n 1, 1) := by decide +kernel
theorem d38_16 : decode method_2_code 16 = .ok (.iconst 1, 1) := by decide +kernel
theorem d38_17 : decode method_2_code 17 = .ok (.if_icmp .ne 6, 3) := by decide +kernel
theorem d38_20 : decode method_2_code 20 = .ok (.bipush 101, 2) := by decide +kernel
theorem d38_22 : decode method_2_code 22 = .ok (.ireturn, 1) := by decide +kernel
theorem d38_23 : decode method_2_code 23 = .ok (.iload_n 1, 1) := by decide +kernel
theorem d38_24 : decode method_2_code 24 = .ok (.iconst 2, 1) := by decide +kernel
theorem d38_25 : decode method_2_code 25 = .ok (.if_icmp .ne 6, 3) := by decide +kernel
theorem d38_28 : decode method_2_code 28 = .ok (.bipush 69, 2) := by decide +kernel
theorem d38_30 : decode method_2_code 30 = .ok (.ireturn, 1) := by decide +kernel
theorem d38_31 : decode method_2_code 31 = .ok (.iload_n 0, 1) := by decide +kernel
theorem d38_32 : decode method_2_code 32 = .ok (.ldc 7, 2) := by decide +kernel
theorem d38_34 : decode method_2_code 34 = .ok (.iand, 1) := by decide +kernel
theorem d38_35 : decode method_2_code 35 = .ok (.i2c, 1) := by decide +kernel
theorem d38_36 : decode method_2_code 36 = .ok (.ireturn, 1) := by decide +kernel
theorem ef_pick (m : MethodId) (x_ : Int32) : entryFrame m #[(.int x_)] 2 = mkF m 0 #[vi x_, u_] [] := by first | (simp [entryFrame, mkF, argsToLocals, Value.category]; done) | rfl
def Q_pick (Z : State) (x_ : Int32) (h0 : Heap) (n0 : Nat) (v : Option Value) (h : Heap) (L : List Loc) : Prop := ∃ (c_ : Int32), v = some (.int c_) ∧ Fr n0 L ∧ h = h0 ∧ nar .char c_ = c_
set_option maxRecDepth 65536 in
set_option maxHeartbeats 40000000 in
theorem rm_pick (l : Launch) (Z : State) (a0 : Array Value) (hw : HW Z a0) (ws : List Jvm.Cond) (x_ : Int32) (h0 : Heap) (n0 : Nat) (O0 : Old Z n0 h0) :
  MFP l Z (⟨nm2, "pick", "(I)C"⟩ : MethodName) method_2_code 2 (some .char) ({ frames := 0, cells := 0, slots := 0, locals := 0 } : Room) ws #[(.int x_)] h0 (Q_pick Z x_ h0 n0) := by
 refine MetFree.of_bodySF (plainFor_of_name pn_com_example_gjallar_gjallar_messages_CoercionsIsDecimalTextPinLaw) hisR ?_
 intro p e s m args below meth c s₁ Bd hml0 hP hK
 obtain ⟨rfl, hZ, hh⟩ := hP
 have hx := Bd.exec
 have hby := Bd.bytes
 have hml : c.maxLocals = 2 := hml0
 have hown : s.vm.findClass nm2 = some m.cls := findClass_of_methodNamed Bd.named
 have hnm := (name_of_methodNamed Bd.named Bd.method).1
 have X0 : Stand p l e ({ frames := 0, cells := 0, slots := 0, locals := 0 } : Room) s m #[(.int x_)] below meth c s₁ [] 0 0 := Stand.of_body Bd
 have e0 : s₁.heap = h0 := by rw [← hh, Bd.state]; rfl
 have N0 := Fr.nil n0
 have kp0 : Keep h0 h0 [] := Keep.refl _ _
 have c0 : ∀ t, S_ p e below s₁ m 0 #[vi x_, u_] [] t → Steps p.tables e below (s₁.setTop (entryFrame m #[(.int x_)] 2)) t := fun t k => castTop (ef_pick m x_) k
 generalize s₁.setTop (entryFrame m #[(.int x_)] 2) = st0 at c0 ⊢
 replace c0 : Kt p e below s₁ st0 (mkF m 0 #[vi x_, u_] []) := c0
 have c1 : Kt p e below s₁ st0 (mkF m 9 #[vi x_, .val (.int (((x_.toUInt32 >>> ((16 : Int32) &&& 31).toUInt32).toInt32) &&& (7 : Int32)))] [(.int (((x_.toUInt32 >>> ((16 : Int32) &&& 31).toUInt32).toInt32) &&& (7 : Int32)))]) := fun t k => by
  refine c0 t ?_
  show S_ p e below s₁ m 0 #[vi x_, u_] [] t
  refine XS.iloadN X0.here hx rfl (hb hby d38_0) rfl ?_
  refine XS.bipush X0.here hx rfl (hb hby d38_1) ?_
  refine XS.iushr X0.here hx rfl (hb hby d38_3) rfl ?_
  refine XS.bipush X0.here hx rfl (hb hby d38_4) ?_
  refine XS.iand X0.here hx rfl (hb hby d38_6) rfl ?_
  refine XS.istoreN X0.here hx rfl (hb hby d38_7) rfl (l' := #[vi x_, .val (.int (((x_.toUInt32 >>> ((16 : Int32) &&& 31).toUInt32).toInt32) &&& (7 : Int32)))]) rfl ?_
  refine XS.iloadN X0.here hx rfl (hb hby d38_8) rfl ?_
  exact k
 by_cases hc2 : (((x_.toUInt32 >>> ((16 : Int32) &&& 31).toUInt32).toInt32) &&& (7 : Int32)) = (0 : Int32)
 ·obtain ⟨fs, hr, hrun, hended, hW, hsame⟩ := X0.leave (v := some (ii 46)) (fun h => by rw [Bd.returns] at h; cases h)
  refine ⟨_, _, c1 _ ?_, hrun, hended, _, _, rfl, ?_, ⟨_, rfl⟩, hW, hsame.mono (by decide) (by decide)⟩
  ·show S_ p e below s₁ m 9 #[vi x_, .val (.int (((x_.toUInt32 >>> ((16 : Int32) &&& 31).toUInt32).toInt32) &&& (7 : Int32)))] [(.int (((x_.toUInt32 >>> ((16 : Int32) &&& 31).toUInt32).toInt32) &&& (7 : Int32)))] _
   refine XS.ifNo X0.here hx rfl (hb hby d38_9) rfl ((if0 _ _).trans (teq hc2).2) ?_
   refine XS.bipush X0.here hx rfl (hb hby d38_12) ?_
   show S_ p e below s₁ m 14 #[vi x_, .val (.int (((x_.toUInt32 >>> ((16 : Int32) &&& 31).toUInt32).toInt32) &&& (7 : Int32)))] [(ii 46)] _
   exact retN X0 hx (t := .char) Bd.returns (by simp) (hb hby d38_14) hr
  ·show Q_pick Z x_ h0 n0 _ s₁.heap _
   rw [e0]
   exact ⟨(46 : Int32), rfl, N0, rfl, (by decide)⟩
 ·have c3 : Kt p e below s₁ st0 (mkF m 17 #[vi x_, .val (.int (((x_.toUInt32 >>> ((16 : Int32) &&& 31).toUInt32).toInt32) &&& (7 : Int32)))] [(ii 1), (.int (((x_.toUInt32 >>> ((16 : Int32) &&& 31).toUInt32).toInt32) &&& (7 : Int32)))]) := fun t k => by
   refine c1 t ?_
   show S_ p e below s₁ m 9 #[vi x_, .val (.int (((x_.toUInt32 >>> ((16 : Int32) &&& 31).toUInt32).toInt32) &&& (7 : Int32)))] [(.int (((x_.toUInt32 >>> ((16 : Int32) &&& 31).toUInt32).toInt32) &&& (7 : Int32)))] t
   refine yI X0.here hx rfl 9 15 rfl (hb hby d38_9) rfl ((if0 _ _).trans (feq hc2).2) ?_
   refine XS.iloadN X0.here hx rfl (hb hby d38_15) rfl ?_
   refine XS.iconst X0.here hx rfl (hb hby d38_16) ?_
   exact k
  by_cases hc4 : (((x_.toUInt32 >>> ((16 : Int32) &&& 31).toUInt32).toInt32) &&& (7 : Int32)) = (1 : Int32)
  ·obtain ⟨fs, hr, hrun, hended, hW, hsame⟩ := X0.leave (v := some (ii 101)) (fun h => by rw [Bd.returns] at h; cases h)
   refine ⟨_, _, c3 _ ?_, hrun, hended, _, _, rfl, ?_, ⟨_, rfl⟩, hW, hsame.mono (by decide) (by decide)⟩
   ·show S_ p e below s₁ m 17 #[vi x_, .val (.int (((x_.toUInt32 >>> ((16 : Int32) &&& 31).toUInt32).toInt32) &&& (7 : Int32)))] [(ii 1), (.int (((x_.toUInt32 >>> ((16 : Int32) &&& 31).toUInt32).toInt32) &&& (7 : Int32)))] _
    refine XS.icmpNo X0.here hx rfl (hb hby d38_17) rfl (teq hc4).2 ?_
    refine XS.bipush X0.here hx rfl (hb hby d38_20) ?_
    show S_ p e below s₁ m 22 #[vi x_, .val (.int (((x_.toUInt32 >>> ((16 : Int32) &&& 31).toUInt32).toInt32) &&& (7 : Int32)))] [(ii 101)] _
    exact retN X0 hx (t := .char) Bd.returns (by simp) (hb hby d38_22) hr
   ·show Q_pick Z x_ h0 n0 _ s₁.heap _
    rw [e0]
    exact ⟨(101 : Int32), rfl, N0, rfl, (by decide)⟩
  ·have c5 : Kt p e below s₁ st0 (mkF m 25 #[vi x_, .val (.int (((x_.toUInt32 >>> ((16 : Int32) &&& 31).toUInt32).toInt32) &&& (7 : Int32)))] [(ii 2), (.int (((x_.toUInt32 >>> ((16 : Int32) &&& 31).toUInt32).toInt32) &&& (7 : Int32)))]) := fun t k => by
    refine c3 t ?_
    show S_ p e below s₁ m 17 #[vi x_, .val (.int (((x_.toUInt32 >>> ((16 : Int32) &&& 31).toUInt32).toInt32) &&& (7 : Int32)))] [(ii 1), (.int (((x_.toUInt32 >>> ((16 : Int32) &&& 31).toUInt32).toInt32) &&& (7 : Int32)))] t
    refine yC X0.here hx rfl 17 23 rfl (hb hby d38_17) rfl (feq hc4).2 ?_
    refine XS.iloadN X0.here hx rfl (hb hby d38_23) rfl ?_
    refine XS.iconst X0.here hx rfl (hb hby d38_24) ?_
    exact k
   by_cases hc6 : (((x_.toUInt32 >>> ((16 : Int32) &&& 31).toUInt32).toInt32) &&& (7 : Int32)) = (2 : Int32)
   ·obtain ⟨fs, hr, hrun, hended, hW, hsame⟩ := X0.leave (v := some (ii 69)) (fun h => by rw [Bd.returns] at h; cases h)
    refine ⟨_, _, c5 _ ?_, hrun, hended, _, _, rfl, ?_, ⟨_, rfl⟩, hW, hsame.mono (by decide) (by decide)⟩
    ·show S_ p e below s₁ m 25 #[vi x_, .val (.int (((x_.toUInt32 >>> ((16 : Int32) &&& 31).toUInt32).toInt32) &&& (7 : Int32)))] [(ii 2), (.int (((x_.toUInt32 >>> ((16 : Int32) &&& 31).toUInt32).toInt32) &&& (7 : Int32)))] _
     refine XS.icmpNo X0.here hx rfl (hb hby d38_25) rfl (teq hc6).2 ?_
     refine XS.bipush X0.here hx rfl (hb hby d38_28) ?_
     show S_ p e below s₁ m 30 #[vi x_, .val (.int (((x_.toUInt32 >>> ((16 : Int32) &&& 31).toUInt32).toInt32) &&& (7 : Int32)))] [(ii 69)] _
     exact retN X0 hx (t := .char) Bd.returns (by simp) (hb hby d38_30) hr
    ·show Q_pick Z x_ h0 n0 _ s₁.heap _
     rw [e0]
     exact ⟨(69 : Int32), rfl, N0, rfl, (by decide)⟩
   ·obtain ⟨fs, hr, hrun, hended, hW, hsame⟩ := X0.leave (v := some (.int (nar .char ((x_ &&& (65535 : Int32)).toUInt32.toUInt16.toUInt32.toInt32)))) (fun h => by rw [Bd.returns] at h; cases h)
    refine ⟨_, _, c5 _ ?_, hrun, hended, _, _, rfl, ?_, ⟨_, rfl⟩, hW, hsame.mono (by decide) (by decide)⟩
    ·show S_ p e below s₁ m 25 #[vi x_, .val (.int (((x_.toUInt32 >>> ((16 : Int32) &&& 31).toUInt32).toInt32) &&& (7 : Int32)))] [(ii 2), (.int (((x_.toUInt32 >>> ((16 : Int32) &&& 31).toUInt32).toInt32) &&& (7 : Int32)))] _
     refine yC X0.here hx rfl 25 31 rfl (hb hby d38_25) rfl (feq hc6).2 ?_
     refine XS.iloadN X0.here hx rfl (hb hby d38_31) rfl ?_
     show S_ p e below s₁ m 32 #[vi x_, .val (.int (((x_.toUInt32 >>> ((16 : Int32) &&& 31).toUInt32).toInt32) &&& (7 : Int32)))] [(.int x_)] _
     refine X0.ldcInt hx hown (mvT hZ (w105 hw)) (g := (mkF m 32 #[vi x_, .val (.int (((x_.toUInt32 >>> ((16 : Int32) &&& 31).toUInt32).toInt32) &&& (7 : Int32)))] [(.int x_)])) rfl (hb hby d38_32) _ ?_
     refine XS.iand X0.here hx rfl (hb hby d38_34) rfl ?_
     refine XS.i2c X0.here hx rfl (hb hby d38_35) rfl ?_
     show S_ p e below s₁ m 36 #[vi x_, .val (.int (((x_.toUInt32 >>> ((16 : Int32) &&& 31).toUInt32).toInt32) &&& (7 : Int32)))] [(.int ((x_ &&& (65535 : Int32)).toUInt32.toUInt16.toUInt32.toInt32))] _
     exact retN X0 hx (t := .char) Bd.returns (by simp) (hb hby d38_36) hr
    ·show Q_pick Z x_ h0 n0 _ s₁.heap _
     rw [e0]
     exact ⟨(nar .char ((x_ &&& (65535 : Int32)).toUInt32.toUInt16.toUInt32.toInt32)), rfl, N0, rfl, (own_ncc _)⟩
theorem d39_0 : decode method_3_code 0 = .ok (.iload_n 0, 1) := by decide +kernel
theorem d39_1 : decode method_3_code 1 = .ok (.bipush 46, 2) := by decide +kernel
theorem d39_3 : decode method_3_code 3 = .ok (.if_icmp .eq 15, 3) := by decide +kernel
theorem d39_18 : decode method_3_code 18 = .ok (.iconst 1, 1) := by decide +kernel
theorem d39_19 : decode method_3_code 19 = .ok (.goto 4, 3) := by decide +kernel
theorem d39_23 : decode method_3_code 23 = .ok (.ireturn, 1) := by decide +kernel
theorem d39_6 : decode method_3_code 6 = .ok (.iload_n 0, 1) := by decide +kernel
theorem d39_7 : decode method_3_code 7 = .ok (.bipush 101, 2) := by decide +kernel
theorem d39_9 : decode method_3_code 9 = .ok (.if_icmp .eq 9, 3) := by decide +kernel
theorem d39_12 : decode method_3_code 12 = .ok (.iload_n 0, 1) := by decide +kernel
theorem d39_13 : decode method_3_code 13 = .ok (.bipush 69, 2) := by decide +kernel
theorem d39_15 : decode method_3_code 15 = .ok (.if_icmp .ne 7, 3) := by decide +kernel
theorem d39_22 : decode method_3_code 22 = .ok (.iconst 0, 1) := by decide +kernel
theorem ef_mark (m : MethodId) (c_ : Int32) : entryFrame m #[(.int c_)] 1 = mkF m 0 #[vi c_] [] := by first | (simp [entryFrame, mkF, argsToLocals, Value.category]; done) | rfl
def Q_mark (Z : State) (c_ : Int32) (h0 : Heap) (n0 : Nat) (v : Option Value) (h : Heap) (L : List Loc) : Prop := (v = some (ii 1) ∧ Fr n0 L ∧ h = h0 ∧ own_mk c_) ∨ (v = some (ii 0) ∧ Fr n0 L ∧ h = h0 ∧ ¬ (own_mk c_))
set_option maxRecDepth 65536 in
set_option maxHeartbeats 40000000 in
theorem rm_mark (l : Launch) (Z : State) (a0 : Array Value) (hw : HW Z a0) (ws : List Jvm.Cond) (c_ : Int32) (h0 : Heap) (n0 : Nat) (O0 : Old Z n0 h0) :
  MFP l Z (⟨nm2, "mark", "(C)Z"⟩ : MethodName) method_3_code 1 (some .boolean) ({ frames := 0, cells := 0, slots := 0, locals := 0 } : Room) ws #[(.int c_)] h0 (Q_mark Z c_ h0 n0) := by
 refine MetFree.of_bodySF (plainFor_of_name pn_com_example_gjallar_gjallar_messages_CoercionsIsDecimalTextPinLaw) hisR ?_
 intro p e s m args below meth c s₁ Bd hml0 hP hK
 obtain ⟨rfl, hZ, hh⟩ := hP
 have hx := Bd.exec
 have hby := Bd.bytes
 have hml : c.maxLocals = 1 := hml0
 have hown : s.vm.findClass nm2 = some m.cls := findClass_of_methodNamed Bd.named
 have hnm := (name_of_methodNamed Bd.named Bd.method).1
 have X0 : Stand p l e ({ frames := 0, cells := 0, slots := 0, locals := 0 } : Room) s m #[(.int c_)] below meth c s₁ [] 0 0 := Stand.of_body Bd
 have e0 : s₁.heap = h0 := by rw [← hh, Bd.state]; rfl
 have N0 := Fr.nil n0
 have kp0 : Keep h0 h0 [] := Keep.refl _ _
 have c0 : ∀ t, S_ p e below s₁ m 0 #[vi c_] [] t → Steps p.tables e below (s₁.setTop (entryFrame m #[(.int c_)] 1)) t := fun t k => castTop (ef_mark m c_) k
 generalize s₁.setTop (entryFrame m #[(.int c_)] 1) = st0 at c0 ⊢
 replace c0 : Kt p e below s₁ st0 (mkF m 0 #[vi c_] []) := c0
 have c1 : Kt p e below s₁ st0 (mkF m 3 #[vi c_] [(ii 46), (.int c_)]) := fun t k => by
  refine c0 t ?_
  show S_ p e below s₁ m 0 #[vi c_] [] t
  refine XS.iloadN X0.here hx rfl (hb hby d39_0) rfl ?_
  refine XS.bipush X0.here hx rfl (hb hby d39_1) ?_
  exact k
 by_cases hc2 : c_ = (46 : Int32)
 ·obtain ⟨fs, hr, hrun, hended, hW, hsame⟩ := X0.leave (v := some (ii 1)) (fun h => by rw [Bd.returns] at h; cases h)
  refine ⟨_, _, c1 _ ?_, hrun, hended, _, _, rfl, ?_, ⟨_, rfl⟩, hW, hsame.mono (by decide) (by decide)⟩
  ·show S_ p e below s₁ m 3 #[vi c_] [(ii 46), (.int c_)] _
   refine yC X0.here hx rfl 3 18 rfl (hb hby d39_3) rfl (teq hc2).1 ?_
   refine XS.iconst X0.here hx rfl (hb hby d39_18) ?_
   refine yG X0.here hx rfl 19 23 rfl (hb hby d39_19) ?_
   show S_ p e below s₁ m 23 #[vi c_] [(ii 1)] _
   exact retN X0 hx (t := .boolean) Bd.returns (by simp) (hb hby d39_23) hr
  ·show Q_mark Z c_ h0 n0 _ s₁.heap _
   rw [e0]
   exact (Or.inl ⟨rfl, N0, rfl, (Or.inl hc2)⟩)
 ·have c3 : Kt p e below s₁ st0 (mkF m 9 #[vi c_] [(ii 101), (.int c_)]) := fun t k => by
   refine c1 t ?_
   show S_ p e below s₁ m 3 #[vi c_] [(ii 46), (.int c_)] t
   refine XS.icmpNo X0.here hx rfl (hb hby d39_3) rfl (feq hc2).1 ?_
   refine XS.iloadN X0.here hx rfl (hb hby d39_6) rfl ?_
   refine XS.bipush X0.here hx rfl (hb hby d39_7) ?_
   exact k
  by_cases hc4 : c_ = (101 : Int32)
  ·obtain ⟨fs, hr, hrun, hended, hW, hsame⟩ := X0.leave (v := some (ii 1)) (fun h => by rw [Bd.returns] at h; cases h)
   refine ⟨_, _, c3 _ ?_, hrun, hended, _, _, rfl, ?_, ⟨_, rfl⟩, hW, hsame.mono (by decide) (by decide)⟩
   ·show S_ p e below s₁ m 9 #[vi c_] [(ii 101), (.int c_)] _
    refine yC X0.here hx rfl 9 18 rfl (hb hby d39_9) rfl (teq hc4).1 ?_
    refine XS.iconst X0.here hx rfl (hb hby d39_18) ?_
    refine yG X0.here hx rfl 19 23 rfl (hb hby d39_19) ?_
    show S_ p e below s₁ m 23 #[vi c_] [(ii 1)] _
    exact retN X0 hx (t := .boolean) Bd.returns (by simp) (hb hby d39_23) hr
   ·show Q_mark Z c_ h0 n0 _ s₁.heap _
    rw [e0]
    exact (Or.inl ⟨rfl, N0, rfl, (Or.inr (Or.inl hc4))⟩)
  ·have c5 : Kt p e below s₁ st0 (mkF m 15 #[vi c_] [(ii 69), (.int c_)]) := fun t k => by
    refine c3 t ?_
    show S_ p e below s₁ m 9 #[vi c_] [(ii 101), (.int c_)] t
    refine XS.icmpNo X0.here hx rfl (hb hby d39_9) rfl (feq hc4).1 ?_
    refine XS.iloadN X0.here hx rfl (hb hby d39_12) rfl ?_
    refine XS.bipush X0.here hx rfl (hb hby d39_13) ?_
    exact k
   by_cases hc6 : c_ = (69 : Int32)
   ·obtain ⟨fs, hr, hrun, hended, hW, hsame⟩ := X0.leave (v := some (ii 1)) (fun h => by rw [Bd.returns] at h; cases h)
    refine ⟨_, _, c5 _ ?_, hrun, hended, _, _, rfl, ?_, ⟨_, rfl⟩, hW, hsame.mono (by decide) (by decide)⟩
    ·show S_ p e below s₁ m 15 #[vi c_] [(ii 69), (.int c_)] _
     refine XS.icmpNo X0.here hx rfl (hb hby d39_15) rfl (teq hc6).2 ?_
     refine XS.iconst X0.here hx rfl (hb hby d39_18) ?_
     refine yG X0.here hx rfl 19 23 rfl (hb hby d39_19) ?_
     show S_ p e below s₁ m 23 #[vi c_] [(ii 1)] _
     exact retN X0 hx (t := .boolean) Bd.returns (by simp) (hb hby d39_23) hr
    ·show Q_mark Z c_ h0 n0 _ s₁.heap _
     rw [e0]
     exact (Or.inl ⟨rfl, N0, rfl, (Or.inr (Or.inr (hc6)))⟩)
   ·obtain ⟨fs, hr, hrun, hended, hW, hsame⟩ := X0.leave (v := some (ii 0)) (fun h => by rw [Bd.returns] at h; cases h)
    refine ⟨_, _, c5 _ ?_, hrun, hended, _, _, rfl, ?_, ⟨_, rfl⟩, hW, hsame.mono (by decide) (by decide)⟩
    ·show S_ p e below s₁ m 15 #[vi c_] [(ii 69), (.int c_)] _
     refine yC X0.here hx rfl 15 22 rfl (hb hby d39_15) rfl (feq hc6).2 ?_
     refine XS.iconst X0.here hx rfl (hb hby d39_22) ?_
     show S_ p e below s₁ m 23 #[vi c_] [(ii 0)] _
     exact retN X0 hx (t := .boolean) Bd.returns (by simp) (hb hby d39_23) hr
    ·show Q_mark Z c_ h0 n0 _ s₁.heap _
     rw [e0]
     exact (Or.inr (⟨rfl, N0, rfl, (fun q => Or.elim q hc2 (fun q => Or.elim q hc4 hc6))⟩))
theorem pd_pIrLjava_lang_Integer_ : parseMethodDescriptor "(I)Ljava/lang/Integer;" = some ⟨[.int], some (.object nm8)⟩ := by decide +kernel
theorem pd_pLjava_lang_Object_rZ : parseMethodDescriptor "(Ljava/lang/Object;)Z" = some ⟨[(.object "java/lang/Object")], some .boolean⟩ := by decide +kernel
theorem pd_pJrLjava_lang_Long_ : parseMethodDescriptor "(J)Ljava/lang/Long;" = some ⟨[.long], some (.object nm10)⟩ := by decide +kernel
theorem pd_pIrC : parseMethodDescriptor "(I)C" = some ⟨[.int], some .char⟩ := by decide +kernel
theorem pd_pACrV : parseMethodDescriptor "([C)V" = some ⟨[(.array .char)], none⟩ := by decide +kernel
theorem pd_pCrLjava_lang_String_ : parseMethodDescriptor "(C)Ljava/lang/String;" = some ⟨[.char], some (.object nm0)⟩ := by decide +kernel
theorem ef_law (m : MethodId) (k_ : Int32) (a_ : Int32) (b_ : Int32) (d_ : Int32) (n_ : Int64) : entryFrame m #[(.int k_), (.int a_), (.int b_), (.int d_), (.long n_)] maxLocals = mkF m 0 #[vi k_, vi a_, vi b_, vi d_, vj n_, .second, u_, u_, u_, u_, u_, u_, u_] [] := by first | (simp [entryFrame, mkF, argsToLocals, Value.category, maxLocals]; done) | rfl
def Q_law (Z : State) (k_ : Int32) (a_ : Int32) (b_ : Int32) (d_ : Int32) (n_ : Int64) (si1_ : Int32) (sa8_ : Addr) (sa13_ : Addr) (sv24_ : Value) (sc11_ : Cell) (sc16_ : Cell) (h0 : Heap) (n0 : Nat) (v : Option Value) (h : Heap) (L : List Loc) : Prop := v = some (ii 1) ∧ Fr n0 L ∧ Keep h0 h []
set_option maxRecDepth 65536 in
set_option maxHeartbeats 40000000 in
theorem rm_law (l : Launch) (Z : State) (a0 : Array Value) (hw : HW Z a0) (ws : List Jvm.Cond) (k_ : Int32) (a_ : Int32) (b_ : Int32) (d_ : Int32) (n_ : Int64) (si1_ : Int32) (sa8_ : Addr) (sa13_ : Addr) (sv24_ : Value) (sc11_ : Cell) (sc16_ : Cell) (h0 : Heap) (n0 : Nat) (O0 : Old Z n0 h0) (ZS0_ : Sta Z Z.heap nm0 "COMPACT_STRINGS" "Z" (.int si1_)) (sn4_ : ¬ (si1_ = (0 : Int32))) (ZS2_ : Sta Z Z.heap "java/lang/Integer$IntegerCache" "high" "I" (ii 127)) (ZS3_ : Sta Z Z.heap "java/lang/Integer$IntegerCache" "cache" "[Ljava/lang/Integer;" (rr sa8_)) (ZE4_ : Exa Z Z.heap sa8_ "[Ljava/lang/Integer;") (ZS5_ : Sta Z Z.heap "java/lang/Long$LongCache" "cache" "[Ljava/lang/Long;" (rr sa13_)) (ZE6_ : Exa Z Z.heap sa13_ "[Ljava/lang/Long;") (ZS7_ : Sta Z Z.heap nm1 "$assertionsDisabled" "Z" (ii 1)) (ZS8_ : Sta Z Z.heap nm1 "HI_BYTE_SHIFT" "I" (ii 0)) (ZS9_ : Sta Z Z.heap nm1 "LO_BYTE_SHIFT" "I" (ii 8)) (sv24_r : sv24_.isRef = true) (ZS11_ : Sta Z Z.heap nm4 "SIOOBE_FORMATTER" nm6 sv24_) (sb28_ : Bxs Z sa8_ sc11_ nm8 "I" (256 : Int32) (fun j => .int (j - (128 : Int32)))) (sb30_ : Bxs Z sa13_ sc16_ nm10 "J" (256 : Int32) (fun j => .long (j - (128 : Int32)).toInt64)) (hlit_ : Jvm.Lit.constHeld Z nm0 7) (hcw : Jvm.Lit.compactW.before a0 Z = true) :
  MFI l Z x code maxLocals ret room_1 ws #[(.int k_), (.int a_), (.int b_), (.int d_), (.long n_)] h0 (Q_law Z k_ a_ b_ d_ n_ si1_ sa8_ sa13_ sv24_ sc11_ sc16_ h0 n0) := by
 refine MetFree.of_bodySF (plainFor_of_name pn_com_example_gjallar_gjallar_messages_CoercionsIsDecimalTextPinLaw) hisR ?_
 intro p e s m args below meth c s₁ Bd hml0 hP hK
 obtain ⟨rfl, hZ, hh, hI⟩ := hP
 have hx := Bd.exec
 have hby := Bd.bytes
 have hml : c.maxLocals = 13 := hml0
 have hown : s.vm.findClass nm2 = some m.cls := findClass_of_methodNamed Bd.named
 have hnm := (name_of_methodNamed Bd.named Bd.method).1
 have X0 : Stand p l e room_1 (s.setVm s.vm) m #[(.int k_), (.int a_), (.int b_), (.int d_), (.long n_)] below meth c s₁ [] 0 0 := Stand.of_body Bd
 have e0 : s₁.heap = h0 := by rw [← hh, Bd.state]; rfl
 have N0 := Fr.nil n0
 have kp0 : Keep h0 h0 [] := Keep.refl _ _
 have hS0 : s.Since s.vm 0 := (State.WarmedH.refl s).since 0
 have c0 : ∀ t, S_ p e below s₁ m 0 #[vi k_, vi a_, vi b_, vi d_, vj n_, .second, u_, u_, u_, u_, u_, u_, u_] [] t → Steps p.tables e below (s₁.setTop (entryFrame m #[(.int k_), (.int a_), (.int b_), (.int d_), (.long n_)] maxLocals)) t := fun t k => castTop (ef_law m k_ a_ b_ d_ n_) k
 generalize s₁.setTop (entryFrame m #[(.int k_), (.int a_), (.int b_), (.int d_), (.long n_)] maxLocals) = st0 at c0 ⊢
 replace c0 : Kt p e below s₁ st0 (mkF m 0 #[vi k_, vi a_, vi b_, vi d_, vj n_, .second, u_, u_, u_, u_, u_, u_, u_] []) := c0
 have c1 : Kt p e below s₁ st0 (mkF m 15 #[vi k_, vi a_, vi b_, vi d_, vj n_, .second, .val (.int (k_ &&& (3 : Int32))), .val (.int (((k_.toUInt32 >>> ((2 : Int32) &&& 31).toUInt32).toInt32) &&& (3 : Int32))), u_, u_, u_, u_, u_] [(ii 2), (.int (((k_.toUInt32 >>> ((2 : Int32) &&& 31).toUInt32).toInt32) &&& (3 : Int32)))]) := fun t k => by
  refine c0 t ?_
  show S_ p e below s₁ m 0 #[vi k_, vi a_, vi b_, vi d_, vj n_, .second, u_, u_, u_, u_, u_, u_, u_] [] t
  refine XS.iloadN X0.here hx rfl (hb hby at_0) rfl ?_
  refine XS.iconst X0.here hx rfl (hb hby at_1) ?_
  refine XS.iand X0.here hx rfl (hb hby at_2) rfl ?_
  refine XS.istore X0.here hx rfl (hb hby at_3) rfl (l' := #[vi k_, vi a_, vi b_, vi d_, vj n_, .second, .val (.int (k_ &&& (3 : Int32))), u_, u_, u_, u_, u_, u_]) rfl ?_
  refine XS.iloadN X0.here hx rfl (hb hby at_5) rfl ?_
  refine XS.iconst X0.here hx rfl (hb hby at_6) ?_
  refine XS.iushr X0.here hx rfl (hb hby at_7) rfl ?_
  refine XS.iconst X0.here hx rfl (hb hby at_8) ?_
  show S_ p e below s₁ m 9 #[vi k_, vi a_, vi b_, vi d_, vj n_, .second, .val (.int (k_ &&& (3 : Int32))), u_, u_, u_, u_, u_, u_] [(ii 3), (.int ((k_.toUInt32 >>> ((2 : Int32) &&& 31).toUInt32).toInt32))] t
  refine XS.iand X0.here hx rfl (hb hby at_9) rfl ?_
  refine XS.istore X0.here hx rfl (hb hby at_10) rfl (l' := #[vi k_, vi a_, vi b_, vi d_, vj n_, .second, .val (.int (k_ &&& (3 : Int32))), .val (.int (((k_.toUInt32 >>> ((2 : Int32) &&& 31).toUInt32).toInt32) &&& (3 : Int32))), u_, u_, u_, u_, u_]) rfl ?_
  refine XS.iload X0.here hx rfl (hb hby at_12) rfl ?_
  refine XS.iconst X0.here hx rfl (hb hby at_14) ?_
  exact k
 by_cases hc2 : (((k_.toUInt32 >>> ((2 : Int32) &&& 31).toUInt32).toInt32) &&& (3 : Int32)) = (2 : Int32)
 ·have c3 : Kt p e below s₁ st0 (mkF m 23 #[vi k_, vi a_, vi b_, vi d_, vj n_, .second, .val (.int (k_ &&& (3 : Int32))), .val (.int (((k_.toUInt32 >>> ((2 : Int32) &&& 31).toUInt32).toInt32) &&& (3 : Int32))), u_, u_, u_, u_, u_] [(.int (((k_.toUInt32 >>> ((4 : Int32) &&& 31).toUInt32).toInt32) &&& (1 : Int32)))]) := fun t k => by
   refine c1 t ?_
   show S_ p e below s₁ m 15 #[vi k_, vi a_, vi b_, vi d_, vj n_, .second, .val (.int (k_ &&& (3 : Int32))), .val (.int (((k_.toUInt32 >>> ((2 : Int32) &&& 31).toUInt32).toInt32) &&& (3 : Int32))), u_, u_, u_, u_, u_] [(ii 2), (.int (((k_.toUInt32 >>> ((2 : Int32) &&& 31).toUInt32).toInt32) &&& (3 : Int32)))] t
   refine XS.icmpNo X0.here hx rfl (hb hby at_15) rfl (teq hc2).2 ?_
   refine XS.iloadN X0.here hx rfl (hb hby at_18) rfl ?_
   refine XS.iconst X0.here hx rfl (hb hby at_19) ?_
   refine XS.iushr X0.here hx rfl (hb hby at_20) rfl ?_
   refine XS.iconst X0.here hx rfl (hb hby at_21) ?_
   refine XS.iand X0.here hx rfl (hb hby at_22) rfl ?_
   exact k
  by_cases hc4 : (((k_.toUInt32 >>> ((4 : Int32) &&& 31).toUInt32).toInt32) &&& (1 : Int32)) = (0 : Int32)
  ·have c5 : Kt p e below s₁ st0 (mkF m 31 #[vi k_, vi a_, vi b_, vi d_, vj n_, .second, .val (.int (k_ &&& (3 : Int32))), .val (.int (((k_.toUInt32 >>> ((2 : Int32) &&& 31).toUInt32).toInt32) &&& (3 : Int32))), u_, u_, u_, u_, u_] [(.int a_)]) := fun t k => by
    refine c3 t ?_
    show S_ p e below s₁ m 23 #[vi k_, vi a_, vi b_, vi d_, vj n_, .second, .val (.int (k_ &&& (3 : Int32))), .val (.int (((k_.toUInt32 >>> ((2 : Int32) &&& 31).toUInt32).toInt32) &&& (3 : Int32))), u_, u_, u_, u_, u_] [(.int (((k_.toUInt32 >>> ((4 : Int32) &&& 31).toUInt32).toInt32) &&& (1 : Int32)))] t
    refine yI X0.here hx rfl 23 30 rfl (hb hby at_23) rfl ((if0 _ _).trans (teq hc4).1) ?_
    refine XS.iloadN X0.here hx rfl (hb hby at_30) rfl ?_
    exact k
   obtain ⟨_, T6, L6, X6, hQ6, c6⟩ := kstat X0 hx hZ hown (w71 hw) (w72 hw) (w73 hw) (w74 hw) (rm_voI l Z a0 hw [] a_ sa8_ sc11_ h0 n0 O0 ZS2_ ZS3_ sb28_) e0 c5 hml pd_pIrLjava_lang_Integer_ [(.int a_)] [] 0 (hb hby at_31) rfl rfl rfl rfl rfl rfl
   obtain ⟨b7, rfl, N8q, K9, p10⟩ := hQ6
   have N8 := Fr.app N0 N8q
   have o11 := O0.keep K9 all0
   have kp12 := kp0.trans K9 all0
   have c13 : Kt p e below T6 st0 (mkF m 38 #[vi k_, vi a_, vi b_, vi d_, vj n_, .second, .val (.int (k_ &&& (3 : Int32))), .val (.int (((k_.toUInt32 >>> ((2 : Int32) &&& 31).toUInt32).toInt32) &&& (3 : Int32))), vr b7, u_, u_, u_, u_] [(rr b7)]) := fun t k => by
    refine c6 t ?_
    show S_ p e below T6 m 34 #[vi k_, vi a_, vi b_, vi d_, vj n_, .second, .val (.int (k_ &&& (3 : Int32))), .val (.int (((k_.toUInt32 >>> ((2 : Int32) &&& 31).toUInt32).toInt32) &&& (3 : Int32))), u_, u_, u_, u_, u_] [(rr b7)] t
    refine XS.astore X6.here hx rfl (hb hby at_34) rfl rfl (l' := #[vi k_, vi a_, vi b_, vi d_, vj n_, .second, .val (.int (k_ &&& (3 : Int32))), .val (.int (((k_.toUInt32 >>> ((2 : Int32) &&& 31).toUInt32).toInt32) &&& (3 : Int32))), vr b7, u_, u_, u_, u_]) rfl ?_
    refine XS.aload X6.here hx rfl (hb hby at_36) rfl rfl ?_
    exact k
   obtain ⟨_, T14, L14, X14, hQ14, c14⟩ := kstat X6 hx hZ hown (w26 hw) (w27 hw) (w28 hw) (w29 hw) (rm_isdI l Z a0 hw [] b7 T6.heap n0 o11 p10) rfl c13 hml pd_pLjava_lang_Object_rZ [(rr b7)] [] 0 (hb hby at_38) rfl rfl rfl rfl rfl rfl
   obtain ⟨rfl, N15q, K16⟩ := hQ14
   have N15 := Fr.app N8 N15q
   obtain ⟨fs, hr, hrun, hended, hRW⟩ := X14.leaveW hS0 (by first | exact (Nat.le_trans (Nat.zero_le _) K9.1) | (rw [K16]; exact (Nat.le_trans (Nat.zero_le _) K9.1))) (v := some (ii 1)) (fun h => by rw [Bd.returns] at h; cases h)
   refine ⟨_, _, c14 _ ?_, hrun, hended, _, _, rfl, ?_, hRW.1, hRW.2.1, hRW.2.2.1, hRW.2.2.2.mono (by decide) (by decide)⟩
   ·show S_ p e below T14 m 41 #[vi k_, vi a_, vi b_, vi d_, vj n_, .second, .val (.int (k_ &&& (3 : Int32))), .val (.int (((k_.toUInt32 >>> ((2 : Int32) &&& 31).toUInt32).toInt32) &&& (3 : Int32))), vr b7, u_, u_, u_, u_] [(ii 0)] _
    refine XS.ifNo X14.here hx rfl (hb hby at_41) rfl rfl ?_
    refine XS.iconst X14.here hx rfl (hb hby at_44) ?_
    refine yG X14.here hx rfl 45 49 rfl (hb hby at_45) ?_
    show S_ p e below T14 m 49 #[vi k_, vi a_, vi b_, vi d_, vj n_, .second, .val (.int (k_ &&& (3 : Int32))), .val (.int (((k_.toUInt32 >>> ((2 : Int32) &&& 31).toUInt32).toInt32) &&& (3 : Int32))), vr b7, u_, u_, u_, u_] [(ii 1)] _
    exact retN X14 hx (t := .boolean) Bd.returns (by simp) (hb hby at_49) hr
   ·show Q_law Z k_ a_ b_ d_ n_ si1_ sa8_ sa13_ sv24_ sc11_ sc16_ h0 n0 _ T14.heap _
    rw [K16]
    exact ⟨rfl, N15, kp12⟩
  ·have c17 : Kt p e below s₁ st0 (mkF m 38 #[vi k_, vi a_, vi b_, vi d_, vj n_, .second, .val (.int (k_ &&& (3 : Int32))), .val (.int (((k_.toUInt32 >>> ((2 : Int32) &&& 31).toUInt32).toInt32) &&& (3 : Int32))), .val .null, u_, u_, u_, u_] [.null]) := fun t k => by
    refine c3 t ?_
    show S_ p e below s₁ m 23 #[vi k_, vi a_, vi b_, vi d_, vj n_, .second, .val (.int (k_ &&& (3 : Int32))), .val (.int (((k_.toUInt32 >>> ((2 : Int32) &&& 31).toUInt32).toInt32) &&& (3 : Int32))), u_, u_, u_, u_, u_] [(.int (((k_.toUInt32 >>> ((4 : Int32) &&& 31).toUInt32).toInt32) &&& (1 : Int32)))] t
    refine XS.ifNo X0.here hx rfl (hb hby at_23) rfl ((if0 _ _).trans (feq hc4).1) ?_
    refine XS.aconstNull X0.here hx rfl (hb hby at_26) ?_
    refine yG X0.here hx rfl 27 34 rfl (hb hby at_27) ?_
    refine XS.astore X0.here hx rfl (hb hby at_34) rfl rfl (l' := #[vi k_, vi a_, vi b_, vi d_, vj n_, .second, .val (.int (k_ &&& (3 : Int32))), .val (.int (((k_.toUInt32 >>> ((2 : Int32) &&& 31).toUInt32).toInt32) &&& (3 : Int32))), .val .null, u_, u_, u_, u_]) rfl ?_
    refine XS.aload X0.here hx rfl (hb hby at_36) rfl rfl ?_
    exact k
   obtain ⟨_, T18, L18, X18, hQ18, c18⟩ := kstat X0 hx hZ hown (w26 hw) (w27 hw) (w28 hw) (w29 hw) (rm_isdN l Z a0 hw []  h0 n0 O0 ) e0 c17 hml pd_pLjava_lang_Object_rZ [.null] [] 0 (hb hby at_38) rfl rfl rfl rfl rfl rfl
   obtain ⟨rfl, N19q, K20⟩ := hQ18
   have N19 := Fr.app N0 N19q
   obtain ⟨fs, hr, hrun, hended, hRW⟩ := X18.leaveW hS0 (by first | exact (Nat.zero_le _) | (rw [K20]; exact (Nat.zero_le _))) (v := some (ii 1)) (fun h => by rw [Bd.returns] at h; cases h)
   refine ⟨_, _, c18 _ ?_, hrun, hended, _, _, rfl, ?_, hRW.1, hRW.2.1, hRW.2.2.1, hRW.2.2.2.mono (by decide) (by decide)⟩
   ·show S_ p e below T18 m 41 #[vi k_, vi a_, vi b_, vi d_, vj n_, .second, .val (.int (k_ &&& (3 : Int32))), .val (.int (((k_.toUInt32 >>> ((2 : Int32) &&& 31).toUInt32).toInt32) &&& (3 : Int32))), .val .null, u_, u_, u_, u_] [(ii 0)] _
    refine XS.ifNo X18.here hx rfl (hb hby at_41) rfl rfl ?_
    refine XS.iconst X18.here hx rfl (hb hby at_44) ?_
    refine yG X18.here hx rfl 45 49 rfl (hb hby at_45) ?_
    show S_ p e below T18 m 49 #[vi k_, vi a_, vi b_, vi d_, vj n_, .second, .val (.int (k_ &&& (3 : Int32))), .val (.int (((k_.toUInt32 >>> ((2 : Int32) &&& 31).toUInt32).toInt32) &&& (3 : Int32))), .val .null, u_, u_, u_, u_] [(ii 1)] _
    exact retN X18 hx (t := .boolean) Bd.returns (by simp) (hb hby at_49) hr
   ·show Q_law Z k_ a_ b_ d_ n_ si1_ sa8_ sa13_ sv24_ sc11_ sc16_ h0 n0 _ T18.heap _
    rw [K20]
    exact ⟨rfl, N19, kp0⟩
 ·have c21 : Kt p e below s₁ st0 (mkF m 53 #[vi k_, vi a_, vi b_, vi d_, vj n_, .second, .val (.int (k_ &&& (3 : Int32))), .val (.int (((k_.toUInt32 >>> ((2 : Int32) &&& 31).toUInt32).toInt32) &&& (3 : Int32))), u_, u_, u_, u_, u_] [(ii 3), (.int (((k_.toUInt32 >>> ((2 : Int32) &&& 31).toUInt32).toInt32) &&& (3 : Int32)))]) := fun t k => by
   refine c1 t ?_
   show S_ p e below s₁ m 15 #[vi k_, vi a_, vi b_, vi d_, vj n_, .second, .val (.int (k_ &&& (3 : Int32))), .val (.int (((k_.toUInt32 >>> ((2 : Int32) &&& 31).toUInt32).toInt32) &&& (3 : Int32))), u_, u_, u_, u_, u_] [(ii 2), (.int (((k_.toUInt32 >>> ((2 : Int32) &&& 31).toUInt32).toInt32) &&& (3 : Int32)))] t
   refine yC X0.here hx rfl 15 50 rfl (hb hby at_15) rfl (feq hc2).2 ?_
   refine XS.iload X0.here hx rfl (hb hby at_50) rfl ?_
   refine XS.iconst X0.here hx rfl (hb hby at_52) ?_
   exact k
  by_cases hc22 : (((k_.toUInt32 >>> ((2 : Int32) &&& 31).toUInt32).toInt32) &&& (3 : Int32)) = (3 : Int32)
  ·have c23 : Kt p e below s₁ st0 (mkF m 58 #[vi k_, vi a_, vi b_, vi d_, vj n_, .second, .val (.int (k_ &&& (3 : Int32))), .val (.int (((k_.toUInt32 >>> ((2 : Int32) &&& 31).toUInt32).toInt32) &&& (3 : Int32))), u_, u_, u_, u_, u_] [(.long n_)]) := fun t k => by
    refine c21 t ?_
    show S_ p e below s₁ m 53 #[vi k_, vi a_, vi b_, vi d_, vj n_, .second, .val (.int (k_ &&& (3 : Int32))), .val (.int (((k_.toUInt32 >>> ((2 : Int32) &&& 31).toUInt32).toInt32) &&& (3 : Int32))), u_, u_, u_, u_, u_] [(ii 3), (.int (((k_.toUInt32 >>> ((2 : Int32) &&& 31).toUInt32).toInt32) &&& (3 : Int32)))] t
    refine XS.icmpNo X0.here hx rfl (hb hby at_53) rfl (teq hc22).2 ?_
    refine XS.lload X0.here hx rfl (hb hby at_56) rfl ?_
    exact k
   obtain ⟨_, T24, L24, X24, hQ24, c24⟩ := kstat X0 hx hZ hown (w96 hw) (w97 hw) (w98 hw) (w99 hw) (rm_voJ l Z a0 hw [] n_ sa13_ sc16_ h0 n0 O0 ZS5_ sb30_) e0 c23 hml pd_pJrLjava_lang_Long_ [(.long n_)] [] 0 (hb hby at_58) rfl rfl rfl rfl rfl rfl
   obtain ⟨b25, rfl, N26q, K27, p28⟩ := hQ24
   have N26 := Fr.app N0 N26q
   have o29 := O0.keep K27 all0
   have kp30 := kp0.trans K27 all0
   obtain ⟨_, T31, L31, X31, hQ31, c31⟩ := kstat X24 hx hZ hown (w26 hw) (w27 hw) (w28 hw) (w29 hw) (rm_isdJ l Z a0 hw [] b25 T24.heap n0 o29 p28) rfl c24 hml pd_pLjava_lang_Object_rZ [(rr b25)] [] 0 (hb hby at_61) rfl rfl rfl rfl rfl rfl
   obtain ⟨rfl, N32q, K33⟩ := hQ31
   have N32 := Fr.app N26 N32q
   obtain ⟨fs, hr, hrun, hended, hRW⟩ := X31.leaveW hS0 (by first | exact (Nat.le_trans (Nat.zero_le _) K27.1) | (rw [K33]; exact (Nat.le_trans (Nat.zero_le _) K27.1))) (v := some (ii 1)) (fun h => by rw [Bd.returns] at h; cases h)
   refine ⟨_, _, c31 _ ?_, hrun, hended, _, _, rfl, ?_, hRW.1, hRW.2.1, hRW.2.2.1, hRW.2.2.2.mono (by decide) (by decide)⟩
   ·show S_ p e below T31 m 64 #[vi k_, vi a_, vi b_, vi d_, vj n_, .second, .val (.int (k_ &&& (3 : Int32))), .val (.int (((k_.toUInt32 >>> ((2 : Int32) &&& 31).toUInt32).toInt32) &&& (3 : Int32))), u_, u_, u_, u_, u_] [(ii 0)] _
    refine XS.ifNo X31.here hx rfl (hb hby at_64) rfl rfl ?_
    refine XS.iconst X31.here hx rfl (hb hby at_67) ?_
    refine yG X31.here hx rfl 68 72 rfl (hb hby at_68) ?_
    show S_ p e below T31 m 72 #[vi k_, vi a_, vi b_, vi d_, vj n_, .second, .val (.int (k_ &&& (3 : Int32))), .val (.int (((k_.toUInt32 >>> ((2 : Int32) &&& 31).toUInt32).toInt32) &&& (3 : Int32))), u_, u_, u_, u_, u_] [(ii 1)] _
    exact retN X31 hx (t := .boolean) Bd.returns (by simp) (hb hby at_72) hr
   ·show Q_law Z k_ a_ b_ d_ n_ si1_ sa8_ sa13_ sv24_ sc11_ sc16_ h0 n0 _ T31.heap _
    rw [K33]
    exact ⟨rfl, N32, kp30⟩
  ·have c34 : Kt p e below s₁ st0 (mkF m 74 #[vi k_, vi a_, vi b_, vi d_, vj n_, .second, .val (.int (k_ &&& (3 : Int32))), .val (.int (((k_.toUInt32 >>> ((2 : Int32) &&& 31).toUInt32).toInt32) &&& (3 : Int32))), u_, u_, u_, u_, u_] [(.int a_)]) := fun t k => by
    refine c21 t ?_
    show S_ p e below s₁ m 53 #[vi k_, vi a_, vi b_, vi d_, vj n_, .second, .val (.int (k_ &&& (3 : Int32))), .val (.int (((k_.toUInt32 >>> ((2 : Int32) &&& 31).toUInt32).toInt32) &&& (3 : Int32))), u_, u_, u_, u_, u_] [(ii 3), (.int (((k_.toUInt32 >>> ((2 : Int32) &&& 31).toUInt32).toInt32) &&& (3 : Int32)))] t
    refine yC X0.here hx rfl 53 73 rfl (hb hby at_53) rfl (feq hc22).2 ?_
    refine XS.iloadN X0.here hx rfl (hb hby at_73) rfl ?_
    exact k
   obtain ⟨_, T35, L35, X35, hQ35, c35⟩ := kstat X0 hx hZ hown (w0 hw) (w1 hw) (w2 hw) (w3 hw) (rm_pick l Z a0 hw [] a_ h0 n0 O0 ) e0 c34 hml pd_pIrC [(.int a_)] [] 0 (hb hby at_74) rfl rfl rfl rfl rfl rfl
   obtain ⟨i36, rfl, N37q, K38, p39⟩ := hQ35
   have N37 := Fr.app N0 N37q
   have c40 : Kt p e below T35 st0 (mkF m 80 #[vi k_, vi a_, vi b_, vi d_, vj n_, .second, .val (.int (k_ &&& (3 : Int32))), .val (.int (((k_.toUInt32 >>> ((2 : Int32) &&& 31).toUInt32).toInt32) &&& (3 : Int32))), vi i36, u_, u_, u_, u_] [(.int b_)]) := fun t k => by
    refine c35 t ?_
    show S_ p e below T35 m 77 #[vi k_, vi a_, vi b_, vi d_, vj n_, .second, .val (.int (k_ &&& (3 : Int32))), .val (.int (((k_.toUInt32 >>> ((2 : Int32) &&& 31).toUInt32).toInt32) &&& (3 : Int32))), u_, u_, u_, u_, u_] [(.int i36)] t
    refine XS.istore X35.here hx rfl (hb hby at_77) rfl (l' := #[vi k_, vi a_, vi b_, vi d_, vj n_, .second, .val (.int (k_ &&& (3 : Int32))), .val (.int (((k_.toUInt32 >>> ((2 : Int32) &&& 31).toUInt32).toInt32) &&& (3 : Int32))), vi i36, u_, u_, u_, u_]) rfl ?_
    refine XS.iloadN X35.here hx rfl (hb hby at_79) rfl ?_
    exact k
   obtain ⟨_, T41, L41, X41, hQ41, c41⟩ := kstat X35 hx hZ hown (w0 hw) (w1 hw) (w2 hw) (w3 hw) (rm_pick l Z a0 hw [] b_ h0 n0 O0 ) K38 c40 hml pd_pIrC [(.int b_)] [] 0 (hb hby at_80) rfl rfl rfl rfl rfl rfl
   obtain ⟨i42, rfl, N43q, K44, p45⟩ := hQ41
   have N43 := Fr.app N37 N43q
   have c46 : Kt p e below T41 st0 (mkF m 86 #[vi k_, vi a_, vi b_, vi d_, vj n_, .second, .val (.int (k_ &&& (3 : Int32))), .val (.int (((k_.toUInt32 >>> ((2 : Int32) &&& 31).toUInt32).toInt32) &&& (3 : Int32))), vi i36, vi i42, u_, u_, u_] [(.int d_)]) := fun t k => by
    refine c41 t ?_
    show S_ p e below T41 m 83 #[vi k_, vi a_, vi b_, vi d_, vj n_, .second, .val (.int (k_ &&& (3 : Int32))), .val (.int (((k_.toUInt32 >>> ((2 : Int32) &&& 31).toUInt32).toInt32) &&& (3 : Int32))), vi i36, u_, u_, u_, u_] [(.int i42)] t
    refine XS.istore X41.here hx rfl (hb hby at_83) rfl (l' := #[vi k_, vi a_, vi b_, vi d_, vj n_, .second, .val (.int (k_ &&& (3 : Int32))), .val (.int (((k_.toUInt32 >>> ((2 : Int32) &&& 31).toUInt32).toInt32) &&& (3 : Int32))), vi i36, vi i42, u_, u_, u_]) rfl ?_
    refine XS.iloadN X41.here hx rfl (hb hby at_85) rfl ?_
    exact k
   obtain ⟨_, T47, L47, X47, hQ47, c47⟩ := kstat X41 hx hZ hown (w0 hw) (w1 hw) (w2 hw) (w3 hw) (rm_pick l Z a0 hw [] d_ h0 n0 O0 ) K44 c46 hml pd_pIrC [(.int d_)] [] 0 (hb hby at_86) rfl rfl rfl rfl rfl rfl
   obtain ⟨i48, rfl, N49q, K50, p51⟩ := hQ47
   have N49 := Fr.app N43 N49q
   have c52 : Kt p e below T47 st0 (mkF m 91 #[vi k_, vi a_, vi b_, vi d_, vj n_, .second, .val (.int (k_ &&& (3 : Int32))), .val (.int (((k_.toUInt32 >>> ((2 : Int32) &&& 31).toUInt32).toInt32) &&& (3 : Int32))), vi i36, vi i42, vi i48, u_, u_] []) := fun t k => by
    refine c47 t ?_
    show S_ p e below T47 m 89 #[vi k_, vi a_, vi b_, vi d_, vj n_, .second, .val (.int (k_ &&& (3 : Int32))), .val (.int (((k_.toUInt32 >>> ((2 : Int32) &&& 31).toUInt32).toInt32) &&& (3 : Int32))), vi i36, vi i42, u_, u_, u_] [(.int i48)] t
    refine XS.istore X47.here hx rfl (hb hby at_89) rfl (l' := #[vi k_, vi a_, vi b_, vi d_, vj n_, .second, .val (.int (k_ &&& (3 : Int32))), .val (.int (((k_.toUInt32 >>> ((2 : Int32) &&& 31).toUInt32).toInt32) &&& (3 : Int32))), vi i36, vi i42, vi i48, u_, u_]) rfl ?_
    exact k
   rcases own_and3 _ with hv53 | hv53 | hv53 | hv53
   ·rw [hv53] at c52
    have c54 : Kt p e below T47 st0 (mkF m 96 #[vi k_, vi a_, vi b_, vi d_, vj n_, .second, vi 0, .val (.int (((k_.toUInt32 >>> ((2 : Int32) &&& 31).toUInt32).toInt32) &&& (3 : Int32))), vi i36, vi i42, vi i48, u_, u_] []) := fun t k => by
     refine c52 t ?_
     show S_ p e below T47 m 91 #[vi k_, vi a_, vi b_, vi d_, vj n_, .second, vi 0, .val (.int (((k_.toUInt32 >>> ((2 : Int32) &&& 31).toUInt32).toInt32) &&& (3 : Int32))), vi i36, vi i42, vi i48, u_, u_] [] t
     refine XS.iload X47.here hx rfl (hb hby at_91) rfl ?_
     refine XS.ifNo X47.here hx rfl (hb hby at_93) rfl rfl ?_
     exact k
    obtain ⟨b55, T55, h55, z55, g55, X55, e55, E55, o56, A55, D55, U55, c55⟩ := knew X47 hx hZ hown (w4 hw) (w5 hw) (w6 hw) K50 c54 rfl (hb hby at_96) (by decide) (by decide) O0
    have kp57 := kp0.ext E55
    have z58 := Nat.le_trans kp0.1 z55
    have c59 : Kt p e below T55 st0 (mkF m 101 #[vi k_, vi a_, vi b_, vi d_, vj n_, .second, vi 0, .val (.int (((k_.toUInt32 >>> ((2 : Int32) &&& 31).toUInt32).toInt32) &&& (3 : Int32))), vi i36, vi i42, vi i48, u_, u_] [(ii 0), (rr b55), (rr b55)]) := fun t k => by
     refine c55 t ?_
     show S_ p e below T55 m 99 #[vi k_, vi a_, vi b_, vi d_, vj n_, .second, vi 0, .val (.int (((k_.toUInt32 >>> ((2 : Int32) &&& 31).toUInt32).toInt32) &&& (3 : Int32))), vi i36, vi i42, vi i48, u_, u_] [(rr b55)] t
     refine XS.dup X55.here hx rfl (hb hby at_99) rfl rfl ?_
     refine XS.iconst X55.here hx rfl (hb hby at_100) ?_
     exact k
    obtain ⟨b60, T60, h60, k60, z60, g60, X60, e60, E60, o61, A60, c60⟩ := knewP (aty := .char) X55 hx hZ (w7 hw) e55 c59 rfl (hb hby at_101) rfl (by decide) 0 (by decide) (by decide) (by decide) (by decide) o56
    have kp63 := kp57.ext E60
    have z64 := Nat.le_trans kp57.1 z60
    have f62 : Arv Z h60 b60 k60 .char (0 : Int32) [] (ii 0) := A60
    have f65 := (show Fld Z h55 b55 nm0 "value" "[B" .null from D55 (Or.inr (w20 hw)) (ty := (.array .byte)) (by decide)).ext E60
    have f66 := (show Fld Z h55 b55 nm0 "coder" "B" (ii 0) from D55 (Or.inr (w21 hw)) (ty := .byte) (by decide)).ext E60
    obtain ⟨_, T67, L67, X67, hQ67, hS67, hZ67, hown67, c67⟩ := kspecB X60 hx hZ hown hS0 (Nat.le_trans (Nat.zero_le _) (Nat.le_trans E55.1 E60.1)) (w8 hw) (w9 hw) (w10 hw) (rm := ({ frames := 2, cells := 2, slots := 4, locals := 29 } : Room)) (backOfSI (W := 1) (rm_str1_0 l Z a0 hw [] b55 b60 k60 h60 n0 o61 (A55.ext E60) f65 f66 g55 f62 hlit_ hcw) hZ hI (w10 hw) (w6 hw) (by decide) (by decide)) e60 c60 hml pd_pACrV b55 [(rr b60)] [(rr b55)] (hb hby at_103) rfl rfl rfl rfl rfl rfl
    obtain ⟨rfl, N68q, K69, p70, p71, b72, k73, p74, p75⟩ := hQ67
    have N68 := Fr.app N49 N68q
    have o76 := o61.keep K69 (allS g55 all0)
    have kp77 := kp63.trans K69 (allS (Or.inr z58) all0)
    have c78 : Kt p e below T67 st0 (mkF m 236 #[vi k_, vi a_, vi b_, vi d_, vj n_, .second, vi 0, .val (.int (((k_.toUInt32 >>> ((2 : Int32) &&& 31).toUInt32).toInt32) &&& (3 : Int32))), vi i36, vi i42, vi i48, vr b55, vi 0] [(rr b55)]) := fun t k => by
     refine c67 t ?_
     show S_ p e below T67 m 106 #[vi k_, vi a_, vi b_, vi d_, vj n_, .second, vi 0, .val (.int (((k_.toUInt32 >>> ((2 : Int32) &&& 31).toUInt32).toInt32) &&& (3 : Int32))), vi i36, vi i42, vi i48, u_, u_] [(rr b55)] t
     refine XS.astore X67.here hx rfl (hb hby at_106) rfl rfl (l' := #[vi k_, vi a_, vi b_, vi d_, vj n_, .second, vi 0, .val (.int (((k_.toUInt32 >>> ((2 : Int32) &&& 31).toUInt32).toInt32) &&& (3 : Int32))), vi i36, vi i42, vi i48, vr b55, u_]) rfl ?_
     refine yG X67.here hx rfl 108 185 rfl (hb hby at_108) ?_
     refine XS.iload X67.here hx rfl (hb hby at_185) rfl ?_
     refine XS.iconst X67.here hx rfl (hb hby at_187) ?_
     refine yC X67.here hx rfl 188 199 rfl (hb hby at_188) rfl rfl ?_
     refine XS.iload X67.here hx rfl (hb hby at_199) rfl ?_
     refine XS.iconst X67.here hx rfl (hb hby at_201) ?_
     refine yC X67.here hx rfl 202 213 rfl (hb hby at_202) rfl rfl ?_
     show S_ p e below T67 m 213 #[vi k_, vi a_, vi b_, vi d_, vj n_, .second, vi 0, .val (.int (((k_.toUInt32 >>> ((2 : Int32) &&& 31).toUInt32).toInt32) &&& (3 : Int32))), vi i36, vi i42, vi i48, vr b55, u_] [] t
     refine XS.iload X67.here hx rfl (hb hby at_213) rfl ?_
     refine XS.iconst X67.here hx rfl (hb hby at_215) ?_
     refine yC X67.here hx rfl 216 231 rfl (hb hby at_216) rfl rfl ?_
     refine XS.iconst X67.here hx rfl (hb hby at_231) ?_
     refine XS.istore X67.here hx rfl (hb hby at_232) rfl (l' := #[vi k_, vi a_, vi b_, vi d_, vj n_, .second, vi 0, .val (.int (((k_.toUInt32 >>> ((2 : Int32) &&& 31).toUInt32).toInt32) &&& (3 : Int32))), vi i36, vi i42, vi i48, vr b55, vi 0]) rfl ?_
     refine XS.aload X67.here hx rfl (hb hby at_234) rfl rfl ?_
     exact k
    obtain ⟨_, T79, L79, X79, hQ79, c79⟩ := kstat X67 hx hZ67 hown67 (w26 hw) (w27 hw) (w28 hw) (w29 hw) (rm_isdL_0 l Z a0 hw [] b55 b72 k73 si1_ T67.heap n0 o76 p70 p71 p74 p75 ZS0_ sn4_) rfl c78 hml pd_pLjava_lang_Object_rZ [(rr b55)] [] 0 (hb hby at_236) rfl rfl rfl rfl rfl rfl
    obtain ⟨rfl, N80q, K81⟩ := hQ79
    have N80 := Fr.app N68 N80q
    obtain ⟨fs, hr, hrun, hended, hRW⟩ := X79.leaveW hS67 (by first | exact (Nat.le_refl _) | (rw [K81]; exact (Nat.le_refl _))) (v := some (ii 1)) (fun h => by rw [Bd.returns] at h; cases h)
    refine ⟨_, _, c79 _ ?_, hrun, hended, _, _, rfl, ?_, hRW.1, hRW.2.1, hRW.2.2.1, hRW.2.2.2.mono (by decide) (by decide)⟩
    ·show S_ p e below T79 m 239 #[vi k_, vi a_, vi b_, vi d_, vj n_, .second, vi 0, .val (.int (((k_.toUInt32 >>> ((2 : Int32) &&& 31).toUInt32).toInt32) &&& (3 : Int32))), vi i36, vi i42, vi i48, vr b55, vi 0] [(ii 0)] _
     refine XS.iload X79.here hx rfl (hb hby at_239) rfl ?_
     refine XS.icmpNo X79.here hx rfl (hb hby at_241) rfl rfl ?_
     refine XS.iconst X79.here hx rfl (hb hby at_244) ?_
     refine yG X79.here hx rfl 245 249 rfl (hb hby at_245) ?_
     show S_ p e below T79 m 249 #[vi k_, vi a_, vi b_, vi d_, vj n_, .second, vi 0, .val (.int (((k_.toUInt32 >>> ((2 : Int32) &&& 31).toUInt32).toInt32) &&& (3 : Int32))), vi i36, vi i42, vi i48, vr b55, vi 0] [(ii 1)] _
     exact retN X79 hx (t := .boolean) Bd.returns (by simp) (hb hby at_249) hr
    ·show Q_law Z k_ a_ b_ d_ n_ si1_ sa8_ sa13_ sv24_ sc11_ sc16_ h0 n0 _ T79.heap _
     rw [K81]
     exact ⟨rfl, N80, kp77⟩
   ·rw [hv53] at c52
    have c82 : Kt p e below T47 st0 (mkF m 119 #[vi k_, vi a_, vi b_, vi d_, vj n_, .second, vi 1, .val (.int (((k_.toUInt32 >>> ((2 : Int32) &&& 31).toUInt32).toInt32) &&& (3 : Int32))), vi i36, vi i42, vi i48, u_, u_] [(.int i36)]) := fun t k => by
     refine c52 t ?_
     show S_ p e below T47 m 91 #[vi k_, vi a_, vi b_, vi d_, vj n_, .second, vi 1, .val (.int (((k_.toUInt32 >>> ((2 : Int32) &&& 31).toUInt32).toInt32) &&& (3 : Int32))), vi i36, vi i42, vi i48, u_, u_] [] t
     refine XS.iload X47.here hx rfl (hb hby at_91) rfl ?_
     refine yI X47.here hx rfl 93 111 rfl (hb hby at_93) rfl rfl ?_
     refine XS.iload X47.here hx rfl (hb hby at_111) rfl ?_
     refine XS.iconst X47.here hx rfl (hb hby at_113) ?_
     refine XS.icmpNo X47.here hx rfl (hb hby at_114) rfl rfl ?_
     refine XS.iload X47.here hx rfl (hb hby at_117) rfl ?_
     exact k
    obtain ⟨_, T83, L83, X83, hQ83, c83⟩ := kstat X47 hx hZ hown (w106 hw) (w107 hw) (w6 hw) (w108 hw) (rm_svo l Z a0 hw [] i36 si1_ h0 n0 O0 ZS0_ sn4_ ZS7_ ZS8_ ZS9_) K50 c82 hml pd_pCrLjava_lang_String_ [(.int i36)] [] 0 (hb hby at_119) rfl rfl rfl rfl rfl rfl
    rcases hQ83 with hQ83 | hQ83
    ·obtain ⟨b84, rfl, N85q, K86, p87, p88, b89, k90, p91, p92, p93, p94⟩ := hQ83
     have N85 := Fr.app N49 N85q
     have o95 := O0.keep K86 all0
     have kp96 := kp0.trans K86 all0
     have z97 := Nat.le_trans kp0.1 p93
     have g98 := Nat.le_trans (Nat.le_trans (Nat.le_of_eq O0.1.symm) O0.2.1) p93
     have c99 : Kt p e below T83 st0 (mkF m 193 #[vi k_, vi a_, vi b_, vi d_, vj n_, .second, vi 1, .val (.int (((k_.toUInt32 >>> ((2 : Int32) &&& 31).toUInt32).toInt32) &&& (3 : Int32))), vi i36, vi i42, vi i48, vr b84, u_] [(.int i36)]) := fun t k => by
      refine c83 t ?_
      show S_ p e below T83 m 122 #[vi k_, vi a_, vi b_, vi d_, vj n_, .second, vi 1, .val (.int (((k_.toUInt32 >>> ((2 : Int32) &&& 31).toUInt32).toInt32) &&& (3 : Int32))), vi i36, vi i42, vi i48, u_, u_] [(rr b84)] t
      refine XS.astore X83.here hx rfl (hb hby at_122) rfl rfl (l' := #[vi k_, vi a_, vi b_, vi d_, vj n_, .second, vi 1, .val (.int (((k_.toUInt32 >>> ((2 : Int32) &&& 31).toUInt32).toInt32) &&& (3 : Int32))), vi i36, vi i42, vi i48, vr b84, u_]) rfl ?_
      refine yG X83.here hx rfl 124 185 rfl (hb hby at_124) ?_
      refine XS.iload X83.here hx rfl (hb hby at_185) rfl ?_
      refine XS.iconst X83.here hx rfl (hb hby at_187) ?_
      refine XS.icmpNo X83.here hx rfl (hb hby at_188) rfl rfl ?_
      refine XS.iload X83.here hx rfl (hb hby at_191) rfl ?_
      exact k
     obtain ⟨_, T100, L100, X100, hQ100, c100⟩ := kstat X83 hx hZ hown (w119 hw) (w120 hw) (w2 hw) (w121 hw) (rm_mark l Z a0 hw [] i36 T83.heap n0 o95 ) rfl c99 hml pd_pCrZ [(.int i36)] [] 0 (hb hby at_193) rfl rfl rfl rfl rfl rfl
     rcases hQ100 with hQ100 | hQ100
     ·obtain ⟨rfl, N101q, K102, p103⟩ := hQ100
      have N101 := Fr.app N85 N101q
      have c104 : Kt p e below T100 st0 (mkF m 236 #[vi k_, vi a_, vi b_, vi d_, vj n_, .second, vi 1, .val (.int (((k_.toUInt32 >>> ((2 : Int32) &&& 31).toUInt32).toInt32) &&& (3 : Int32))), vi i36, vi i42, vi i48, vr b84, vi 1] [(rr b84)]) := fun t k => by
       refine c100 t ?_
       show S_ p e below T100 m 196 #[vi k_, vi a_, vi b_, vi d_, vj n_, .second, vi 1, .val (.int (((k_.toUInt32 >>> ((2 : Int32) &&& 31).toUInt32).toInt32) &&& (3 : Int32))), vi i36, vi i42, vi i48, vr b84, u_] [(ii 1)] t
       refine yI X100.here hx rfl 196 227 rfl (hb hby at_196) rfl rfl ?_
       refine XS.iconst X100.here hx rfl (hb hby at_227) ?_
       refine yG X100.here hx rfl 228 232 rfl (hb hby at_228) ?_
       refine XS.istore X100.here hx rfl (hb hby at_232) rfl (l' := #[vi k_, vi a_, vi b_, vi d_, vj n_, .second, vi 1, .val (.int (((k_.toUInt32 >>> ((2 : Int32) &&& 31).toUInt32).toInt32) &&& (3 : Int32))), vi i36, vi i42, vi i48, vr b84, vi 1]) rfl ?_
       refine XS.aload X100.here hx rfl (hb hby at_234) rfl rfl ?_
       exact k
      obtain ⟨_, T105, L105, X105, hQ105, c105⟩ := kstat X100 hx hZ hown (w26 hw) (w27 hw) (w28 hw) (w29 hw) (rm_isdL_1 l Z a0 hw [] b84 b89 k90 si1_ i36 T83.heap n0 o95 p87 p88 p91 p92 ZS0_ sn4_ p39 p94) K102 c104 hml pd_pLjava_lang_Object_rZ [(rr b84)] [] 0 (hb hby at_236) rfl rfl rfl rfl rfl rfl
      rcases hQ105 with hQ105 | hQ105
      ·obtain ⟨rfl, N106q, K107, p108⟩ := hQ105
       have N106 := Fr.app N101 N106q
       obtain ⟨fs, hr, hrun, hended, hRW⟩ := X105.leaveW hS0 (by first | exact (Nat.le_trans (Nat.zero_le _) K86.1) | (rw [K107]; exact (Nat.le_trans (Nat.zero_le _) K86.1))) (v := some (ii 1)) (fun h => by rw [Bd.returns] at h; cases h)
       refine ⟨_, _, c105 _ ?_, hrun, hended, _, _, rfl, ?_, hRW.1, hRW.2.1, hRW.2.2.1, hRW.2.2.2.mono (by decide) (by decide)⟩
       ·show S_ p e below T105 m 239 #[vi k_, vi a_, vi b_, vi d_, vj n_, .second, vi 1, .val (.int (((k_.toUInt32 >>> ((2 : Int32) &&& 31).toUInt32).toInt32) &&& (3 : Int32))), vi i36, vi i42, vi i48, vr b84, vi 1] [(ii 1)] _
        refine XS.iload X105.here hx rfl (hb hby at_239) rfl ?_
        refine XS.icmpNo X105.here hx rfl (hb hby at_241) rfl rfl ?_
        refine XS.iconst X105.here hx rfl (hb hby at_244) ?_
        refine yG X105.here hx rfl 245 249 rfl (hb hby at_245) ?_
        show S_ p e below T105 m 249 #[vi k_, vi a_, vi b_, vi d_, vj n_, .second, vi 1, .val (.int (((k_.toUInt32 >>> ((2 : Int32) &&& 31).toUInt32).toInt32) &&& (3 : Int32))), vi i36, vi i42, vi i48, vr b84, vi 1] [(ii 1)] _
        exact retN X105 hx (t := .boolean) Bd.returns (by simp) (hb hby at_249) hr
       ·show Q_law Z k_ a_ b_ d_ n_ si1_ sa8_ sa13_ sv24_ sc11_ sc16_ h0 n0 _ T105.heap _
        rw [K107]
        exact ⟨rfl, N106, kp96⟩
      ·obtain ⟨rfl, N109q, K110, p111⟩ := hQ105
       have N109 := Fr.app N101 N109q
       exact absurd p103 p111
     ·obtain ⟨rfl, N112q, K113, p114⟩ := hQ100
      have N112 := Fr.app N85 N112q
      have c115 : Kt p e below T100 st0 (mkF m 236 #[vi k_, vi a_, vi b_, vi d_, vj n_, .second, vi 1, .val (.int (((k_.toUInt32 >>> ((2 : Int32) &&& 31).toUInt32).toInt32) &&& (3 : Int32))), vi i36, vi i42, vi i48, vr b84, vi 0] [(rr b84)]) := fun t k => by
       refine c100 t ?_
       show S_ p e below T100 m 196 #[vi k_, vi a_, vi b_, vi d_, vj n_, .second, vi 1, .val (.int (((k_.toUInt32 >>> ((2 : Int32) &&& 31).toUInt32).toInt32) &&& (3 : Int32))), vi i36, vi i42, vi i48, vr b84, u_] [(ii 0)] t
       refine XS.ifNo X100.here hx rfl (hb hby at_196) rfl rfl ?_
       refine XS.iload X100.here hx rfl (hb hby at_199) rfl ?_
       refine XS.iconst X100.here hx rfl (hb hby at_201) ?_
       refine yC X100.here hx rfl 202 213 rfl (hb hby at_202) rfl rfl ?_
       refine XS.iload X100.here hx rfl (hb hby at_213) rfl ?_
       refine XS.iconst X100.here hx rfl (hb hby at_215) ?_
       refine yC X100.here hx rfl 216 231 rfl (hb hby at_216) rfl rfl ?_
       refine XS.iconst X100.here hx rfl (hb hby at_231) ?_
       show S_ p e below T100 m 232 #[vi k_, vi a_, vi b_, vi d_, vj n_, .second, vi 1, .val (.int (((k_.toUInt32 >>> ((2 : Int32) &&& 31).toUInt32).toInt32) &&& (3 : Int32))), vi i36, vi i42, vi i48, vr b84, u_] [(ii 0)] t
       refine XS.istore X100.here hx rfl (hb hby at_232) rfl (l' := #[vi k_, vi a_, vi b_, vi d_, vj n_, .second, vi 1, .val (.int (((k_.toUInt32 >>> ((2 : Int32) &&& 31).toUInt32).toInt32) &&& (3 : Int32))), vi i36, vi i42, vi i48, vr b84, vi 0]) rfl ?_
       refine XS.aload X100.here hx rfl (hb hby at_234) rfl rfl ?_
       exact k
      obtain ⟨_, T116, L116, X116, hQ116, c116⟩ := kstat X100 hx hZ hown (w26 hw) (w27 hw) (w28 hw) (w29 hw) (rm_isdL_1 l Z a0 hw [] b84 b89 k90 si1_ i36 T83.heap n0 o95 p87 p88 p91 p92 ZS0_ sn4_ p39 p94) K113 c115 hml pd_pLjava_lang_Object_rZ [(rr b84)] [] 0 (hb hby at_236) rfl rfl rfl rfl rfl rfl
      rcases hQ116 with hQ116 | hQ116
      ·obtain ⟨rfl, N117q, K118, p119⟩ := hQ116
       have N117 := Fr.app N112 N117q
       exact absurd p119 p114
      ·obtain ⟨rfl, N120q, K121, p122⟩ := hQ116
       have N120 := Fr.app N112 N120q
       obtain ⟨fs, hr, hrun, hended, hRW⟩ := X116.leaveW hS0 (by first | exact (Nat.le_trans (Nat.zero_le _) K86.1) | (rw [K121]; exact (Nat.le_trans (Nat.zero_le _) K86.1))) (v := some (ii 1)) (fun h => by rw [Bd.returns] at h; cases h)
       refine ⟨_, _, c116 _ ?_, hrun, hended, _, _, rfl, ?_, hRW.1, hRW.2.1, hRW.2.2.1, hRW.2.2.2.mono (by decide) (by decide)⟩
       ·show S_ p e below T116 m 239 #[vi k_, vi a_, vi b_, vi d_, vj n_, .second, vi 1, .val (.int (((k_.toUInt32 >>> ((2 : Int32) &&& 31).toUInt32).toInt32) &&& (3 : Int32))), vi i36, vi i42, vi i48, vr b84, vi 0] [(ii 0)] _
        refine XS.iload X116.here hx rfl (hb hby at_239) rfl ?_
        refine XS.icmpNo X116.here hx rfl (hb hby at_241) rfl rfl ?_
        refine XS.iconst X116.here hx rfl (hb hby at_244) ?_
        refine yG X116.here hx rfl 245 249 rfl (hb hby at_245) ?_
        show S_ p e below T116 m 249 #[vi k_, vi a_, vi b_, vi d_, vj n_, .second, vi 1, .val (.int (((k_.toUInt32 >>> ((2 : Int32) &&& 31).toUInt32).toInt32) &&& (3 : Int32))), vi i36, vi i42, vi i48, vr b84, vi 0] [(ii 1)] _
        exact retN X116 hx (t := .boolean) Bd.returns (by simp) (hb hby at_249) hr
       ·show Q_law Z k_ a_ b_ d_ n_ si1_ sa8_ sa13_ sv24_ sc11_ sc16_ h0 n0 _ T116.heap _
        rw [K121]
        exact ⟨rfl, N120, kp96⟩
    ·obtain ⟨b123, rfl, N124q, K125, p126, p127, b128, k129, p130, p131, p132⟩ := hQ83
     have N124 := Fr.app N49 N124q
     have o133 := O0.keep K125 all0
     have kp134 := kp0.trans K125 all0
     have z135 := Nat.le_trans kp0.1 p132
     have g136 := Nat.le_trans (Nat.le_trans (Nat.le_of_eq O0.1.symm) O0.2.1) p132
     have c137 : Kt p e below T83 st0 (mkF m 193 #[vi k_, vi a_, vi b_, vi d_, vj n_, .second, vi 1, .val (.int (((k_.toUInt32 >>> ((2 : Int32) &&& 31).toUInt32).toInt32) &&& (3 : Int32))), vi i36, vi i42, vi i48, vr b123, u_] [(.int i36)]) := fun t k => by
      refine c83 t ?_
      show S_ p e below T83 m 122 #[vi k_, vi a_, vi b_, vi d_, vj n_, .second, vi 1, .val (.int (((k_.toUInt32 >>> ((2 : Int32) &&& 31).toUInt32).toInt32) &&& (3 : Int32))), vi i36, vi i42, vi i48, u_, u_] [(rr b123)] t
      refine XS.astore X83.here hx rfl (hb hby at_122) rfl rfl (l' := #[vi k_, vi a_, vi b_, vi d_, vj n_, .second, vi 1, .val (.int (((k_.toUInt32 >>> ((2 : Int32) &&& 31).toUInt32).toInt32) &&& (3 : Int32))), vi i36, vi i42, vi i48, vr b123, u_]) rfl ?_
      refine yG X83.here hx rfl 124 185 rfl (hb hby at_124) ?_
      refine XS.iload X83.here hx rfl (hb hby at_185) rfl ?_
      refine XS.iconst X83.here hx rfl (hb hby at_187) ?_
      refine XS.icmpNo X83.here hx rfl (hb hby at_188) rfl rfl ?_
      refine XS.iload X83.here hx rfl (hb hby at_191) rfl ?_
      exact k
     obtain ⟨_, T138, L138, X138, hQ138, c138⟩ := kstat X83 hx hZ hown (w119 hw) (w120 hw) (w2 hw) (w121 hw) (rm_mark l Z a0 hw [] i36 T83.heap n0 o133 ) rfl c137 hml pd_pCrZ [(.int i36)] [] 0 (hb hby at_193) rfl rfl rfl rfl rfl rfl
     rcases hQ138 with hQ138 | hQ138
     ·obtain ⟨rfl, N139q, K140, p141⟩ := hQ138
      have N139 := Fr.app N124 N139q
      have c142 : Kt p e below T138 st0 (mkF m 236 #[vi k_, vi a_, vi b_, vi d_, vj n_, .second, vi 1, .val (.int (((k_.toUInt32 >>> ((2 : Int32) &&& 31).toUInt32).toInt32) &&& (3 : Int32))), vi i36, vi i42, vi i48, vr b123, vi 1] [(rr b123)]) := fun t k => by
       refine c138 t ?_
       show S_ p e below T138 m 196 #[vi k_, vi a_, vi b_, vi d_, vj n_, .second, vi 1, .val (.int (((k_.toUInt32 >>> ((2 : Int32) &&& 31).toUInt32).toInt32) &&& (3 : Int32))), vi i36, vi i42, vi i48, vr b123, u_] [(ii 1)] t
       refine yI X138.here hx rfl 196 227 rfl (hb hby at_196) rfl rfl ?_
       refine XS.iconst X138.here hx rfl (hb hby at_227) ?_
       refine yG X138.here hx rfl 228 232 rfl (hb hby at_228) ?_
       refine XS.istore X138.here hx rfl (hb hby at_232) rfl (l' := #[vi k_, vi a_, vi b_, vi d_, vj n_, .second, vi 1, .val (.int (((k_.toUInt32 >>> ((2 : Int32) &&& 31).toUInt32).toInt32) &&& (3 : Int32))), vi i36, vi i42, vi i48, vr b123, vi 1]) rfl ?_
       refine XS.aload X138.here hx rfl (hb hby at_234) rfl rfl ?_
       exact k
      obtain ⟨_, T143, L143, X143, hQ143, c143⟩ := kstat X138 hx hZ hown (w26 hw) (w27 hw) (w28 hw) (w29 hw) (rm_isdU_1 l Z a0 hw [] b123 b128 k129 si1_ i36 sv24_ T83.heap n0 o133 p126 p127 p130 p131 ZS0_ sn4_ p39 ZS7_ ZS8_ ZS9_ ZS11_ sv24_r) K140 c142 hml pd_pLjava_lang_Object_rZ [(rr b123)] [] 0 (hb hby at_236) rfl rfl rfl rfl rfl rfl
      rcases hQ143 with hQ143 | hQ143
      ·obtain ⟨rfl, N144q, K145, p146⟩ := hQ143
       have N144 := Fr.app N139 N144q
       obtain ⟨fs, hr, hrun, hended, hRW⟩ := X143.leaveW hS0 (by first | exact (Nat.le_trans (Nat.zero_le _) K125.1) | (rw [K145]; exact (Nat.le_trans (Nat.zero_le _) K125.1))) (v := some (ii 1)) (fun h => by rw [Bd.returns] at h; cases h)
       refine ⟨_, _, c143 _ ?_, hrun, hended, _, _, rfl, ?_, hRW.1, hRW.2.1, hRW.2.2.1, hRW.2.2.2.mono (by decide) (by decide)⟩
       ·show S_ p e below T143 m 239 #[vi k_, vi a_, vi b_, vi d_, vj n_, .second, vi 1, .val (.int (((k_.toUInt32 >>> ((2 : Int32) &&& 31).toUInt32).toInt32) &&& (3 : Int32))), vi i36, vi i42, vi i48, vr b123, vi 1] [(ii 1)] _
        refine XS.iload X143.here hx rfl (hb hby at_239) rfl ?_
        refine XS.icmpNo X143.here hx rfl (hb hby at_241) rfl rfl ?_
        refine XS.iconst X143.here hx rfl (hb hby at_244) ?_
        refine yG X143.here hx rfl 245 249 rfl (hb hby at_245) ?_
        show S_ p e below T143 m 249 #[vi k_, vi a_, vi b_, vi d_, vj n_, .second, vi 1, .val (.int (((k_.toUInt32 >>> ((2 : Int32) &&& 31).toUInt32).toInt32) &&& (3 : Int32))), vi i36, vi i42, vi i48, vr b123, vi 1] [(ii 1)] _
        exact retN X143 hx (t := .boolean) Bd.returns (by simp) (hb hby at_249) hr
       ·show Q_law Z k_ a_ b_ d_ n_ si1_ sa8_ sa13_ sv24_ sc11_ sc16_ h0 n0 _ T143.heap _
        rw [K145]
        exact ⟨rfl, N144, kp134⟩
      ·obtain ⟨rfl, N147q, K148, p149⟩ := hQ143
       have N147 := Fr.app N139 N147q
       exact absurd p141 p149
     ·obtain ⟨rfl, N150q, K151, p152⟩ := hQ138
      have N150 := Fr.app N124 N150q
      have c153 : Kt p e below T138 st0 (mkF m 236 #[vi k_, vi a_, vi b_, vi d_, vj n_, .second, vi 1, .val (.int (((k_.toUInt32 >>> ((2 : Int32) &&& 31).toUInt32).toInt32) &&& (3 : Int32))), vi i36, vi i42, vi i48, vr b123, vi 0] [(rr b123)]) := fun t k => by
       refine c138 t ?_
       show S_ p e below T138 m 196 #[vi k_, vi a_, vi b_, vi d_, vj n_, .second, vi 1, .val (.int (((k_.toUInt32 >>> ((2 : Int32) &&& 31).toUInt32).toInt32) &&& (3 : Int32))), vi i36, vi i42, vi i48, vr b123, u_] [(ii 0)] t
       refine XS.ifNo X138.here hx rfl (hb hby at_196) rfl rfl ?_
       refine XS.iload X138.here hx rfl (hb hby at_199) rfl ?_
       refine XS.iconst X138.here hx rfl (hb hby at_201) ?_
       refine yC X138.here hx rfl 202 213 rfl (hb hby at_202) rfl rfl ?_
       refine XS.iload X138.here hx rfl (hb hby at_213) rfl ?_
       refine XS.iconst X138.here hx rfl (hb hby at_215) ?_
       refine yC X138.here hx rfl 216 231 rfl (hb hby at_216) rfl rfl ?_
       refine XS.iconst X138.here hx rfl (hb hby at_231) ?_
       show S_ p e below T138 m 232 #[vi k_, vi a_, vi b_, vi d_, vj n_, .second, vi 1, .val (.int (((k_.toUInt32 >>> ((2 : Int32) &&& 31).toUInt32).toInt32) &&& (3 : Int32))), vi i36, vi i42, vi i48, vr b123, u_] [(ii 0)] t
       refine XS.istore X138.here hx rfl (hb hby at_232) rfl (l' := #[vi k_, vi a_, vi b_, vi d_, vj n_, .second, vi 1, .val (.int (((k_.toUInt32 >>> ((2 : Int32) &&& 31).toUInt32).toInt32) &&& (3 : Int32))), vi i36, vi i42, vi i48, vr b123, vi 0]) rfl ?_
       refine XS.aload X138.here hx rfl (hb hby at_234) rfl rfl ?_
       exact k
      obtain ⟨_, T154, L154, X154, hQ154, c154⟩ := kstat X138 hx hZ hown (w26 hw) (w27 hw) (w28 hw) (w29 hw) (rm_isdU_1 l Z a0 hw [] b123 b128 k129 si1_ i36 sv24_ T83.heap n0 o133 p126 p127 p130 p131 ZS0_ sn4_ p39 ZS7_ ZS8_ ZS9_ ZS11_ sv24_r) K151 c153 hml pd_pLjava_lang_Object_rZ [(rr b123)] [] 0 (hb hby at_236) rfl rfl rfl rfl rfl rfl
      rcases hQ154 with hQ154 | hQ154
      ·obtain ⟨rfl, N155q, K156, p157⟩ := hQ154
       have N155 := Fr.app N150 N155q
       exact absurd p157 p152
      ·obtain ⟨rfl, N158q, K159, p160⟩ := hQ154
       have N158 := Fr.app N150 N158q
       obtain ⟨fs, hr, hrun, hended, hRW⟩ := X154.leaveW hS0 (by first | exact (Nat.le_trans (Nat.zero_le _) K125.1) | (rw [K159]; exact (Nat.le_trans (Nat.zero_le _) K125.1))) (v := some (ii 1)) (fun h => by rw [Bd.returns] at h; cases h)
       refine ⟨_, _, c154 _ ?_, hrun, hended, _, _, rfl, ?_, hRW.1, hRW.2.1, hRW.2.2.1, hRW.2.2.2.mono (by decide) (by decide)⟩
       ·show S_ p e below T154 m 239 #[vi k_, vi a_, vi b_, vi d_, vj n_, .second, vi 1, .val (.int (((k_.toUInt32 >>> ((2 : Int32) &&& 31).toUInt32).toInt32) &&& (3 : Int32))), vi i36, vi i42, vi i48, vr b123, vi 0] [(ii 0)] _
        refine XS.iload X154.here hx rfl (hb hby at_239) rfl ?_
        refine XS.icmpNo X154.here hx rfl (hb hby at_241) rfl rfl ?_
        refine XS.iconst X154.here hx rfl (hb hby at_244) ?_
        refine yG X154.here hx rfl 245 249 rfl (hb hby at_245) ?_
        show S_ p e below T154 m 249 #[vi k_, vi a_, vi b_, vi d_, vj n_, .second, vi 1, .val (.int (((k_.toUInt32 >>> ((2 : Int32) &&& 31).toUInt32).toInt32) &&& (3 : Int32))), vi i36, vi i42, vi i48, vr b123, vi 0] [(ii 1)] _
        exact retN X154 hx (t := .boolean) Bd.returns (by simp) (hb hby at_249) hr
       ·show Q_law Z k_ a_ b_ d_ n_ si1_ sa8_ sa13_ sv24_ sc11_ sc16_ h0 n0 _ T154.heap _
        rw [K159]
        exact ⟨rfl, N158, kp134⟩
   ·rw [hv53] at c52
    have c161 : Kt p e below T47 st0 (mkF m 133 #[vi k_, vi a_, vi b_, vi d_, vj n_, .second, vi 2, .val (.int (((k_.toUInt32 >>> ((2 : Int32) &&& 31).toUInt32).toInt32) &&& (3 : Int32))), vi i36, vi i42, vi i48, u_, u_] []) := fun t k => by
     refine c52 t ?_
     show S_ p e below T47 m 91 #[vi k_, vi a_, vi b_, vi d_, vj n_, .second, vi 2, .val (.int (((k_.toUInt32 >>> ((2 : Int32) &&& 31).toUInt32).toInt32) &&& (3 : Int32))), vi i36, vi i42, vi i48, u_, u_] [] t
     refine XS.iload X47.here hx rfl (hb hby at_91) rfl ?_
     refine yI X47.here hx rfl 93 111 rfl (hb hby at_93) rfl rfl ?_
     refine XS.iload X47.here hx rfl (hb hby at_111) rfl ?_
     refine XS.iconst X47.here hx rfl (hb hby at_113) ?_
     refine yC X47.here hx rfl 114 127 rfl (hb hby at_114) rfl rfl ?_
     refine XS.iload X47.here hx rfl (hb hby at_127) rfl ?_
     refine XS.iconst X47.here hx rfl (hb hby at_129) ?_
     refine XS.icmpNo X47.here hx rfl (hb hby at_130) rfl rfl ?_
     exact k
    obtain ⟨b162, T162, h162, z162, g162, X162, e162, E162, o163, A162, D162, U162, c162⟩ := knew X47 hx hZ hown (w4 hw) (w5 hw) (w6 hw) K50 c161 rfl (hb hby at_133) (by decide) (by decide) O0
    have kp164 := kp0.ext E162
    have z165 := Nat.le_trans kp0.1 z162
    have c166 : Kt p e below T162 st0 (mkF m 138 #[vi k_, vi a_, vi b_, vi d_, vj n_, .second, vi 2, .val (.int (((k_.toUInt32 >>> ((2 : Int32) &&& 31).toUInt32).toInt32) &&& (3 : Int32))), vi i36, vi i42, vi i48, u_, u_] [(ii 2), (rr b162), (rr b162)]) := fun t k => by
     refine c162 t ?_
     show S_ p e below T162 m 136 #[vi k_, vi a_, vi b_, vi d_, vj n_, .second, vi 2, .val (.int (((k_.toUInt32 >>> ((2 : Int32) &&& 31).toUInt32).toInt32) &&& (3 : Int32))), vi i36, vi i42, vi i48, u_, u_] [(rr b162)] t
     refine XS.dup X162.here hx rfl (hb hby at_136) rfl rfl ?_
     refine XS.iconst X162.here hx rfl (hb hby at_137) ?_
     exact k
    obtain ⟨b167, T167, h167, k167, z167, g167, X167, e167, E167, o168, A167, c167⟩ := knewP (aty := .char) X162 hx hZ (w7 hw) e162 c166 rfl (hb hby at_138) rfl (by decide) 2 (by decide) (by decide) (by decide) (by decide) o163
    have kp170 := kp164.ext E167
    have z171 := Nat.le_trans kp164.1 z167
    have f169 : Arv Z h167 b167 k167 .char (2 : Int32) [(ii 0), (ii 0)] (ii 0) := A167.pad (pad_rep [] (ii 0) 2)
    have c172 : Kt p e below T167 st0 (mkF m 144 #[vi k_, vi a_, vi b_, vi d_, vj n_, .second, vi 2, .val (.int (((k_.toUInt32 >>> ((2 : Int32) &&& 31).toUInt32).toInt32) &&& (3 : Int32))), vi i36, vi i42, vi i48, u_, u_] [(.int i36), (ii 0), (rr b167), (rr b167), (rr b162), (rr b162)]) := fun t k => by
     refine c167 t ?_
     show S_ p e below T167 m 140 #[vi k_, vi a_, vi b_, vi d_, vj n_, .second, vi 2, .val (.int (((k_.toUInt32 >>> ((2 : Int32) &&& 31).toUInt32).toInt32) &&& (3 : Int32))), vi i36, vi i42, vi i48, u_, u_] [(rr b167), (rr b162), (rr b162)] t
     refine XS.dup X167.here hx rfl (hb hby at_140) rfl rfl ?_
     refine XS.iconst X167.here hx rfl (hb hby at_141) ?_
     refine XS.iload X167.here hx rfl (hb hby at_142) rfl ?_
     exact k
    obtain ⟨T173, h173, X173, e173, W173, f176, o174, N175, c173⟩ := kstC X167 hx hZ e167 f169 (j := (0 : Int32)) (by decide) (by decide) 0 rfl (Nat.le_of_ble_eq_true rfl) c172 rfl rfl (hb hby at_144) o168 N49 g167
    rw [p39] at W173 f176
    have f177 : Arv Z h173 b167 k167 .char (2 : Int32) [(.int i36), (ii 0)] (ii 0) := f176
    have kp178 := kp170.wr W173 (Or.inr z171)
    have c179 : Kt p e below T173 st0 (mkF m 149 #[vi k_, vi a_, vi b_, vi d_, vj n_, .second, vi 2, .val (.int (((k_.toUInt32 >>> ((2 : Int32) &&& 31).toUInt32).toInt32) &&& (3 : Int32))), vi i36, vi i42, vi i48, u_, u_] [(.int i42), (ii 1), (rr b167), (rr b167), (rr b162), (rr b162)]) := fun t k => by
     refine c173 t ?_
     show S_ p e below T173 m 145 #[vi k_, vi a_, vi b_, vi d_, vj n_, .second, vi 2, .val (.int (((k_.toUInt32 >>> ((2 : Int32) &&& 31).toUInt32).toInt32) &&& (3 : Int32))), vi i36, vi i42, vi i48, u_, u_] [(rr b167), (rr b162), (rr b162)] t
     refine XS.dup X173.here hx rfl (hb hby at_145) rfl rfl ?_
     refine XS.iconst X173.here hx rfl (hb hby at_146) ?_
     refine XS.iload X173.here hx rfl (hb hby at_147) rfl ?_
     exact k
    obtain ⟨T180, h180, X180, e180, W180, f183, o181, N182, c180⟩ := kstC X173 hx hZ e173 f177 (j := (1 : Int32)) (by decide) (by decide) 1 rfl (Nat.le_of_ble_eq_true rfl) c179 rfl rfl (hb hby at_149) o174 N175 g167
    rw [p45] at W180 f183
    have f184 : Arv Z h180 b167 k167 .char (2 : Int32) [(.int i36), (.int i42)] (ii 0) := f183
    have kp185 := kp178.wr W180 (Or.inr z171)
    have q186 := Nat.ne_of_lt (Nat.lt_of_lt_of_le A162.lt z167)
    have f187 := (((show Fld Z h162 b162 nm0 "value" "[B" .null from D162 (Or.inr (w20 hw)) (ty := (.array .byte)) (by decide)).ext E167).other W173 (Or.inl q186)).other W180 (Or.inl q186)
    have f188 := (((show Fld Z h162 b162 nm0 "coder" "B" (ii 0) from D162 (Or.inr (w21 hw)) (ty := .byte) (by decide)).ext E167).other W173 (Or.inl q186)).other W180 (Or.inl q186)
    obtain ⟨_, T189, L189, X189, hQ189, c189⟩ := kspec X180 hx hZ hown (w8 hw) (w9 hw) (w6 hw) (w10 hw) (rm_str1a_2 l Z a0 hw [] b162 b167 k167 si1_ i36 i42 h180 n0 o181 (((A162.ext E167).wr W173).wr W180) f187 f188 g162 f184 ZS0_ sn4_ ZS7_ ZS8_ ZS9_ p39 p45) e180 c180 hml pd_pACrV b162 [(rr b167)] [(rr b162)] 1 (hb hby at_150) rfl rfl rfl rfl rfl rfl
    rcases hQ189 with hQ189 | hQ189
    ·obtain ⟨rfl, N190q, K191, p192, p193, b194, k195, p196, p197, p198, p199, p200, p201⟩ := hQ189
     have N190 := Fr.app N182 N190q
     have o202 := o181.keep K191 (allS g162 all0)
     have kp203 := kp185.trans K191 (allS (Or.inr z165) all0)
     have z204 := Nat.le_trans kp185.1 p199
     have g205 := Nat.le_trans (Nat.le_trans (Nat.le_of_eq o181.1.symm) o181.2.1) p199
     have c206 : Kt p e below T189 st0 (mkF m 193 #[vi k_, vi a_, vi b_, vi d_, vj n_, .second, vi 2, .val (.int (((k_.toUInt32 >>> ((2 : Int32) &&& 31).toUInt32).toInt32) &&& (3 : Int32))), vi i36, vi i42, vi i48, vr b162, u_] [(.int i36)]) := fun t k => by
      refine c189 t ?_
      show S_ p e below T189 m 153 #[vi k_, vi a_, vi b_, vi d_, vj n_, .second, vi 2, .val (.int (((k_.toUInt32 >>> ((2 : Int32) &&& 31).toUInt32).toInt32) &&& (3 : Int32))), vi i36, vi i42, vi i48, u_, u_] [(rr b162)] t
      refine XS.astore X189.here hx rfl (hb hby at_153) rfl rfl (l' := #[vi k_, vi a_, vi b_, vi d_, vj n_, .second, vi 2, .val (.int (((k_.toUInt32 >>> ((2 : Int32) &&& 31).toUInt32).toInt32) &&& (3 : Int32))), vi i36, vi i42, vi i48, vr b162, u_]) rfl ?_
      refine yG X189.here hx rfl 155 185 rfl (hb hby at_155) ?_
      refine XS.iload X189.here hx rfl (hb hby at_185) rfl ?_
      refine XS.iconst X189.here hx rfl (hb hby at_187) ?_
      refine XS.icmpNo X189.here hx rfl (hb hby at_188) rfl rfl ?_
      refine XS.iload X189.here hx rfl (hb hby at_191) rfl ?_
      exact k
     obtain ⟨_, T207, L207, X207, hQ207, c207⟩ := kstat X189 hx hZ hown (w119 hw) (w120 hw) (w2 hw) (w121 hw) (rm_mark l Z a0 hw [] i36 T189.heap n0 o202 ) rfl c206 hml pd_pCrZ [(.int i36)] [] 0 (hb hby at_193) rfl rfl rfl rfl rfl rfl
     rcases hQ207 with hQ207 | hQ207
     ·obtain ⟨rfl, N208q, K209, p210⟩ := hQ207
      have N208 := Fr.app N190 N208q
      have c211 : Kt p e below T207 st0 (mkF m 236 #[vi k_, vi a_, vi b_, vi d_, vj n_, .second, vi 2, .val (.int (((k_.toUInt32 >>> ((2 : Int32) &&& 31).toUInt32).toInt32) &&& (3 : Int32))), vi i36, vi i42, vi i48, vr b162, vi 1] [(rr b162)]) := fun t k => by
       refine c207 t ?_
       show S_ p e below T207 m 196 #[vi k_, vi a_, vi b_, vi d_, vj n_, .second, vi 2, .val (.int (((k_.toUInt32 >>> ((2 : Int32) &&& 31).toUInt32).toInt32) &&& (3 : Int32))), vi i36, vi i42, vi i48, vr b162, u_] [(ii 1)] t
       refine yI X207.here hx rfl 196 227 rfl (hb hby at_196) rfl rfl ?_
       refine XS.iconst X207.here hx rfl (hb hby at_227) ?_
       refine yG X207.here hx rfl 228 232 rfl (hb hby at_228) ?_
       refine XS.istore X207.here hx rfl (hb hby at_232) rfl (l' := #[vi k_, vi a_, vi b_, vi d_, vj n_, .second, vi 2, .val (.int (((k_.toUInt32 >>> ((2 : Int32) &&& 31).toUInt32).toInt32) &&& (3 : Int32))), vi i36, vi i42, vi i48, vr b162, vi 1]) rfl ?_
       refine XS.aload X207.here hx rfl (hb hby at_234) rfl rfl ?_
       exact k
      obtain ⟨_, T212, L212, X212, hQ212, c212⟩ := kstat X207 hx hZ hown (w26 hw) (w27 hw) (w28 hw) (w29 hw) (rm_isdL_2 l Z a0 hw [] b162 b194 k195 si1_ i36 i42 T189.heap n0 o202 p192 p193 p196 p197 ZS0_ sn4_ p39 p45 p200 p201) K209 c211 hml pd_pLjava_lang_Object_rZ [(rr b162)] [] 0 (hb hby at_236) rfl rfl rfl rfl rfl rfl
      rcases hQ212 with hQ212 | hQ212
      ·obtain ⟨rfl, N213q, K214, p215⟩ := hQ212
       have N213 := Fr.app N208 N213q
       obtain ⟨fs, hr, hrun, hended, hRW⟩ := X212.leaveW hS0 (by first | exact (Nat.le_trans (Nat.zero_le _) (Nat.le_trans (Nat.le_trans (Nat.le_trans (Nat.le_trans E162.1 E167.1) (Keep.of_wr W173).1) (Keep.of_wr W180).1) K191.1)) | (rw [K214]; exact (Nat.le_trans (Nat.zero_le _) (Nat.le_trans (Nat.le_trans (Nat.le_trans (Nat.le_trans E162.1 E167.1) (Keep.of_wr W173).1) (Keep.of_wr W180).1) K191.1)))) (v := some (ii 1)) (fun h => by rw [Bd.returns] at h; cases h)
       refine ⟨_, _, c212 _ ?_, hrun, hended, _, _, rfl, ?_, hRW.1, hRW.2.1, hRW.2.2.1, hRW.2.2.2.mono (by decide) (by decide)⟩
       ·show S_ p e below T212 m 239 #[vi k_, vi a_, vi b_, vi d_, vj n_, .second, vi 2, .val (.int (((k_.toUInt32 >>> ((2 : Int32) &&& 31).toUInt32).toInt32) &&& (3 : Int32))), vi i36, vi i42, vi i48, vr b162, vi 1] [(ii 1)] _
        refine XS.iload X212.here hx rfl (hb hby at_239) rfl ?_
        refine XS.icmpNo X212.here hx rfl (hb hby at_241) rfl rfl ?_
        refine XS.iconst X212.here hx rfl (hb hby at_244) ?_
        refine yG X212.here hx rfl 245 249 rfl (hb hby at_245) ?_
        show S_ p e below T212 m 249 #[vi k_, vi a_, vi b_, vi d_, vj n_, .second, vi 2, .val (.int (((k_.toUInt32 >>> ((2 : Int32) &&& 31).toUInt32).toInt32) &&& (3 : Int32))), vi i36, vi i42, vi i48, vr b162, vi 1] [(ii 1)] _
        exact retN X212 hx (t := .boolean) Bd.returns (by simp) (hb hby at_249) hr
       ·show Q_law Z k_ a_ b_ d_ n_ si1_ sa8_ sa13_ sv24_ sc11_ sc16_ h0 n0 _ T212.heap _
        rw [K214]
        exact ⟨rfl, N213, kp203⟩
      ·obtain ⟨rfl, N216q, K217, p218, p219⟩ := hQ212
       have N216 := Fr.app N208 N216q
       exact absurd p210 p218
     ·obtain ⟨rfl, N220q, K221, p222⟩ := hQ207
      have N220 := Fr.app N190 N220q
      have c223 : Kt p e below T207 st0 (mkF m 207 #[vi k_, vi a_, vi b_, vi d_, vj n_, .second, vi 2, .val (.int (((k_.toUInt32 >>> ((2 : Int32) &&& 31).toUInt32).toInt32) &&& (3 : Int32))), vi i36, vi i42, vi i48, vr b162, u_] [(.int i42)]) := fun t k => by
       refine c207 t ?_
       show S_ p e below T207 m 196 #[vi k_, vi a_, vi b_, vi d_, vj n_, .second, vi 2, .val (.int (((k_.toUInt32 >>> ((2 : Int32) &&& 31).toUInt32).toInt32) &&& (3 : Int32))), vi i36, vi i42, vi i48, vr b162, u_] [(ii 0)] t
       refine XS.ifNo X207.here hx rfl (hb hby at_196) rfl rfl ?_
       refine XS.iload X207.here hx rfl (hb hby at_199) rfl ?_
       refine XS.iconst X207.here hx rfl (hb hby at_201) ?_
       refine XS.icmpNo X207.here hx rfl (hb hby at_202) rfl rfl ?_
       refine XS.iload X207.here hx rfl (hb hby at_205) rfl ?_
       exact k
      obtain ⟨_, T224, L224, X224, hQ224, c224⟩ := kstat X207 hx hZ hown (w119 hw) (w120 hw) (w2 hw) (w121 hw) (rm_mark l Z a0 hw [] i42 T189.heap n0 o202 ) K221 c223 hml pd_pCrZ [(.int i42)] [] 0 (hb hby at_207) rfl rfl rfl rfl rfl rfl
      rcases hQ224 with hQ224 | hQ224
      ·obtain ⟨rfl, N225q, K226, p227⟩ := hQ224
       have N225 := Fr.app N220 N225q
       have c228 : Kt p e below T224 st0 (mkF m 236 #[vi k_, vi a_, vi b_, vi d_, vj n_, .second, vi 2, .val (.int (((k_.toUInt32 >>> ((2 : Int32) &&& 31).toUInt32).toInt32) &&& (3 : Int32))), vi i36, vi i42, vi i48, vr b162, vi 1] [(rr b162)]) := fun t k => by
        refine c224 t ?_
        show S_ p e below T224 m 210 #[vi k_, vi a_, vi b_, vi d_, vj n_, .second, vi 2, .val (.int (((k_.toUInt32 >>> ((2 : Int32) &&& 31).toUInt32).toInt32) &&& (3 : Int32))), vi i36, vi i42, vi i48, vr b162, u_] [(ii 1)] t
        refine yI X224.here hx rfl 210 227 rfl (hb hby at_210) rfl rfl ?_
        refine XS.iconst X224.here hx rfl (hb hby at_227) ?_
        refine yG X224.here hx rfl 228 232 rfl (hb hby at_228) ?_
        refine XS.istore X224.here hx rfl (hb hby at_232) rfl (l' := #[vi k_, vi a_, vi b_, vi d_, vj n_, .second, vi 2, .val (.int (((k_.toUInt32 >>> ((2 : Int32) &&& 31).toUInt32).toInt32) &&& (3 : Int32))), vi i36, vi i42, vi i48, vr b162, vi 1]) rfl ?_
        refine XS.aload X224.here hx rfl (hb hby at_234) rfl rfl ?_
        exact k
       obtain ⟨_, T229, L229, X229, hQ229, c229⟩ := kstat X224 hx hZ hown (w26 hw) (w27 hw) (w28 hw) (w29 hw) (rm_isdL_2 l Z a0 hw [] b162 b194 k195 si1_ i36 i42 T189.heap n0 o202 p192 p193 p196 p197 ZS0_ sn4_ p39 p45 p200 p201) K226 c228 hml pd_pLjava_lang_Object_rZ [(rr b162)] [] 0 (hb hby at_236) rfl rfl rfl rfl rfl rfl
       rcases hQ229 with hQ229 | hQ229
       ·obtain ⟨rfl, N230q, K231, p232⟩ := hQ229
        have N230 := Fr.app N225 N230q
        obtain ⟨fs, hr, hrun, hended, hRW⟩ := X229.leaveW hS0 (by first | exact (Nat.le_trans (Nat.zero_le _) (Nat.le_trans (Nat.le_trans (Nat.le_trans (Nat.le_trans E162.1 E167.1) (Keep.of_wr W173).1) (Keep.of_wr W180).1) K191.1)) | (rw [K231]; exact (Nat.le_trans (Nat.zero_le _) (Nat.le_trans (Nat.le_trans (Nat.le_trans (Nat.le_trans E162.1 E167.1) (Keep.of_wr W173).1) (Keep.of_wr W180).1) K191.1)))) (v := some (ii 1)) (fun h => by rw [Bd.returns] at h; cases h)
        refine ⟨_, _, c229 _ ?_, hrun, hended, _, _, rfl, ?_, hRW.1, hRW.2.1, hRW.2.2.1, hRW.2.2.2.mono (by decide) (by decide)⟩
        ·show S_ p e below T229 m 239 #[vi k_, vi a_, vi b_, vi d_, vj n_, .second, vi 2, .val (.int (((k_.toUInt32 >>> ((2 : Int32) &&& 31).toUInt32).toInt32) &&& (3 : Int32))), vi i36, vi i42, vi i48, vr b162, vi 1] [(ii 1)] _
         refine XS.iload X229.here hx rfl (hb hby at_239) rfl ?_
         refine XS.icmpNo X229.here hx rfl (hb hby at_241) rfl rfl ?_
         refine XS.iconst X229.here hx rfl (hb hby at_244) ?_
         refine yG X229.here hx rfl 245 249 rfl (hb hby at_245) ?_
         show S_ p e below T229 m 249 #[vi k_, vi a_, vi b_, vi d_, vj n_, .second, vi 2, .val (.int (((k_.toUInt32 >>> ((2 : Int32) &&& 31).toUInt32).toInt32) &&& (3 : Int32))), vi i36, vi i42, vi i48, vr b162, vi 1] [(ii 1)] _
         exact retN X229 hx (t := .boolean) Bd.returns (by simp) (hb hby at_249) hr
        ·show Q_law Z k_ a_ b_ d_ n_ si1_ sa8_ sa13_ sv24_ sc11_ sc16_ h0 n0 _ T229.heap _
         rw [K231]
         exact ⟨rfl, N230, kp203⟩
       ·obtain ⟨rfl, N233q, K234, p235, p236⟩ := hQ229
        have N233 := Fr.app N225 N233q
        exact absurd p227 p236
      ·obtain ⟨rfl, N237q, K238, p239⟩ := hQ224
       have N237 := Fr.app N220 N237q
       have c240 : Kt p e below T224 st0 (mkF m 236 #[vi k_, vi a_, vi b_, vi d_, vj n_, .second, vi 2, .val (.int (((k_.toUInt32 >>> ((2 : Int32) &&& 31).toUInt32).toInt32) &&& (3 : Int32))), vi i36, vi i42, vi i48, vr b162, vi 0] [(rr b162)]) := fun t k => by
        refine c224 t ?_
        show S_ p e below T224 m 210 #[vi k_, vi a_, vi b_, vi d_, vj n_, .second, vi 2, .val (.int (((k_.toUInt32 >>> ((2 : Int32) &&& 31).toUInt32).toInt32) &&& (3 : Int32))), vi i36, vi i42, vi i48, vr b162, u_] [(ii 0)] t
        refine XS.ifNo X224.here hx rfl (hb hby at_210) rfl rfl ?_
        refine XS.iload X224.here hx rfl (hb hby at_213) rfl ?_
        refine XS.iconst X224.here hx rfl (hb hby at_215) ?_
        refine yC X224.here hx rfl 216 231 rfl (hb hby at_216) rfl rfl ?_
        refine XS.iconst X224.here hx rfl (hb hby at_231) ?_
        refine XS.istore X224.here hx rfl (hb hby at_232) rfl (l' := #[vi k_, vi a_, vi b_, vi d_, vj n_, .second, vi 2, .val (.int (((k_.toUInt32 >>> ((2 : Int32) &&& 31).toUInt32).toInt32) &&& (3 : Int32))), vi i36, vi i42, vi i48, vr b162, vi 0]) rfl ?_
        refine XS.aload X224.here hx rfl (hb hby at_234) rfl rfl ?_
        exact k
       obtain ⟨_, T241, L241, X241, hQ241, c241⟩ := kstat X224 hx hZ hown (w26 hw) (w27 hw) (w28 hw) (w29 hw) (rm_isdL_2 l Z a0 hw [] b162 b194 k195 si1_ i36 i42 T189.heap n0 o202 p192 p193 p196 p197 ZS0_ sn4_ p39 p45 p200 p201) K238 c240 hml pd_pLjava_lang_Object_rZ [(rr b162)] [] 0 (hb hby at_236) rfl rfl rfl rfl rfl rfl
       rcases hQ241 with hQ241 | hQ241
       ·obtain ⟨rfl, N242q, K243, p244⟩ := hQ241
        have N242 := Fr.app N237 N242q
        exact absurd p244 (fun q => Or.elim q p222 p239)
       ·obtain ⟨rfl, N245q, K246, p247, p248⟩ := hQ241
        have N245 := Fr.app N237 N245q
        obtain ⟨fs, hr, hrun, hended, hRW⟩ := X241.leaveW hS0 (by first | exact (Nat.le_trans (Nat.zero_le _) (Nat.le_trans (Nat.le_trans (Nat.le_trans (Nat.le_trans E162.1 E167.1) (Keep.of_wr W173).1) (Keep.of_wr W180).1) K191.1)) | (rw [K246]; exact (Nat.le_trans (Nat.zero_le _) (Nat.le_trans (Nat.le_trans (Nat.le_trans (Nat.le_trans E162.1 E167.1) (Keep.of_wr W173).1) (Keep.of_wr W180).1) K191.1)))) (v := some (ii 1)) (fun h => by rw [Bd.returns] at h; cases h)
        refine ⟨_, _, c241 _ ?_, hrun, hended, _, _, rfl, ?_, hRW.1, hRW.2.1, hRW.2.2.1, hRW.2.2.2.mono (by decide) (by decide)⟩
        ·show S_ p e below T241 m 239 #[vi k_, vi a_, vi b_, vi d_, vj n_, .second, vi 2, .val (.int (((k_.toUInt32 >>> ((2 : Int32) &&& 31).toUInt32).toInt32) &&& (3 : Int32))), vi i36, vi i42, vi i48, vr b162, vi 0] [(ii 0)] _
         refine XS.iload X241.here hx rfl (hb hby at_239) rfl ?_
         refine XS.icmpNo X241.here hx rfl (hb hby at_241) rfl rfl ?_
         refine XS.iconst X241.here hx rfl (hb hby at_244) ?_
         refine yG X241.here hx rfl 245 249 rfl (hb hby at_245) ?_
         show S_ p e below T241 m 249 #[vi k_, vi a_, vi b_, vi d_, vj n_, .second, vi 2, .val (.int (((k_.toUInt32 >>> ((2 : Int32) &&& 31).toUInt32).toInt32) &&& (3 : Int32))), vi i36, vi i42, vi i48, vr b162, vi 0] [(ii 1)] _
         exact retN X241 hx (t := .boolean) Bd.returns (by simp) (hb hby at_249) hr
        ·show Q_law Z k_ a_ b_ d_ n_ si1_ sa8_ sa13_ sv24_ sc11_ sc16_ h0 n0 _ T241.heap _
         rw [K246]
         exact ⟨rfl, N245, kp203⟩
    ·obtain ⟨rfl, N249q, K250, p251, p252, b253, k254, p255, p256, p257, p258⟩ := hQ189
     have N249 := Fr.app N182 N249q
     have o259 := o181.keep K250 (allS g162 all0)
     have kp260 := kp185.trans K250 (allS (Or.inr z165) all0)
     have z261 := Nat.le_trans kp185.1 p258
     have g262 := Nat.le_trans (Nat.le_trans (Nat.le_of_eq o181.1.symm) o181.2.1) p258
     have c263 : Kt p e below T189 st0 (mkF m 193 #[vi k_, vi a_, vi b_, vi d_, vj n_, .second, vi 2, .val (.int (((k_.toUInt32 >>> ((2 : Int32) &&& 31).toUInt32).toInt32) &&& (3 : Int32))), vi i36, vi i42, vi i48, vr b162, u_] [(.int i36)]) := fun t k => by
      refine c189 t ?_
      show S_ p e below T189 m 153 #[vi k_, vi a_, vi b_, vi d_, vj n_, .second, vi 2, .val (.int (((k_.toUInt32 >>> ((2 : Int32) &&& 31).toUInt32).toInt32) &&& (3 : Int32))), vi i36, vi i42, vi i48, u_, u_] [(rr b162)] t
      refine XS.astore X189.here hx rfl (hb hby at_153) rfl rfl (l' := #[vi k_, vi a_, vi b_, vi d_, vj n_, .second, vi 2, .val (.int (((k_.toUInt32 >>> ((2 : Int32) &&& 31).toUInt32).toInt32) &&& (3 : Int32))), vi i36, vi i42, vi i48, vr b162, u_]) rfl ?_
      refine yG X189.here hx rfl 155 185 rfl (hb hby at_155) ?_
      refine XS.iload X189.here hx rfl (hb hby at_185) rfl ?_
      refine XS.iconst X189.here hx rfl (hb hby at_187) ?_
      refine XS.icmpNo X189.here hx rfl (hb hby at_188) rfl rfl ?_
      refine XS.iload X189.here hx rfl (hb hby at_191) rfl ?_
      exact k
     obtain ⟨_, T264, L264, X264, hQ264, c264⟩ := kstat X189 hx hZ hown (w119 hw) (w120 hw) (w2 hw) (w121 hw) (rm_mark l Z a0 hw [] i36 T189.heap n0 o259 ) rfl c263 hml pd_pCrZ [(.int i36)] [] 0 (hb hby at_193) rfl rfl rfl rfl rfl rfl
     rcases hQ264 with hQ264 | hQ264
     ·obtain ⟨rfl, N265q, K266, p267⟩ := hQ264
      have N265 := Fr.app N249 N265q
      have c268 : Kt p e below T264 st0 (mkF m 236 #[vi k_, vi a_, vi b_, vi d_, vj n_, .second, vi 2, .val (.int (((k_.toUInt32 >>> ((2 : Int32) &&& 31).toUInt32).toInt32) &&& (3 : Int32))), vi i36, vi i42, vi i48, vr b162, vi 1] [(rr b162)]) := fun t k => by
       refine c264 t ?_
       show S_ p e below T264 m 196 #[vi k_, vi a_, vi b_, vi d_, vj n_, .second, vi 2, .val (.int (((k_.toUInt32 >>> ((2 : Int32) &&& 31).toUInt32).toInt32) &&& (3 : Int32))), vi i36, vi i42, vi i48, vr b162, u_] [(ii 1)] t
       refine yI X264.here hx rfl 196 227 rfl (hb hby at_196) rfl rfl ?_
       refine XS.iconst X264.here hx rfl (hb hby at_227) ?_
       refine yG X264.here hx rfl 228 232 rfl (hb hby at_228) ?_
       refine XS.istore X264.here hx rfl (hb hby at_232) rfl (l' := #[vi k_, vi a_, vi b_, vi d_, vj n_, .second, vi 2, .val (.int (((k_.toUInt32 >>> ((2 : Int32) &&& 31).toUInt32).toInt32) &&& (3 : Int32))), vi i36, vi i42, vi i48, vr b162, vi 1]) rfl ?_
       refine XS.aload X264.here hx rfl (hb hby at_234) rfl rfl ?_
       exact k
      obtain ⟨_, T269, L269, X269, hQ269, c269⟩ := kstat X264 hx hZ hown (w26 hw) (w27 hw) (w28 hw) (w29 hw) (rm_isdU_2 l Z a0 hw [] b162 b253 k254 si1_ i36 i42 sv24_ T189.heap n0 o259 p251 p252 p255 p256 ZS0_ sn4_ p39 p45 ZS7_ ZS8_ ZS9_ ZS11_ sv24_r) K266 c268 hml pd_pLjava_lang_Object_rZ [(rr b162)] [] 0 (hb hby at_236) rfl rfl rfl rfl rfl rfl
      rcases hQ269 with hQ269 | hQ269
      ·obtain ⟨rfl, N270q, K271, p272⟩ := hQ269
       have N270 := Fr.app N265 N270q
       obtain ⟨fs, hr, hrun, hended, hRW⟩ := X269.leaveW hS0 (by first | exact (Nat.le_trans (Nat.zero_le _) (Nat.le_trans (Nat.le_trans (Nat.le_trans (Nat.le_trans E162.1 E167.1) (Keep.of_wr W173).1) (Keep.of_wr W180).1) K250.1)) | (rw [K271]; exact (Nat.le_trans (Nat.zero_le _) (Nat.le_trans (Nat.le_trans (Nat.le_trans (Nat.le_trans E162.1 E167.1) (Keep.of_wr W173).1) (Keep.of_wr W180).1) K250.1)))) (v := some (ii 1)) (fun h => by rw [Bd.returns] at h; cases h)
       refine ⟨_, _, c269 _ ?_, hrun, hended, _, _, rfl, ?_, hRW.1, hRW.2.1, hRW.2.2.1, hRW.2.2.2.mono (by decide) (by decide)⟩
       ·show S_ p e below T269 m 239 #[vi k_, vi a_, vi b_, vi d_, vj n_, .second, vi 2, .val (.int (((k_.toUInt32 >>> ((2 : Int32) &&& 31).toUInt32).toInt32) &&& (3 : Int32))), vi i36, vi i42, vi i48, vr b162, vi 1] [(ii 1)] _
        refine XS.iload X269.here hx rfl (hb hby at_239) rfl ?_
        refine XS.icmpNo X269.here hx rfl (hb hby at_241) rfl rfl ?_
        refine XS.iconst X269.here hx rfl (hb hby at_244) ?_
        refine yG X269.here hx rfl 245 249 rfl (hb hby at_245) ?_
        show S_ p e below T269 m 249 #[vi k_, vi a_, vi b_, vi d_, vj n_, .second, vi 2, .val (.int (((k_.toUInt32 >>> ((2 : Int32) &&& 31).toUInt32).toInt32) &&& (3 : Int32))), vi i36, vi i42, vi i48, vr b162, vi 1] [(ii 1)] _
        exact retN X269 hx (t := .boolean) Bd.returns (by simp) (hb hby at_249) hr
       ·show Q_law Z k_ a_ b_ d_ n_ si1_ sa8_ sa13_ sv24_ sc11_ sc16_ h0 n0 _ T269.heap _
        rw [K271]
        exact ⟨rfl, N270, kp260⟩
      ·obtain ⟨rfl, N273q, K274, p275, p276⟩ := hQ269
       have N273 := Fr.app N265 N273q
       exact absurd p267 p275
     ·obtain ⟨rfl, N277q, K278, p279⟩ := hQ264
      have N277 := Fr.app N249 N277q
      have c280 : Kt p e below T264 st0 (mkF m 207 #[vi k_, vi a_, vi b_, vi d_, vj n_, .second, vi 2, .val (.int (((k_.toUInt32 >>> ((2 : Int32) &&& 31).toUInt32).toInt32) &&& (3 : Int32))), vi i36, vi i42, vi i48, vr b162, u_] [(.int i42)]) := fun t k => by
       refine c264 t ?_
       show S_ p e below T264 m 196 #[vi k_, vi a_, vi b_, vi d_, vj n_, .second, vi 2, .val (.int (((k_.toUInt32 >>> ((2 : Int32) &&& 31).toUInt32).toInt32) &&& (3 : Int32))), vi i36, vi i42, vi i48, vr b162, u_] [(ii 0)] t
       refine XS.ifNo X264.here hx rfl (hb hby at_196) rfl rfl ?_
       refine XS.iload X264.here hx rfl (hb hby at_199) rfl ?_
       refine XS.iconst X264.here hx rfl (hb hby at_201) ?_
       refine XS.icmpNo X264.here hx rfl (hb hby at_202) rfl rfl ?_
       refine XS.iload X264.here hx rfl (hb hby at_205) rfl ?_
       exact k
      obtain ⟨_, T281, L281, X281, hQ281, c281⟩ := kstat X264 hx hZ hown (w119 hw) (w120 hw) (w2 hw) (w121 hw) (rm_mark l Z a0 hw [] i42 T189.heap n0 o259 ) K278 c280 hml pd_pCrZ [(.int i42)] [] 0 (hb hby at_207) rfl rfl rfl rfl rfl rfl
      rcases hQ281 with hQ281 | hQ281
      ·obtain ⟨rfl, N282q, K283, p284⟩ := hQ281
       have N282 := Fr.app N277 N282q
       have c285 : Kt p e below T281 st0 (mkF m 236 #[vi k_, vi a_, vi b_, vi d_, vj n_, .second, vi 2, .val (.int (((k_.toUInt32 >>> ((2 : Int32) &&& 31).toUInt32).toInt32) &&& (3 : Int32))), vi i36, vi i42, vi i48, vr b162, vi 1] [(rr b162)]) := fun t k => by
        refine c281 t ?_
        show S_ p e below T281 m 210 #[vi k_, vi a_, vi b_, vi d_, vj n_, .second, vi 2, .val (.int (((k_.toUInt32 >>> ((2 : Int32) &&& 31).toUInt32).toInt32) &&& (3 : Int32))), vi i36, vi i42, vi i48, vr b162, u_] [(ii 1)] t
        refine yI X281.here hx rfl 210 227 rfl (hb hby at_210) rfl rfl ?_
        refine XS.iconst X281.here hx rfl (hb hby at_227) ?_
        refine yG X281.here hx rfl 228 232 rfl (hb hby at_228) ?_
        refine XS.istore X281.here hx rfl (hb hby at_232) rfl (l' := #[vi k_, vi a_, vi b_, vi d_, vj n_, .second, vi 2, .val (.int (((k_.toUInt32 >>> ((2 : Int32) &&& 31).toUInt32).toInt32) &&& (3 : Int32))), vi i36, vi i42, vi i48, vr b162, vi 1]) rfl ?_
        refine XS.aload X281.here hx rfl (hb hby at_234) rfl rfl ?_
        exact k
       obtain ⟨_, T286, L286, X286, hQ286, c286⟩ := kstat X281 hx hZ hown (w26 hw) (w27 hw) (w28 hw) (w29 hw) (rm_isdU_2 l Z a0 hw [] b162 b253 k254 si1_ i36 i42 sv24_ T189.heap n0 o259 p251 p252 p255 p256 ZS0_ sn4_ p39 p45 ZS7_ ZS8_ ZS9_ ZS11_ sv24_r) K283 c285 hml pd_pLjava_lang_Object_rZ [(rr b162)] [] 0 (hb hby at_236) rfl rfl rfl rfl rfl rfl
       rcases hQ286 with hQ286 | hQ286
       ·obtain ⟨rfl, N287q, K288, p289⟩ := hQ286
        have N287 := Fr.app N282 N287q
        obtain ⟨fs, hr, hrun, hended, hRW⟩ := X286.leaveW hS0 (by first | exact (Nat.le_trans (Nat.zero_le _) (Nat.le_trans (Nat.le_trans (Nat.le_trans (Nat.le_trans E162.1 E167.1) (Keep.of_wr W173).1) (Keep.of_wr W180).1) K250.1)) | (rw [K288]; exact (Nat.le_trans (Nat.zero_le _) (Nat.le_trans (Nat.le_trans (Nat.le_trans (Nat.le_trans E162.1 E167.1) (Keep.of_wr W173).1) (Keep.of_wr W180).1) K250.1)))) (v := some (ii 1)) (fun h => by rw [Bd.returns] at h; cases h)
        refine ⟨_, _, c286 _ ?_, hrun, hended, _, _, rfl, ?_, hRW.1, hRW.2.1, hRW.2.2.1, hRW.2.2.2.mono (by decide) (by decide)⟩
        ·show S_ p e below T286 m 239 #[vi k_, vi a_, vi b_, vi d_, vj n_, .second, vi 2, .val (.int (((k_.toUInt32 >>> ((2 : Int32) &&& 31).toUInt32).toInt32) &&& (3 : Int32))), vi i36, vi i42, vi i48, vr b162, vi 1] [(ii 1)] _
         refine XS.iload X286.here hx rfl (hb hby at_239) rfl ?_
         refine XS.icmpNo X286.here hx rfl (hb hby at_241) rfl rfl ?_
         refine XS.iconst X286.here hx rfl (hb hby at_244) ?_
         refine yG X286.here hx rfl 245 249 rfl (hb hby at_245) ?_
         show S_ p e below T286 m 249 #[vi k_, vi a_, vi b_, vi d_, vj n_, .second, vi 2, .val (.int (((k_.toUInt32 >>> ((2 : Int32) &&& 31).toUInt32).toInt32) &&& (3 : Int32))), vi i36, vi i42, vi i48, vr b162, vi 1] [(ii 1)] _
         exact retN X286 hx (t := .boolean) Bd.returns (by simp) (hb hby at_249) hr
        ·show Q_law Z k_ a_ b_ d_ n_ si1_ sa8_ sa13_ sv24_ sc11_ sc16_ h0 n0 _ T286.heap _
         rw [K288]
         exact ⟨rfl, N287, kp260⟩
       ·obtain ⟨rfl, N290q, K291, p292, p293⟩ := hQ286
        have N290 := Fr.app N282 N290q
        exact absurd p284 p293
      ·obtain ⟨rfl, N294q, K295, p296⟩ := hQ281
       have N294 := Fr.app N277 N294q
       have c297 : Kt p e below T281 st0 (mkF m 236 #[vi k_, vi a_, vi b_, vi d_, vj n_, .second, vi 2, .val (.int (((k_.toUInt32 >>> ((2 : Int32) &&& 31).toUInt32).toInt32) &&& (3 : Int32))), vi i36, vi i42, vi i48, vr b162, vi 0] [(rr b162)]) := fun t k => by
        refine c281 t ?_
        show S_ p e below T281 m 210 #[vi k_, vi a_, vi b_, vi d_, vj n_, .second, vi 2, .val (.int (((k_.toUInt32 >>> ((2 : Int32) &&& 31).toUInt32).toInt32) &&& (3 : Int32))), vi i36, vi i42, vi i48, vr b162, u_] [(ii 0)] t
        refine XS.ifNo X281.here hx rfl (hb hby at_210) rfl rfl ?_
        refine XS.iload X281.here hx rfl (hb hby at_213) rfl ?_
        refine XS.iconst X281.here hx rfl (hb hby at_215) ?_
        refine yC X281.here hx rfl 216 231 rfl (hb hby at_216) rfl rfl ?_
        refine XS.iconst X281.here hx rfl (hb hby at_231) ?_
        refine XS.istore X281.here hx rfl (hb hby at_232) rfl (l' := #[vi k_, vi a_, vi b_, vi d_, vj n_, .second, vi 2, .val (.int (((k_.toUInt32 >>> ((2 : Int32) &&& 31).toUInt32).toInt32) &&& (3 : Int32))), vi i36, vi i42, vi i48, vr b162, vi 0]) rfl ?_
        refine XS.aload X281.here hx rfl (hb hby at_234) rfl rfl ?_
        exact k
       obtain ⟨_, T298, L298, X298, hQ298, c298⟩ := kstat X281 hx hZ hown (w26 hw) (w27 hw) (w28 hw) (w29 hw) (rm_isdU_2 l Z a0 hw [] b162 b253 k254 si1_ i36 i42 sv24_ T189.heap n0 o259 p251 p252 p255 p256 ZS0_ sn4_ p39 p45 ZS7_ ZS8_ ZS9_ ZS11_ sv24_r) K295 c297 hml pd_pLjava_lang_Object_rZ [(rr b162)] [] 0 (hb hby at_236) rfl rfl rfl rfl rfl rfl
       rcases hQ298 with hQ298 | hQ298
       ·obtain ⟨rfl, N299q, K300, p301⟩ := hQ298
        have N299 := Fr.app N294 N299q
        exact absurd p301 (fun q => Or.elim q p279 p296)
       ·obtain ⟨rfl, N302q, K303, p304, p305⟩ := hQ298
        have N302 := Fr.app N294 N302q
        obtain ⟨fs, hr, hrun, hended, hRW⟩ := X298.leaveW hS0 (by first | exact (Nat.le_trans (Nat.zero_le _) (Nat.le_trans (Nat.le_trans (Nat.le_trans (Nat.le_trans E162.1 E167.1) (Keep.of_wr W173).1) (Keep.of_wr W180).1) K250.1)) | (rw [K303]; exact (Nat.le_trans (Nat.zero_le _) (Nat.le_trans (Nat.le_trans (Nat.le_trans (Nat.le_trans E162.1 E167.1) (Keep.of_wr W173).1) (Keep.of_wr W180).1) K250.1)))) (v := some (ii 1)) (fun h => by rw [Bd.returns] at h; cases h)
        refine ⟨_, _, c298 _ ?_, hrun, hended, _, _, rfl, ?_, hRW.1, hRW.2.1, hRW.2.2.1, hRW.2.2.2.mono (by decide) (by decide)⟩
        ·show S_ p e below T298 m 239 #[vi k_, vi a_, vi b_, vi d_, vj n_, .second, vi 2, .val (.int (((k_.toUInt32 >>> ((2 : Int32) &&& 31).toUInt32).toInt32) &&& (3 : Int32))), vi i36, vi i42, vi i48, vr b162, vi 0] [(ii 0)] _
         refine XS.iload X298.here hx rfl (hb hby at_239) rfl ?_
         refine XS.icmpNo X298.here hx rfl (hb hby at_241) rfl rfl ?_
         refine XS.iconst X298.here hx rfl (hb hby at_244) ?_
         refine yG X298.here hx rfl 245 249 rfl (hb hby at_245) ?_
         show S_ p e below T298 m 249 #[vi k_, vi a_, vi b_, vi d_, vj n_, .second, vi 2, .val (.int (((k_.toUInt32 >>> ((2 : Int32) &&& 31).toUInt32).toInt32) &&& (3 : Int32))), vi i36, vi i42, vi i48, vr b162, vi 0] [(ii 1)] _
         exact retN X298 hx (t := .boolean) Bd.returns (by simp) (hb hby at_249) hr
        ·show Q_law Z k_ a_ b_ d_ n_ si1_ sa8_ sa13_ sv24_ sc11_ sc16_ h0 n0 _ T298.heap _
         rw [K303]
         exact ⟨rfl, N302, kp260⟩
   ·rw [hv53] at c52
    have c306 : Kt p e below T47 st0 (mkF m 158 #[vi k_, vi a_, vi b_, vi d_, vj n_, .second, vi 3, .val (.int (((k_.toUInt32 >>> ((2 : Int32) &&& 31).toUInt32).toInt32) &&& (3 : Int32))), vi i36, vi i42, vi i48, u_, u_] []) := fun t k => by
     refine c52 t ?_
     show S_ p e below T47 m 91 #[vi k_, vi a_, vi b_, vi d_, vj n_, .second, vi 3, .val (.int (((k_.toUInt32 >>> ((2 : Int32) &&& 31).toUInt32).toInt32) &&& (3 : Int32))), vi i36, vi i42, vi i48, u_, u_] [] t
     refine XS.iload X47.here hx rfl (hb hby at_91) rfl ?_
     refine yI X47.here hx rfl 93 111 rfl (hb hby at_93) rfl rfl ?_
     refine XS.iload X47.here hx rfl (hb hby at_111) rfl ?_
     refine XS.iconst X47.here hx rfl (hb hby at_113) ?_
     refine yC X47.here hx rfl 114 127 rfl (hb hby at_114) rfl rfl ?_
     refine XS.iload X47.here hx rfl (hb hby at_127) rfl ?_
     refine XS.iconst X47.here hx rfl (hb hby at_129) ?_
     refine yC X47.here hx rfl 130 158 rfl (hb hby at_130) rfl rfl ?_
     exact k
    obtain ⟨b307, T307, h307, z307, g307, X307, e307, E307, o308, A307, D307, U307, c307⟩ := knew X47 hx hZ hown (w4 hw) (w5 hw) (w6 hw) K50 c306 rfl (hb hby at_158) (by decide) (by decide) O0
    have kp309 := kp0.ext E307
    have z310 := Nat.le_trans kp0.1 z307
    have c311 : Kt p e below T307 st0 (mkF m 163 #[vi k_, vi a_, vi b_, vi d_, vj n_, .second, vi 3, .val (.int (((k_.toUInt32 >>> ((2 : Int32) &&& 31).toUInt32).toInt32) &&& (3 : Int32))), vi i36, vi i42, vi i48, u_, u_] [(ii 3), (rr b307), (rr b307)]) := fun t k => by
     refine c307 t ?_
     show S_ p e below T307 m 161 #[vi k_, vi a_, vi b_, vi d_, vj n_, .second, vi 3, .val (.int (((k_.toUInt32 >>> ((2 : Int32) &&& 31).toUInt32).toInt32) &&& (3 : Int32))), vi i36, vi i42, vi i48, u_, u_] [(rr b307)] t
     refine XS.dup X307.here hx rfl (hb hby at_161) rfl rfl ?_
     refine XS.iconst X307.here hx rfl (hb hby at_162) ?_
     exact k
    obtain ⟨b312, T312, h312, k312, z312, g312, X312, e312, E312, o313, A312, c312⟩ := knewP (aty := .char) X307 hx hZ (w7 hw) e307 c311 rfl (hb hby at_163) rfl (by decide) 3 (by decide) (by decide) (by decide) (by decide) o308
    have kp315 := kp309.ext E312
    have z316 := Nat.le_trans kp309.1 z312
    have f314 : Arv Z h312 b312 k312 .char (3 : Int32) [(ii 0), (ii 0), (ii 0)] (ii 0) := A312.pad (pad_rep [] (ii 0) 3)
    have c317 : Kt p e below T312 st0 (mkF m 169 #[vi k_, vi a_, vi b_, vi d_, vj n_, .second, vi 3, .val (.int (((k_.toUInt32 >>> ((2 : Int32) &&& 31).toUInt32).toInt32) &&& (3 : Int32))), vi i36, vi i42, vi i48, u_, u_] [(.int i36), (ii 0), (rr b312), (rr b312), (rr b307), (rr b307)]) := fun t k => by
     refine c312 t ?_
     show S_ p e below T312 m 165 #[vi k_, vi a_, vi b_, vi d_, vj n_, .second, vi 3, .val (.int (((k_.toUInt32 >>> ((2 : Int32) &&& 31).toUInt32).toInt32) &&& (3 : Int32))), vi i36, vi i42, vi i48, u_, u_] [(rr b312), (rr b307), (rr b307)] t
     refine XS.dup X312.here hx rfl (hb hby at_165) rfl rfl ?_
     refine XS.iconst X312.here hx rfl (hb hby at_166) ?_
     refine XS.iload X312.here hx rfl (hb hby at_167) rfl ?_
     exact k
    obtain ⟨T318, h318, X318, e318, W318, f321, o319, N320, c318⟩ := kstC X312 hx hZ e312 f314 (j := (0 : Int32)) (by decide) (by decide) 0 rfl (Nat.le_of_ble_eq_true rfl) c317 rfl rfl (hb hby at_169) o313 N49 g312
    rw [p39] at W318 f321
    have f322 : Arv Z h318 b312 k312 .char (3 : Int32) [(.int i36), (ii 0), (ii 0)] (ii 0) := f321
    have kp323 := kp315.wr W318 (Or.inr z316)
    have c324 : Kt p e below T318 st0 (mkF m 174 #[vi k_, vi a_, vi b_, vi d_, vj n_, .second, vi 3, .val (.int (((k_.toUInt32 >>> ((2 : Int32) &&& 31).toUInt32).toInt32) &&& (3 : Int32))), vi i36, vi i42, vi i48, u_, u_] [(.int i42), (ii 1), (rr b312), (rr b312), (rr b307), (rr b307)]) := fun t k => by
     refine c318 t ?_
     show S_ p e below T318 m 170 #[vi k_, vi a_, vi b_, vi d_, vj n_, .second, vi 3, .val (.int (((k_.toUInt32 >>> ((2 : Int32) &&& 31).toUInt32).toInt32) &&& (3 : Int32))), vi i36, vi i42, vi i48, u_, u_] [(rr b312), (rr b307), (rr b307)] t
     refine XS.dup X318.here hx rfl (hb hby at_170) rfl rfl ?_
     refine XS.iconst X318.here hx rfl (hb hby at_171) ?_
     refine XS.iload X318.here hx rfl (hb hby at_172) rfl ?_
     exact k
    obtain ⟨T325, h325, X325, e325, W325, f328, o326, N327, c325⟩ := kstC X318 hx hZ e318 f322 (j := (1 : Int32)) (by decide) (by decide) 1 rfl (Nat.le_of_ble_eq_true rfl) c324 rfl rfl (hb hby at_174) o319 N320 g312
    rw [p45] at W325 f328
    have f329 : Arv Z h325 b312 k312 .char (3 : Int32) [(.int i36), (.int i42), (ii 0)] (ii 0) := f328
    have kp330 := kp323.wr W325 (Or.inr z316)
    have c331 : Kt p e below T325 st0 (mkF m 179 #[vi k_, vi a_, vi b_, vi d_, vj n_, .second, vi 3, .val (.int (((k_.toUInt32 >>> ((2 : Int32) &&& 31).toUInt32).toInt32) &&& (3 : Int32))), vi i36, vi i42, vi i48, u_, u_] [(.int i48), (ii 2), (rr b312), (rr b312), (rr b307), (rr b307)]) := fun t k => by
     refine c325 t ?_
     show S_ p e below T325 m 175 #[vi k_, vi a_, vi b_, vi d_, vj n_, .second, vi 3, .val (.int (((k_.toUInt32 >>> ((2 : Int32) &&& 31).toUInt32).toInt32) &&& (3 : Int32))), vi i36, vi i42, vi i48, u_, u_] [(rr b312), (rr b307), (rr b307)] t
     refine XS.dup X325.here hx rfl (hb hby at_175) rfl rfl ?_
     refine XS.iconst X325.here hx rfl (hb hby at_176) ?_
     refine XS.iload X325.here hx rfl (hb hby at_177) rfl ?_
     exact k
    obtain ⟨T332, h332, X332, e332, W332, f335, o333, N334, c332⟩ := kstC X325 hx hZ e325 f329 (j := (2 : Int32)) (by decide) (by decide) 2 rfl (Nat.le_of_ble_eq_true rfl) c331 rfl rfl (hb hby at_179) o326 N327 g312
    rw [p51] at W332 f335
    have f336 : Arv Z h332 b312 k312 .char (3 : Int32) [(.int i36), (.int i42), (.int i48)] (ii 0) := f335
    have kp337 := kp330.wr W332 (Or.inr z316)
    have q338 := Nat.ne_of_lt (Nat.lt_of_lt_of_le A307.lt z312)
    have f339 := ((((show Fld Z h307 b307 nm0 "value" "[B" .null from D307 (Or.inr (w20 hw)) (ty := (.array .byte)) (by decide)).ext E312).other W318 (Or.inl q338)).other W325 (Or.inl q338)).other W332 (Or.inl q338)
    have f340 := ((((show Fld Z h307 b307 nm0 "coder" "B" (ii 0) from D307 (Or.inr (w21 hw)) (ty := .byte) (by decide)).ext E312).other W318 (Or.inl q338)).other W325 (Or.inl q338)).other W332 (Or.inl q338)
    obtain ⟨_, T341, L341, X341, hQ341, c341⟩ := kspec X332 hx hZ hown (w8 hw) (w9 hw) (w6 hw) (w10 hw) (rm_str1a_3 l Z a0 hw [] b307 b312 k312 si1_ i36 i42 i48 h332 n0 o333 ((((A307.ext E312).wr W318).wr W325).wr W332) f339 f340 g307 f336 ZS0_ sn4_ ZS7_ ZS8_ ZS9_ p39 p45 p51) e332 c332 hml pd_pACrV b307 [(rr b312)] [(rr b307)] 1 (hb hby at_180) rfl rfl rfl rfl rfl rfl
    rcases hQ341 with hQ341 | hQ341
    ·obtain ⟨rfl, N342q, K343, p344, p345, b346, k347, p348, p349, p350, p351, p352, p353, p354⟩ := hQ341
     have N342 := Fr.app N334 N342q
     have o355 := o333.keep K343 (allS g307 all0)
     have kp356 := kp337.trans K343 (allS (Or.inr z310) all0)
     have z357 := Nat.le_trans kp337.1 p351
     have g358 := Nat.le_trans (Nat.le_trans (Nat.le_of_eq o333.1.symm) o333.2.1) p351
     have c359 : Kt p e below T341 st0 (mkF m 193 #[vi k_, vi a_, vi b_, vi d_, vj n_, .second, vi 3, .val (.int (((k_.toUInt32 >>> ((2 : Int32) &&& 31).toUInt32).toInt32) &&& (3 : Int32))), vi i36, vi i42, vi i48, vr b307, u_] [(.int i36)]) := fun t k => by
      refine c341 t ?_
      show S_ p e below T341 m 183 #[vi k_, vi a_, vi b_, vi d_, vj n_, .second, vi 3, .val (.int (((k_.toUInt32 >>> ((2 : Int32) &&& 31).toUInt32).toInt32) &&& (3 : Int32))), vi i36, vi i42, vi i48, u_, u_] [(rr b307)] t
      refine XS.astore X341.here hx rfl (hb hby at_183) rfl rfl (l' := #[vi k_, vi a_, vi b_, vi d_, vj n_, .second, vi 3, .val (.int (((k_.toUInt32 >>> ((2 : Int32) &&& 31).toUInt32).toInt32) &&& (3 : Int32))), vi i36, vi i42, vi i48, vr b307, u_]) rfl ?_
      refine XS.iload X341.here hx rfl (hb hby at_185) rfl ?_
      refine XS.iconst X341.here hx rfl (hb hby at_187) ?_
      refine XS.icmpNo X341.here hx rfl (hb hby at_188) rfl rfl ?_
      refine XS.iload X341.here hx rfl (hb hby at_191) rfl ?_
      exact k
     obtain ⟨_, T360, L360, X360, hQ360, c360⟩ := kstat X341 hx hZ hown (w119 hw) (w120 hw) (w2 hw) (w121 hw) (rm_mark l Z a0 hw [] i36 T341.heap n0 o355 ) rfl c359 hml pd_pCrZ [(.int i36)] [] 0 (hb hby at_193) rfl rfl rfl rfl rfl rfl
     rcases hQ360 with hQ360 | hQ360
     ·obtain ⟨rfl, N361q, K362, p363⟩ := hQ360
      have N361 := Fr.app N342 N361q
      have c364 : Kt p e below T360 st0 (mkF m 236 #[vi k_, vi a_, vi b_, vi d_, vj n_, .second, vi 3, .val (.int (((k_.toUInt32 >>> ((2 : Int32) &&& 31).toUInt32).toInt32) &&& (3 : Int32))), vi i36, vi i42, vi i48, vr b307, vi 1] [(rr b307)]) := fun t k => by
       refine c360 t ?_
       show S_ p e below T360 m 196 #[vi k_, vi a_, vi b_, vi d_, vj n_, .second, vi 3, .val (.int (((k_.toUInt32 >>> ((2 : Int32) &&& 31).toUInt32).toInt32) &&& (3 : Int32))), vi i36, vi i42, vi i48, vr b307, u_] [(ii 1)] t
       refine yI X360.here hx rfl 196 227 rfl (hb hby at_196) rfl rfl ?_
       refine XS.iconst X360.here hx rfl (hb hby at_227) ?_
       refine yG X360.here hx rfl 228 232 rfl (hb hby at_228) ?_
       refine XS.istore X360.here hx rfl (hb hby at_232) rfl (l' := #[vi k_, vi a_, vi b_, vi d_, vj n_, .second, vi 3, .val (.int (((k_.toUInt32 >>> ((2 : Int32) &&& 31).toUInt32).toInt32) &&& (3 : Int32))), vi i36, vi i42, vi i48, vr b307, vi 1]) rfl ?_
       refine XS.aload X360.here hx rfl (hb hby at_234) rfl rfl ?_
       exact k
      obtain ⟨_, T365, L365, X365, hQ365, c365⟩ := kstat X360 hx hZ hown (w26 hw) (w27 hw) (w28 hw) (w29 hw) (rm_isdL_3 l Z a0 hw [] b307 b346 k347 si1_ i36 i42 i48 T341.heap n0 o355 p344 p345 p348 p349 ZS0_ sn4_ p39 p45 p51 p352 p353 p354) K362 c364 hml pd_pLjava_lang_Object_rZ [(rr b307)] [] 0 (hb hby at_236) rfl rfl rfl rfl rfl rfl
      rcases hQ365 with hQ365 | hQ365
      ·obtain ⟨rfl, N366q, K367, p368⟩ := hQ365
       have N366 := Fr.app N361 N366q
       obtain ⟨fs, hr, hrun, hended, hRW⟩ := X365.leaveW hS0 (by first | exact (Nat.le_trans (Nat.zero_le _) (Nat.le_trans (Nat.le_trans (Nat.le_trans (Nat.le_trans (Nat.le_trans E307.1 E312.1) (Keep.of_wr W318).1) (Keep.of_wr W325).1) (Keep.of_wr W332).1) K343.1)) | (rw [K367]; exact (Nat.le_trans (Nat.zero_le _) (Nat.le_trans (Nat.le_trans (Nat.le_trans (Nat.le_trans (Nat.le_trans E307.1 E312.1) (Keep.of_wr W318).1) (Keep.of_wr W325).1) (Keep.of_wr W332).1) K343.1)))) (v := some (ii 1)) (fun h => by rw [Bd.returns] at h; cases h)
       refine ⟨_, _, c365 _ ?_, hrun, hended, _, _, rfl, ?_, hRW.1, hRW.2.1, hRW.2.2.1, hRW.2.2.2.mono (by decide) (by decide)⟩
       ·show S_ p e below T365 m 239 #[vi k_, vi a_, vi b_, vi d_, vj n_, .second, vi 3, .val (.int (((k_.toUInt32 >>> ((2 : Int32) &&& 31).toUInt32).toInt32) &&& (3 : Int32))), vi i36, vi i42, vi i48, vr b307, vi 1] [(ii 1)] _
        refine XS.iload X365.here hx rfl (hb hby at_239) rfl ?_
        refine XS.icmpNo X365.here hx rfl (hb hby at_241) rfl rfl ?_
        refine XS.iconst X365.here hx rfl (hb hby at_244) ?_
        refine yG X365.here hx rfl 245 249 rfl (hb hby at_245) ?_
        show S_ p e below T365 m 249 #[vi k_, vi a_, vi b_, vi d_, vj n_, .second, vi 3, .val (.int (((k_.toUInt32 >>> ((2 : Int32) &&& 31).toUInt32).toInt32) &&& (3 : Int32))), vi i36, vi i42, vi i48, vr b307, vi 1] [(ii 1)] _
        exact retN X365 hx (t := .boolean) Bd.returns (by simp) (hb hby at_249) hr
       ·show Q_law Z k_ a_ b_ d_ n_ si1_ sa8_ sa13_ sv24_ sc11_ sc16_ h0 n0 _ T365.heap _
        rw [K367]
        exact ⟨rfl, N366, kp356⟩
      ·obtain ⟨rfl, N369q, K370, p371, p372, p373⟩ := hQ365
       have N369 := Fr.app N361 N369q
       exact absurd p363 p371
     ·obtain ⟨rfl, N374q, K375, p376⟩ := hQ360
      have N374 := Fr.app N342 N374q
      have c377 : Kt p e below T360 st0 (mkF m 207 #[vi k_, vi a_, vi b_, vi d_, vj n_, .second, vi 3, .val (.int (((k_.toUInt32 >>> ((2 : Int32) &&& 31).toUInt32).toInt32) &&& (3 : Int32))), vi i36, vi i42, vi i48, vr b307, u_] [(.int i42)]) := fun t k => by
       refine c360 t ?_
       show S_ p e below T360 m 196 #[vi k_, vi a_, vi b_, vi d_, vj n_, .second, vi 3, .val (.int (((k_.toUInt32 >>> ((2 : Int32) &&& 31).toUInt32).toInt32) &&& (3 : Int32))), vi i36, vi i42, vi i48, vr b307, u_] [(ii 0)] t
       refine XS.ifNo X360.here hx rfl (hb hby at_196) rfl rfl ?_
       refine XS.iload X360.here hx rfl (hb hby at_199) rfl ?_
       refine XS.iconst X360.here hx rfl (hb hby at_201) ?_
       refine XS.icmpNo X360.here hx rfl (hb hby at_202) rfl rfl ?_
       refine XS.iload X360.here hx rfl (hb hby at_205) rfl ?_
       exact k
      obtain ⟨_, T378, L378, X378, hQ378, c378⟩ := kstat X360 hx hZ hown (w119 hw) (w120 hw) (w2 hw) (w121 hw) (rm_mark l Z a0 hw [] i42 T341.heap n0 o355 ) K375 c377 hml pd_pCrZ [(.int i42)] [] 0 (hb hby at_207) rfl rfl rfl rfl rfl rfl
      rcases hQ378 with hQ378 | hQ378
      ·obtain ⟨rfl, N379q, K380, p381⟩ := hQ378
       have N379 := Fr.app N374 N379q
       have c382 : Kt p e below T378 st0 (mkF m 236 #[vi k_, vi a_, vi b_, vi d_, vj n_, .second, vi 3, .val (.int (((k_.toUInt32 >>> ((2 : Int32) &&& 31).toUInt32).toInt32) &&& (3 : Int32))), vi i36, vi i42, vi i48, vr b307, vi 1] [(rr b307)]) := fun t k => by
        refine c378 t ?_
        show S_ p e below T378 m 210 #[vi k_, vi a_, vi b_, vi d_, vj n_, .second, vi 3, .val (.int (((k_.toUInt32 >>> ((2 : Int32) &&& 31).toUInt32).toInt32) &&& (3 : Int32))), vi i36, vi i42, vi i48, vr b307, u_] [(ii 1)] t
        refine yI X378.here hx rfl 210 227 rfl (hb hby at_210) rfl rfl ?_
        refine XS.iconst X378.here hx rfl (hb hby at_227) ?_
        refine yG X378.here hx rfl 228 232 rfl (hb hby at_228) ?_
        refine XS.istore X378.here hx rfl (hb hby at_232) rfl (l' := #[vi k_, vi a_, vi b_, vi d_, vj n_, .second, vi 3, .val (.int (((k_.toUInt32 >>> ((2 : Int32) &&& 31).toUInt32).toInt32) &&& (3 : Int32))), vi i36, vi i42, vi i48, vr b307, vi 1]) rfl ?_
        refine XS.aload X378.here hx rfl (hb hby at_234) rfl rfl ?_
        exact k
       obtain ⟨_, T383, L383, X383, hQ383, c383⟩ := kstat X378 hx hZ hown (w26 hw) (w27 hw) (w28 hw) (w29 hw) (rm_isdL_3 l Z a0 hw [] b307 b346 k347 si1_ i36 i42 i48 T341.heap n0 o355 p344 p345 p348 p349 ZS0_ sn4_ p39 p45 p51 p352 p353 p354) K380 c382 hml pd_pLjava_lang_Object_rZ [(rr b307)] [] 0 (hb hby at_236) rfl rfl rfl rfl rfl rfl
       rcases hQ383 with hQ383 | hQ383
       ·obtain ⟨rfl, N384q, K385, p386⟩ := hQ383
        have N384 := Fr.app N379 N384q
        obtain ⟨fs, hr, hrun, hended, hRW⟩ := X383.leaveW hS0 (by first | exact (Nat.le_trans (Nat.zero_le _) (Nat.le_trans (Nat.le_trans (Nat.le_trans (Nat.le_trans (Nat.le_trans E307.1 E312.1) (Keep.of_wr W318).1) (Keep.of_wr W325).1) (Keep.of_wr W332).1) K343.1)) | (rw [K385]; exact (Nat.le_trans (Nat.zero_le _) (Nat.le_trans (Nat.le_trans (Nat.le_trans (Nat.le_trans (Nat.le_trans E307.1 E312.1) (Keep.of_wr W318).1) (Keep.of_wr W325).1) (Keep.of_wr W332).1) K343.1)))) (v := some (ii 1)) (fun h => by rw [Bd.returns] at h; cases h)
        refine ⟨_, _, c383 _ ?_, hrun, hended, _, _, rfl, ?_, hRW.1, hRW.2.1, hRW.2.2.1, hRW.2.2.2.mono (by decide) (by decide)⟩
        ·show S_ p e below T383 m 239 #[vi k_, vi a_, vi b_, vi d_, vj n_, .second, vi 3, .val (.int (((k_.toUInt32 >>> ((2 : Int32) &&& 31).toUInt32).toInt32) &&& (3 : Int32))), vi i36, vi i42, vi i48, vr b307, vi 1] [(ii 1)] _
         refine XS.iload X383.here hx rfl (hb hby at_239) rfl ?_
         refine XS.icmpNo X383.here hx rfl (hb hby at_241) rfl rfl ?_
         refine XS.iconst X383.here hx rfl (hb hby at_244) ?_
         refine yG X383.here hx rfl 245 249 rfl (hb hby at_245) ?_
         show S_ p e below T383 m 249 #[vi k_, vi a_, vi b_, vi d_, vj n_, .second, vi 3, .val (.int (((k_.toUInt32 >>> ((2 : Int32) &&& 31).toUInt32).toInt32) &&& (3 : Int32))), vi i36, vi i42, vi i48, vr b307, vi 1] [(ii 1)] _
         exact retN X383 hx (t := .boolean) Bd.returns (by simp) (hb hby at_249) hr
        ·show Q_law Z k_ a_ b_ d_ n_ si1_ sa8_ sa13_ sv24_ sc11_ sc16_ h0 n0 _ T383.heap _
         rw [K385]
         exact ⟨rfl, N384, kp356⟩
       ·obtain ⟨rfl, N387q, K388, p389, p390, p391⟩ := hQ383
        have N387 := Fr.app N379 N387q
        exact absurd p381 p390
      ·obtain ⟨rfl, N392q, K393, p394⟩ := hQ378
       have N392 := Fr.app N374 N392q
       have c395 : Kt p e below T378 st0 (mkF m 221 #[vi k_, vi a_, vi b_, vi d_, vj n_, .second, vi 3, .val (.int (((k_.toUInt32 >>> ((2 : Int32) &&& 31).toUInt32).toInt32) &&& (3 : Int32))), vi i36, vi i42, vi i48, vr b307, u_] [(.int i48)]) := fun t k => by
        refine c378 t ?_
        show S_ p e below T378 m 210 #[vi k_, vi a_, vi b_, vi d_, vj n_, .second, vi 3, .val (.int (((k_.toUInt32 >>> ((2 : Int32) &&& 31).toUInt32).toInt32) &&& (3 : Int32))), vi i36, vi i42, vi i48, vr b307, u_] [(ii 0)] t
        refine XS.ifNo X378.here hx rfl (hb hby at_210) rfl rfl ?_
        refine XS.iload X378.here hx rfl (hb hby at_213) rfl ?_
        refine XS.iconst X378.here hx rfl (hb hby at_215) ?_
        refine XS.icmpNo X378.here hx rfl (hb hby at_216) rfl rfl ?_
        refine XS.iload X378.here hx rfl (hb hby at_219) rfl ?_
        exact k
       obtain ⟨_, T396, L396, X396, hQ396, c396⟩ := kstat X378 hx hZ hown (w119 hw) (w120 hw) (w2 hw) (w121 hw) (rm_mark l Z a0 hw [] i48 T341.heap n0 o355 ) K393 c395 hml pd_pCrZ [(.int i48)] [] 0 (hb hby at_221) rfl rfl rfl rfl rfl rfl
       rcases hQ396 with hQ396 | hQ396
       ·obtain ⟨rfl, N397q, K398, p399⟩ := hQ396
        have N397 := Fr.app N392 N397q
        have c400 : Kt p e below T396 st0 (mkF m 236 #[vi k_, vi a_, vi b_, vi d_, vj n_, .second, vi 3, .val (.int (((k_.toUInt32 >>> ((2 : Int32) &&& 31).toUInt32).toInt32) &&& (3 : Int32))), vi i36, vi i42, vi i48, vr b307, vi 1] [(rr b307)]) := fun t k => by
         refine c396 t ?_
         show S_ p e below T396 m 224 #[vi k_, vi a_, vi b_, vi d_, vj n_, .second, vi 3, .val (.int (((k_.toUInt32 >>> ((2 : Int32) &&& 31).toUInt32).toInt32) &&& (3 : Int32))), vi i36, vi i42, vi i48, vr b307, u_] [(ii 1)] t
         refine XS.ifNo X396.here hx rfl (hb hby at_224) rfl rfl ?_
         refine XS.iconst X396.here hx rfl (hb hby at_227) ?_
         refine yG X396.here hx rfl 228 232 rfl (hb hby at_228) ?_
         refine XS.istore X396.here hx rfl (hb hby at_232) rfl (l' := #[vi k_, vi a_, vi b_, vi d_, vj n_, .second, vi 3, .val (.int (((k_.toUInt32 >>> ((2 : Int32) &&& 31).toUInt32).toInt32) &&& (3 : Int32))), vi i36, vi i42, vi i48, vr b307, vi 1]) rfl ?_
         refine XS.aload X396.here hx rfl (hb hby at_234) rfl rfl ?_
         exact k
        obtain ⟨_, T401, L401, X401, hQ401, c401⟩ := kstat X396 hx hZ hown (w26 hw) (w27 hw) (w28 hw) (w29 hw) (rm_isdL_3 l Z a0 hw [] b307 b346 k347 si1_ i36 i42 i48 T341.heap n0 o355 p344 p345 p348 p349 ZS0_ sn4_ p39 p45 p51 p352 p353 p354) K398 c400 hml pd_pLjava_lang_Object_rZ [(rr b307)] [] 0 (hb hby at_236) rfl rfl rfl rfl rfl rfl
        rcases hQ401 with hQ401 | hQ401
        ·obtain ⟨rfl, N402q, K403, p404⟩ := hQ401
         have N402 := Fr.app N397 N402q
         obtain ⟨fs, hr, hrun, hended, hRW⟩ := X401.leaveW hS0 (by first | exact (Nat.le_trans (Nat.zero_le _) (Nat.le_trans (Nat.le_trans (Nat.le_trans (Nat.le_trans (Nat.le_trans E307.1 E312.1) (Keep.of_wr W318).1) (Keep.of_wr W325).1) (Keep.of_wr W332).1) K343.1)) | (rw [K403]; exact (Nat.le_trans (Nat.zero_le _) (Nat.le_trans (Nat.le_trans (Nat.le_trans (Nat.le_trans (Nat.le_trans E307.1 E312.1) (Keep.of_wr W318).1) (Keep.of_wr W325).1) (Keep.of_wr W332).1) K343.1)))) (v := some (ii 1)) (fun h => by rw [Bd.returns] at h; cases h)
         refine ⟨_, _, c401 _ ?_, hrun, hended, _, _, rfl, ?_, hRW.1, hRW.2.1, hRW.2.2.1, hRW.2.2.2.mono (by decide) (by decide)⟩
         ·show S_ p e below T401 m 239 #[vi k_, vi a_, vi b_, vi d_, vj n_, .second, vi 3, .val (.int (((k_.toUInt32 >>> ((2 : Int32) &&& 31).toUInt32).toInt32) &&& (3 : Int32))), vi i36, vi i42, vi i48, vr b307, vi 1] [(ii 1)] _
          refine XS.iload X401.here hx rfl (hb hby at_239) rfl ?_
          refine XS.icmpNo X401.here hx rfl (hb hby at_241) rfl rfl ?_
          refine XS.iconst X401.here hx rfl (hb hby at_244) ?_
          refine yG X401.here hx rfl 245 249 rfl (hb hby at_245) ?_
          show S_ p e below T401 m 249 #[vi k_, vi a_, vi b_, vi d_, vj n_, .second, vi 3, .val (.int (((k_.toUInt32 >>> ((2 : Int32) &&& 31).toUInt32).toInt32) &&& (3 : Int32))), vi i36, vi i42, vi i48, vr b307, vi 1] [(ii 1)] _
          exact retN X401 hx (t := .boolean) Bd.returns (by simp) (hb hby at_249) hr
         ·show Q_law Z k_ a_ b_ d_ n_ si1_ sa8_ sa13_ sv24_ sc11_ sc16_ h0 n0 _ T401.heap _
          rw [K403]
          exact ⟨rfl, N402, kp356⟩
        ·obtain ⟨rfl, N405q, K406, p407, p408, p409⟩ := hQ401
         have N405 := Fr.app N397 N405q
         exact absurd p399 p409
       ·obtain ⟨rfl, N410q, K411, p412⟩ := hQ396
        have N410 := Fr.app N392 N410q
        have c413 : Kt p e below T396 st0 (mkF m 236 #[vi k_, vi a_, vi b_, vi d_, vj n_, .second, vi 3, .val (.int (((k_.toUInt32 >>> ((2 : Int32) &&& 31).toUInt32).toInt32) &&& (3 : Int32))), vi i36, vi i42, vi i48, vr b307, vi 0] [(rr b307)]) := fun t k => by
         refine c396 t ?_
         show S_ p e below T396 m 224 #[vi k_, vi a_, vi b_, vi d_, vj n_, .second, vi 3, .val (.int (((k_.toUInt32 >>> ((2 : Int32) &&& 31).toUInt32).toInt32) &&& (3 : Int32))), vi i36, vi i42, vi i48, vr b307, u_] [(ii 0)] t
         refine yI X396.here hx rfl 224 231 rfl (hb hby at_224) rfl rfl ?_
         refine XS.iconst X396.here hx rfl (hb hby at_231) ?_
         refine XS.istore X396.here hx rfl (hb hby at_232) rfl (l' := #[vi k_, vi a_, vi b_, vi d_, vj n_, .second, vi 3, .val (.int (((k_.toUInt32 >>> ((2 : Int32) &&& 31).toUInt32).toInt32) &&& (3 : Int32))), vi i36, vi i42, vi i48, vr b307, vi 0]) rfl ?_
         refine XS.aload X396.here hx rfl (hb hby at_234) rfl rfl ?_
         exact k
        obtain ⟨_, T414, L414, X414, hQ414, c414⟩ := kstat X396 hx hZ hown (w26 hw) (w27 hw) (w28 hw) (w29 hw) (rm_isdL_3 l Z a0 hw [] b307 b346 k347 si1_ i36 i42 i48 T341.heap n0 o355 p344 p345 p348 p349 ZS0_ sn4_ p39 p45 p51 p352 p353 p354) K411 c413 hml pd_pLjava_lang_Object_rZ [(rr b307)] [] 0 (hb hby at_236) rfl rfl rfl rfl rfl rfl
        rcases hQ414 with hQ414 | hQ414
        ·obtain ⟨rfl, N415q, K416, p417⟩ := hQ414
         have N415 := Fr.app N410 N415q
         exact absurd p417 (fun q => Or.elim q p376 (fun q => Or.elim q p394 p412))
        ·obtain ⟨rfl, N418q, K419, p420, p421, p422⟩ := hQ414
         have N418 := Fr.app N410 N418q
         obtain ⟨fs, hr, hrun, hended, hRW⟩ := X414.leaveW hS0 (by first | exact (Nat.le_trans (Nat.zero_le _) (Nat.le_trans (Nat.le_trans (Nat.le_trans (Nat.le_trans (Nat.le_trans E307.1 E312.1) (Keep.of_wr W318).1) (Keep.of_wr W325).1) (Keep.of_wr W332).1) K343.1)) | (rw [K419]; exact (Nat.le_trans (Nat.zero_le _) (Nat.le_trans (Nat.le_trans (Nat.le_trans (Nat.le_trans (Nat.le_trans E307.1 E312.1) (Keep.of_wr W318).1) (Keep.of_wr W325).1) (Keep.of_wr W332).1) K343.1)))) (v := some (ii 1)) (fun h => by rw [Bd.returns] at h; cases h)
         refine ⟨_, _, c414 _ ?_, hrun, hended, _, _, rfl, ?_, hRW.1, hRW.2.1, hRW.2.2.1, hRW.2.2.2.mono (by decide) (by decide)⟩
         ·show S_ p e below T414 m 239 #[vi k_, vi a_, vi b_, vi d_, vj n_, .second, vi 3, .val (.int (((k_.toUInt32 >>> ((2 : Int32) &&& 31).toUInt32).toInt32) &&& (3 : Int32))), vi i36, vi i42, vi i48, vr b307, vi 0] [(ii 0)] _
          refine XS.iload X414.here hx rfl (hb hby at_239) rfl ?_
          refine XS.icmpNo X414.here hx rfl (hb hby at_241) rfl rfl ?_
          refine XS.iconst X414.here hx rfl (hb hby at_244) ?_
          refine yG X414.here hx rfl 245 249 rfl (hb hby at_245) ?_
          show S_ p e below T414 m 249 #[vi k_, vi a_, vi b_, vi d_, vj n_, .second, vi 3, .val (.int (((k_.toUInt32 >>> ((2 : Int32) &&& 31).toUInt32).toInt32) &&& (3 : Int32))), vi i36, vi i42, vi i48, vr b307, vi 0] [(ii 1)] _
          exact retN X414 hx (t := .boolean) Bd.returns (by simp) (hb hby at_249) hr
         ·show Q_law Z k_ a_ b_ d_ n_ si1_ sa8_ sa13_ sv24_ sc11_ sc16_ h0 n0 _ T414.heap _
          rw [K419]
          exact ⟨rfl, N418, kp356⟩
    ·obtain ⟨rfl, N423q, K424, p425, p426, b427, k428, p429, p430, p431, p432⟩ := hQ341
     have N423 := Fr.app N334 N423q
     have o433 := o333.keep K424 (allS g307 all0)
     have kp434 := kp337.trans K424 (allS (Or.inr z310) all0)
     have z435 := Nat.le_trans kp337.1 p432
     have g436 := Nat.le_trans (Nat.le_trans (Nat.le_of_eq o333.1.symm) o333.2.1) p432
     have c437 : Kt p e below T341 st0 (mkF m 193 #[vi k_, vi a_, vi b_, vi d_, vj n_, .second, vi 3, .val (.int (((k_.toUInt32 >>> ((2 : Int32) &&& 31).toUInt32).toInt32) &&& (3 : Int32))), vi i36, vi i42, vi i48, vr b307, u_] [(.int i36)]) := fun t k => by
      refine c341 t ?_
      show S_ p e below T341 m 183 #[vi k_, vi a_, vi b_, vi d_, vj n_, .second, vi 3, .val (.int (((k_.toUInt32 >>> ((2 : Int32) &&& 31).toUInt32).toInt32) &&& (3 : Int32))), vi i36, vi i42, vi i48, u_, u_] [(rr b307)] t
      refine XS.astore X341.here hx rfl (hb hby at_183) rfl rfl (l' := #[vi k_, vi a_, vi b_, vi d_, vj n_, .second, vi 3, .val (.int (((k_.toUInt32 >>> ((2 : Int32) &&& 31).toUInt32).toInt32) &&& (3 : Int32))), vi i36, vi i42, vi i48, vr b307, u_]) rfl ?_
      refine XS.iload X341.here hx rfl (hb hby at_185) rfl ?_
      refine XS.iconst X341.here hx rfl (hb hby at_187) ?_
      refine XS.icmpNo X341.here hx rfl (hb hby at_188) rfl rfl ?_
      refine XS.iload X341.here hx rfl (hb hby at_191) rfl ?_
      exact k
     obtain ⟨_, T438, L438, X438, hQ438, c438⟩ := kstat X341 hx hZ hown (w119 hw) (w120 hw) (w2 hw) (w121 hw) (rm_mark l Z a0 hw [] i36 T341.heap n0 o433 ) rfl c437 hml pd_pCrZ [(.int i36)] [] 0 (hb hby at_193) rfl rfl rfl rfl rfl rfl
     rcases hQ438 with hQ438 | hQ438
     ·obtain ⟨rfl, N439q, K440, p441⟩ := hQ438
      have N439 := Fr.app N423 N439q
      have c442 : Kt p e below T438 st0 (mkF m 236 #[vi k_, vi a_, vi b_, vi d_, vj n_, .second, vi 3, .val (.int (((k_.toUInt32 >>> ((2 : Int32) &&& 31).toUInt32).toInt32) &&& (3 : Int32))), vi i36, vi i42, vi i48, vr b307, vi 1] [(rr b307)]) := fun t k => by
       refine c438 t ?_
       show S_ p e below T438 m 196 #[vi k_, vi a_, vi b_, vi d_, vj n_, .second, vi 3, .val (.int (((k_.toUInt32 >>> ((2 : Int32) &&& 31).toUInt32).toInt32) &&& (3 : Int32))), vi i36, vi i42, vi i48, vr b307, u_] [(ii 1)] t
       refine yI X438.here hx rfl 196 227 rfl (hb hby at_196) rfl rfl ?_
       refine XS.iconst X438.here hx rfl (hb hby at_227) ?_
       refine yG X438.here hx rfl 228 232 rfl (hb hby at_228) ?_
       refine XS.istore X438.here hx rfl (hb hby at_232) rfl (l' := #[vi k_, vi a_, vi b_, vi d_, vj n_, .second, vi 3, .val (.int (((k_.toUInt32 >>> ((2 : Int32) &&& 31).toUInt32).toInt32) &&& (3 : Int32))), vi i36, vi i42, vi i48, vr b307, vi 1]) rfl ?_
       refine XS.aload X438.here hx rfl (hb hby at_234) rfl rfl ?_
       exact k
      obtain ⟨_, T443, L443, X443, hQ443, c443⟩ := kstat X438 hx hZ hown (w26 hw) (w27 hw) (w28 hw) (w29 hw) (rm_isdU_3 l Z a0 hw [] b307 b427 k428 si1_ i36 i42 i48 sv24_ T341.heap n0 o433 p425 p426 p429 p430 ZS0_ sn4_ p39 p45 p51 ZS7_ ZS8_ ZS9_ ZS11_ sv24_r) K440 c442 hml pd_pLjava_lang_Object_rZ [(rr b307)] [] 0 (hb hby at_236) rfl rfl rfl rfl rfl rfl
      rcases hQ443 with hQ443 | hQ443
      ·obtain ⟨rfl, N444q, K445, p446⟩ := hQ443
       have N444 := Fr.app N439 N444q
       obtain ⟨fs, hr, hrun, hended, hRW⟩ := X443.leaveW hS0 (by first | exact (Nat.le_trans (Nat.zero_le _) (Nat.le_trans (Nat.le_trans (Nat.le_trans (Nat.le_trans (Nat.le_trans E307.1 E312.1) (Keep.of_wr W318).1) (Keep.of_wr W325).1) (Keep.of_wr W332).1) K424.1)) | (rw [K445]; exact (Nat.le_trans (Nat.zero_le _) (Nat.le_trans (Nat.le_trans (Nat.le_trans (Nat.le_trans (Nat.le_trans E307.1 E312.1) (Keep.of_wr W318).1) (Keep.of_wr W325).1) (Keep.of_wr W332).1) K424.1)))) (v := some (ii 1)) (fun h => by rw [Bd.returns] at h; cases h)
       refine ⟨_, _, c443 _ ?_, hrun, hended, _, _, rfl, ?_, hRW.1, hRW.2.1, hRW.2.2.1, hRW.2.2.2.mono (by decide) (by decide)⟩
       ·show S_ p e below T443 m 239 #[vi k_, vi a_, vi b_, vi d_, vj n_, .second, vi 3, .val (.int (((k_.toUInt32 >>> ((2 : Int32) &&& 31).toUInt32).toInt32) &&& (3 : Int32))), vi i36, vi i42, vi i48, vr b307, vi 1] [(ii 1)] _
        refine XS.iload X443.here hx rfl (hb hby at_239) rfl ?_
        refine XS.icmpNo X443.here hx rfl (hb hby at_241) rfl rfl ?_
        refine XS.iconst X443.here hx rfl (hb hby at_244) ?_
        refine yG X443.here hx rfl 245 249 rfl (hb hby at_245) ?_
        show S_ p e below T443 m 249 #[vi k_, vi a_, vi b_, vi d_, vj n_, .second, vi 3, .val (.int (((k_.toUInt32 >>> ((2 : Int32) &&& 31).toUInt32).toInt32) &&& (3 : Int32))), vi i36, vi i42, vi i48, vr b307, vi 1] [(ii 1)] _
        exact retN X443 hx (t := .boolean) Bd.returns (by simp) (hb hby at_249) hr
       ·show Q_law Z k_ a_ b_ d_ n_ si1_ sa8_ sa13_ sv24_ sc11_ sc16_ h0 n0 _ T443.heap _
        rw [K445]
        exact ⟨rfl, N444, kp434⟩
      ·obtain ⟨rfl, N447q, K448, p449, p450, p451⟩ := hQ443
       have N447 := Fr.app N439 N447q
       exact absurd p441 p449
     ·obtain ⟨rfl, N452q, K453, p454⟩ := hQ438
      have N452 := Fr.app N423 N452q
      have c455 : Kt p e below T438 st0 (mkF m 207 #[vi k_, vi a_, vi b_, vi d_, vj n_, .second, vi 3, .val (.int (((k_.toUInt32 >>> ((2 : Int32) &&& 31).toUInt32).toInt32) &&& (3 : Int32))), vi i36, vi i42, vi i48, vr b307, u_] [(.int i42)]) := fun t k => by
       refine c438 t ?_
       show S_ p e below T438 m 196 #[vi k_, vi a_, vi b_, vi d_, vj n_, .second, vi 3, .val (.int (((k_.toUInt32 >>> ((2 : Int32) &&& 31).toUInt32).toInt32) &&& (3 : Int32))), vi i36, vi i42, vi i48, vr b307, u_] [(ii 0)] t
       refine XS.ifNo X438.here hx rfl (hb hby at_196) rfl rfl ?_
       refine XS.iload X438.here hx rfl (hb hby at_199) rfl ?_
       refine XS.iconst X438.here hx rfl (hb hby at_201) ?_
       refine XS.icmpNo X438.here hx rfl (hb hby at_202) rfl rfl ?_
       refine XS.iload X438.here hx rfl (hb hby at_205) rfl ?_
       exact k
      obtain ⟨_, T456, L456, X456, hQ456, c456⟩ := kstat X438 hx hZ hown (w119 hw) (w120 hw) (w2 hw) (w121 hw) (rm_mark l Z a0 hw [] i42 T341.heap n0 o433 ) K453 c455 hml pd_pCrZ [(.int i42)] [] 0 (hb hby at_207) rfl rfl rfl rfl rfl rfl
      rcases hQ456 with hQ456 | hQ456
      ·obtain ⟨rfl, N457q, K458, p459⟩ := hQ456
       have N457 := Fr.app N452 N457q
       have c460 : Kt p e below T456 st0 (mkF m 236 #[vi k_, vi a_, vi b_, vi d_, vj n_, .second, vi 3, .val (.int (((k_.toUInt32 >>> ((2 : Int32) &&& 31).toUInt32).toInt32) &&& (3 : Int32))), vi i36, vi i42, vi i48, vr b307, vi 1] [(rr b307)]) := fun t k => by
        refine c456 t ?_
        show S_ p e below T456 m 210 #[vi k_, vi a_, vi b_, vi d_, vj n_, .second, vi 3, .val (.int (((k_.toUInt32 >>> ((2 : Int32) &&& 31).toUInt32).toInt32) &&& (3 : Int32))), vi i36, vi i42, vi i48, vr b307, u_] [(ii 1)] t
        refine yI X456.here hx rfl 210 227 rfl (hb hby at_210) rfl rfl ?_
        refine XS.iconst X456.here hx rfl (hb hby at_227) ?_
        refine yG X456.here hx rfl 228 232 rfl (hb hby at_228) ?_
        refine XS.istore X456.here hx rfl (hb hby at_232) rfl (l' := #[vi k_, vi a_, vi b_, vi d_, vj n_, .second, vi 3, .val (.int (((k_.toUInt32 >>> ((2 : Int32) &&& 31).toUInt32).toInt32) &&& (3 : Int32))), vi i36, vi i42, vi i48, vr b307, vi 1]) rfl ?_
        refine XS.aload X456.here hx rfl (hb hby at_234) rfl rfl ?_
        exact k
       obtain ⟨_, T461, L461, X461, hQ461, c461⟩ := kstat X456 hx hZ hown (w26 hw) (w27 hw) (w28 hw) (w29 hw) (rm_isdU_3 l Z a0 hw [] b307 b427 k428 si1_ i36 i42 i48 sv24_ T341.heap n0 o433 p425 p426 p429 p430 ZS0_ sn4_ p39 p45 p51 ZS7_ ZS8_ ZS9_ ZS11_ sv24_r) K458 c460 hml pd_pLjava_lang_Object_rZ [(rr b307)] [] 0 (hb hby at_236) rfl rfl rfl rfl rfl rfl
       rcases hQ461 with hQ461 | hQ461
       ·obtain ⟨rfl, N462q, K463, p464⟩ := hQ461
        have N462 := Fr.app N457 N462q
        obtain ⟨fs, hr, hrun, hended, hRW⟩ := X461.leaveW hS0 (by first | exact (Nat.le_trans (Nat.zero_le _) (Nat.le_trans (Nat.le_trans (Nat.le_trans (Nat.le_trans (Nat.le_trans E307.1 E312.1) (Keep.of_wr W318).1) (Keep.of_wr W325).1) (Keep.of_wr W332).1) K424.1)) | (rw [K463]; exact (Nat.le_trans (Nat.zero_le _) (Nat.le_trans (Nat.le_trans (Nat.le_trans (Nat.le_trans (Nat.le_trans E307.1 E312.1) (Keep.of_wr W318).1) (Keep.of_wr W325).1) (Keep.of_wr W332).1) K424.1)))) (v := some (ii 1)) (fun h => by rw [Bd.returns] at h; cases h)
        refine ⟨_, _, c461 _ ?_, hrun, hended, _, _, rfl, ?_, hRW.1, hRW.2.1, hRW.2.2.1, hRW.2.2.2.mono (by decide) (by decide)⟩
        ·show S_ p e below T461 m 239 #[vi k_, vi a_, vi b_, vi d_, vj n_, .second, vi 3, .val (.int (((k_.toUInt32 >>> ((2 : Int32) &&& 31).toUInt32).toInt32) &&& (3 : Int32))), vi i36, vi i42, vi i48, vr b307, vi 1] [(ii 1)] _
         refine XS.iload X461.here hx rfl (hb hby at_239) rfl ?_
         refine XS.icmpNo X461.here hx rfl (hb hby at_241) rfl rfl ?_
         refine XS.iconst X461.here hx rfl (hb hby at_244) ?_
         refine yG X461.here hx rfl 245 249 rfl (hb hby at_245) ?_
         show S_ p e below T461 m 249 #[vi k_, vi a_, vi b_, vi d_, vj n_, .second, vi 3, .val (.int (((k_.toUInt32 >>> ((2 : Int32) &&& 31).toUInt32).toInt32) &&& (3 : Int32))), vi i36, vi i42, vi i48, vr b307, vi 1] [(ii 1)] _
         exact retN X461 hx (t := .boolean) Bd.returns (by simp) (hb hby at_249) hr
        ·show Q_law Z k_ a_ b_ d_ n_ si1_ sa8_ sa13_ sv24_ sc11_ sc16_ h0 n0 _ T461.heap _
         rw [K463]
         exact ⟨rfl, N462, kp434⟩
       ·obtain ⟨rfl, N465q, K466, p467, p468, p469⟩ := hQ461
        have N465 := Fr.app N457 N465q
        exact absurd p459 p468
      ·obtain ⟨rfl, N470q, K471, p472⟩ := hQ456
       have N470 := Fr.app N452 N470q
       have c473 : Kt p e below T456 st0 (mkF m 221 #[vi k_, vi a_, vi b_, vi d_, vj n_, .second, vi 3, .val (.int (((k_.toUInt32 >>> ((2 : Int32) &&& 31).toUInt32).toInt32) &&& (3 : Int32))), vi i36, vi i42, vi i48, vr b307, u_] [(.int i48)]) := fun t k => by
        refine c456 t ?_
        show S_ p e below T456 m 210 #[vi k_, vi a_, vi b_, vi d_, vj n_, .second, vi 3, .val (.int (((k_.toUInt32 >>> ((2 : Int32) &&& 31).toUInt32).toInt32) &&& (3 : Int32))), vi i36, vi i42, vi i48, vr b307, u_] [(ii 0)] t
        refine XS.ifNo X456.here hx rfl (hb hby at_210) rfl rfl ?_
        refine XS.iload X456.here hx rfl (hb hby at_213) rfl ?_
        refine XS.iconst X456.here hx rfl (hb hby at_215) ?_
        refine XS.icmpNo X456.here hx rfl (hb hby at_216) rfl rfl ?_
        refine XS.iload X456.here hx rfl (hb hby at_219) rfl ?_
        exact k
       obtain ⟨_, T474, L474, X474, hQ474, c474⟩ := kstat X456 hx hZ hown (w119 hw) (w120 hw) (w2 hw) (w121 hw) (rm_mark l Z a0 hw [] i48 T341.heap n0 o433 ) K471 c473 hml pd_pCrZ [(.int i48)] [] 0 (hb hby at_221) rfl rfl rfl rfl rfl rfl
       rcases hQ474 with hQ474 | hQ474
       ·obtain ⟨rfl, N475q, K476, p477⟩ := hQ474
        have N475 := Fr.app N470 N475q
        have c478 : Kt p e below T474 st0 (mkF m 236 #[vi k_, vi a_, vi b_, vi d_, vj n_, .second, vi 3, .val (.int (((k_.toUInt32 >>> ((2 : Int32) &&& 31).toUInt32).toInt32) &&& (3 : Int32))), vi i36, vi i42, vi i48, vr b307, vi 1] [(rr b307)]) := fun t k => by
         refine c474 t ?_
         show S_ p e below T474 m 224 #[vi k_, vi a_, vi b_, vi d_, vj n_, .second, vi 3, .val (.int (((k_.toUInt32 >>> ((2 : Int32) &&& 31).toUInt32).toInt32) &&& (3 : Int32))), vi i36, vi i42, vi i48, vr b307, u_] [(ii 1)] t
         refine XS.ifNo X474.here hx rfl (hb hby at_224) rfl rfl ?_
         refine XS.iconst X474.here hx rfl (hb hby at_227) ?_
         refine yG X474.here hx rfl 228 232 rfl (hb hby at_228) ?_
         refine XS.istore X474.here hx rfl (hb hby at_232) rfl (l' := #[vi k_, vi a_, vi b_, vi d_, vj n_, .second, vi 3, .val (.int (((k_.toUInt32 >>> ((2 : Int32) &&& 31).toUInt32).toInt32) &&& (3 : Int32))), vi i36, vi i42, vi i48, vr b307, vi 1]) rfl ?_
         refine XS.aload X474.here hx rfl (hb hby at_234) rfl rfl ?_
         exact k
        obtain ⟨_, T479, L479, X479, hQ479, c479⟩ := kstat X474 hx hZ hown (w26 hw) (w27 hw) (w28 hw) (w29 hw) (rm_isdU_3 l Z a0 hw [] b307 b427 k428 si1_ i36 i42 i48 sv24_ T341.heap n0 o433 p425 p426 p429 p430 ZS0_ sn4_ p39 p45 p51 ZS7_ ZS8_ ZS9_ ZS11_ sv24_r) K476 c478 hml pd_pLjava_lang_Object_rZ [(rr b307)] [] 0 (hb hby at_236) rfl rfl rfl rfl rfl rfl
        rcases hQ479 with hQ479 | hQ479
        ·obtain ⟨rfl, N480q, K481, p482⟩ := hQ479
         have N480 := Fr.app N475 N480q
         obtain ⟨fs, hr, hrun, hended, hRW⟩ := X479.leaveW hS0 (by first | exact (Nat.le_trans (Nat.zero_le _) (Nat.le_trans (Nat.le_trans (Nat.le_trans (Nat.le_trans (Nat.le_trans E307.1 E312.1) (Keep.of_wr W318).1) (Keep.of_wr W325).1) (Keep.of_wr W332).1) K424.1)) | (rw [K481]; exact (Nat.le_trans (Nat.zero_le _) (Nat.le_trans (Nat.le_trans (Nat.le_trans (Nat.le_trans (Nat.le_trans E307.1 E312.1) (Keep.of_wr W318).1) (Keep.of_wr W325).1) (Keep.of_wr W332).1) K424.1)))) (v := some (ii 1)) (fun h => by rw [Bd.returns] at h; cases h)
         refine ⟨_, _, c479 _ ?_, hrun, hended, _, _, rfl, ?_, hRW.1, hRW.2.1, hRW.2.2.1, hRW.2.2.2.mono (by decide) (by decide)⟩
         ·show S_ p e below T479 m 239 #[vi k_, vi a_, vi b_, vi d_, vj n_, .second, vi 3, .val (.int (((k_.toUInt32 >>> ((2 : Int32) &&& 31).toUInt32).toInt32) &&& (3 : Int32))), vi i36, vi i42, vi i48, vr b307, vi 1] [(ii 1)] _
          refine XS.iload X479.here hx rfl (hb hby at_239) rfl ?_
          refine XS.icmpNo X479.here hx rfl (hb hby at_241) rfl rfl ?_
          refine XS.iconst X479.here hx rfl (hb hby at_244) ?_
          refine yG X479.here hx rfl 245 249 rfl (hb hby at_245) ?_
          show S_ p e below T479 m 249 #[vi k_, vi a_, vi b_, vi d_, vj n_, .second, vi 3, .val (.int (((k_.toUInt32 >>> ((2 : Int32) &&& 31).toUInt32).toInt32) &&& (3 : Int32))), vi i36, vi i42, vi i48, vr b307, vi 1] [(ii 1)] _
          exact retN X479 hx (t := .boolean) Bd.returns (by simp) (hb hby at_249) hr
         ·show Q_law Z k_ a_ b_ d_ n_ si1_ sa8_ sa13_ sv24_ sc11_ sc16_ h0 n0 _ T479.heap _
          rw [K481]
          exact ⟨rfl, N480, kp434⟩
        ·obtain ⟨rfl, N483q, K484, p485, p486, p487⟩ := hQ479
         have N483 := Fr.app N475 N483q
         exact absurd p477 p487
       ·obtain ⟨rfl, N488q, K489, p490⟩ := hQ474
        have N488 := Fr.app N470 N488q
        have c491 : Kt p e below T474 st0 (mkF m 236 #[vi k_, vi a_, vi b_, vi d_, vj n_, .second, vi 3, .val (.int (((k_.toUInt32 >>> ((2 : Int32) &&& 31).toUInt32).toInt32) &&& (3 : Int32))), vi i36, vi i42, vi i48, vr b307, vi 0] [(rr b307)]) := fun t k => by
         refine c474 t ?_
         show S_ p e below T474 m 224 #[vi k_, vi a_, vi b_, vi d_, vj n_, .second, vi 3, .val (.int (((k_.toUInt32 >>> ((2 : Int32) &&& 31).toUInt32).toInt32) &&& (3 : Int32))), vi i36, vi i42, vi i48, vr b307, u_] [(ii 0)] t
         refine yI X474.here hx rfl 224 231 rfl (hb hby at_224) rfl rfl ?_
         refine XS.iconst X474.here hx rfl (hb hby at_231) ?_
         refine XS.istore X474.here hx rfl (hb hby at_232) rfl (l' := #[vi k_, vi a_, vi b_, vi d_, vj n_, .second, vi 3, .val (.int (((k_.toUInt32 >>> ((2 : Int32) &&& 31).toUInt32).toInt32) &&& (3 : Int32))), vi i36, vi i42, vi i48, vr b307, vi 0]) rfl ?_
         refine XS.aload X474.here hx rfl (hb hby at_234) rfl rfl ?_
         exact k
        obtain ⟨_, T492, L492, X492, hQ492, c492⟩ := kstat X474 hx hZ hown (w26 hw) (w27 hw) (w28 hw) (w29 hw) (rm_isdU_3 l Z a0 hw [] b307 b427 k428 si1_ i36 i42 i48 sv24_ T341.heap n0 o433 p425 p426 p429 p430 ZS0_ sn4_ p39 p45 p51 ZS7_ ZS8_ ZS9_ ZS11_ sv24_r) K489 c491 hml pd_pLjava_lang_Object_rZ [(rr b307)] [] 0 (hb hby at_236) rfl rfl rfl rfl rfl rfl
        rcases hQ492 with hQ492 | hQ492
        ·obtain ⟨rfl, N493q, K494, p495⟩ := hQ492
         have N493 := Fr.app N488 N493q
         exact absurd p495 (fun q => Or.elim q p454 (fun q => Or.elim q p472 p490))
        ·obtain ⟨rfl, N496q, K497, p498, p499, p500⟩ := hQ492
         have N496 := Fr.app N488 N496q
         obtain ⟨fs, hr, hrun, hended, hRW⟩ := X492.leaveW hS0 (by first | exact (Nat.le_trans (Nat.zero_le _) (Nat.le_trans (Nat.le_trans (Nat.le_trans (Nat.le_trans (Nat.le_trans E307.1 E312.1) (Keep.of_wr W318).1) (Keep.of_wr W325).1) (Keep.of_wr W332).1) K424.1)) | (rw [K497]; exact (Nat.le_trans (Nat.zero_le _) (Nat.le_trans (Nat.le_trans (Nat.le_trans (Nat.le_trans (Nat.le_trans E307.1 E312.1) (Keep.of_wr W318).1) (Keep.of_wr W325).1) (Keep.of_wr W332).1) K424.1)))) (v := some (ii 1)) (fun h => by rw [Bd.returns] at h; cases h)
         refine ⟨_, _, c492 _ ?_, hrun, hended, _, _, rfl, ?_, hRW.1, hRW.2.1, hRW.2.2.1, hRW.2.2.2.mono (by decide) (by decide)⟩
         ·show S_ p e below T492 m 239 #[vi k_, vi a_, vi b_, vi d_, vj n_, .second, vi 3, .val (.int (((k_.toUInt32 >>> ((2 : Int32) &&& 31).toUInt32).toInt32) &&& (3 : Int32))), vi i36, vi i42, vi i48, vr b307, vi 0] [(ii 0)] _
          refine XS.iload X492.here hx rfl (hb hby at_239) rfl ?_
          refine XS.icmpNo X492.here hx rfl (hb hby at_241) rfl rfl ?_
          refine XS.iconst X492.here hx rfl (hb hby at_244) ?_
          refine yG X492.here hx rfl 245 249 rfl (hb hby at_245) ?_
          show S_ p e below T492 m 249 #[vi k_, vi a_, vi b_, vi d_, vj n_, .second, vi 3, .val (.int (((k_.toUInt32 >>> ((2 : Int32) &&& 31).toUInt32).toInt32) &&& (3 : Int32))), vi i36, vi i42, vi i48, vr b307, vi 0] [(ii 1)] _
          exact retN X492 hx (t := .boolean) Bd.returns (by simp) (hb hby at_249) hr
         ·show Q_law Z k_ a_ b_ d_ n_ si1_ sa8_ sa13_ sv24_ sc11_ sc16_ h0 n0 _ T492.heap _
          rw [K497]
          exact ⟨rfl, N496, kp434⟩
set_option maxRecDepth 65536 in
set_option maxHeartbeats 40000000 in
theorem comes_1 {Post : Tables → Env → Array Value → State → Outcome → State → Prop} (hpost : ∀ tb e args s v u, (limb_1_1.after args s (.returned v) u = true ∧ limb_1_2.after args s (.returned v) u = true ∧ True) → ReturnedEndW s (.returned v) u (Jvm.fieldLocs frame_1_writes args s ++ Jvm.arrayLocs frame_1_arrays args s ++ Jvm.staticLocs frame_1_statics s) 24 1152 → Post tb e args s (.returned v) u) :
  ArmFor flags0 classFile x code maxLocals ret World_1 tables_1 room_1 Calls_1 rest_1 Pre_1 Post := by
 intro l hfl _ _ p e ha hc hk s m args below hf hA hF happ hP
 obtain ⟨hcalls, hrest, hpre⟩ := hP
 obtain ⟨-, -, -, hnamed, -, -, -, hat⟩ := (Spec.applies_iff hf).mp happ
 obtain ⟨hg, hn⟩ := and_e (Jvm.Cond.before_iff.mp (show (Jvm.Cond.and given_1 narrow_1).before args s = true from hpre))
 obtain ⟨ga0, gb0⟩ := and_e hg
 obtain ⟨ga1, gb1⟩ := and_e gb0
 obtain ⟨ga2, gb2⟩ := and_e gb1
 obtain ⟨ga3, gb3⟩ := and_e gb2
 obtain ⟨ga4, gb4⟩ := and_e gb3
 obtain ⟨wv0, wv1, wv2, wv3, wv4, rfl⟩ : ∃ wv0 wv1 wv2 wv3 wv4 : Value, args = #[wv0, wv1, wv2, wv3, wv4] := by
  have hs : args.size = 5 := by simpa [Jvm.Cond.value, given_1] using ga0
  obtain ⟨L⟩ := args
  match L, hs with
  | [wv0, wv1, wv2, wv3, wv4], _ => exact ⟨wv0, wv1, wv2, wv3, wv4, rfl⟩
 have hw := fun d (hd : d ∈ tables_1) => atoms_spec (ws := Jvm.Cond.code x code maxLocals ret :: tables_1) hat d (List.mem_cons_of_mem _ hd)
 have hfit : Fit s := fun {y c} hc i hi => by
  obtain ⟨ha, rfl⟩ := Array.getElem?_eq_some_iff.mp hc
  have q := List.all_eq_true.mp ((Array.all_eq_true_iff_forall_mem.mp hF) _ (Array.getElem_mem ha)) i (List.mem_range.mpr hi)
  simpa [Array.getElem?_eq_getElem hi] using q
 obtain ⟨hsets, hown0⟩ := atoms_of _ (rest_1_c_eq ▸ (show rest_1_c.before _ s = true from hrest))
 obtain ⟨i0, ei0⟩ := is_v ga1
 obtain rfl : wv0 = (.int i0) := Option.some.inj ei0
 obtain ⟨i1, ei1⟩ := is_v ga2
 obtain rfl : wv1 = (.int i1) := Option.some.inj ei1
 obtain ⟨i2, ei2⟩ := is_v ga3
 obtain rfl : wv2 = (.int i2) := Option.some.inj ei2
 obtain ⟨i3, ei3⟩ := is_v ga4
 obtain rfl : wv3 = (.int i3) := Option.some.inj ei3
 obtain ⟨i4, ei4⟩ := isL_v gb4
 obtain rfl : wv4 = (.long i4) := Option.some.inj ei4
 obtain ⟨si1_, se2_⟩ := is_v (Jvm.Cond.before_iff.mp (hsets _ (List.mem_of_getElem? (i := 1) rfl)))
 have sf3_ : Sta s s.heap nm0 "COMPACT_STRINGS" "Z" (.int si1_) := Sta.start se2_ (Or.inl (hsets _ (List.mem_of_getElem? (i := 0) rfl)))
 have sr5_ : ¬ (si1_ = (0 : Int32)) := gotF (Jvm.Cond.eq_ints se2_ (Term.int_eval _)) (not_v (Jvm.Cond.before_iff.mp (hsets _ (List.mem_of_getElem? (i := 2) rfl))))
 have se6_ : (Jvm.Term.static "java/lang/Integer$IntegerCache" "high" "I").eval _ s none [] s = some (ii 127) := (Jvm.Cond.eq_int (beq_iff_eq.mpr (Jvm.Cond.before_iff.mp (hsets _ (List.mem_of_getElem? (i := 12) rfl)))) (Term.int_eval _))
 have sf7_ : Sta s s.heap "java/lang/Integer$IntegerCache" "high" "I" (ii 127) := Sta.start se6_ (Or.inl (hsets _ (List.mem_of_getElem? (i := 10) rfl)))
 obtain ⟨sa8_, se9_⟩ := arr_v (Jvm.Cond.before_iff.mp (hsets _ (List.mem_of_getElem? (i := 13) rfl)))
 have sf10_ : Sta s s.heap "java/lang/Integer$IntegerCache" "cache" "[Ljava/lang/Integer;" (rr sa8_) := Sta.start se9_ (Or.inr ⟨(w76 hw), (hsets _ (List.mem_of_getElem? (i := 11) rfl))⟩)
 obtain ⟨sc11_, sc11_r⟩ := Arr.start se9_ (Jvm.Cond.before_iff.mp (hsets _ (List.mem_of_getElem? (i := 13) rfl)))
 have sf12_ : Exa s s.heap sa8_ "[Ljava/lang/Integer;" := Exa.start se9_ (Jvm.Cond.before_iff.mp (hsets _ (List.mem_of_getElem? (i := 14) rfl)))
 obtain ⟨sa13_, se14_⟩ := arr_v (Jvm.Cond.before_iff.mp (hsets _ (List.mem_of_getElem? (i := 19) rfl)))
 have sf15_ : Sta s s.heap "java/lang/Long$LongCache" "cache" "[Ljava/lang/Long;" (rr sa13_) := Sta.start se14_ (Or.inl (hsets _ (List.mem_of_getElem? (i := 18) rfl)))
 obtain ⟨sc16_, sc16_r⟩ := Arr.start se14_ (Jvm.Cond.before_iff.mp (hsets _ (List.mem_of_getElem? (i := 19) rfl)))
 have sf17_ : Exa s s.heap sa13_ "[Ljava/lang/Long;" := Exa.start se14_ (Jvm.Cond.before_iff.mp (hsets _ (List.mem_of_getElem? (i := 20) rfl)))
 have se18_ : (Jvm.Term.static nm1 "$assertionsDisabled" "Z").eval _ s none [] s = some (ii 1) := (Jvm.Cond.eq_int (beq_iff_eq.mpr (Jvm.Cond.before_iff.mp (hsets _ (List.mem_of_getElem? (i := 26) rfl)))) (Term.int_eval _))
 have sf19_ : Sta s s.heap nm1 "$assertionsDisabled" "Z" (ii 1) := Sta.start se18_ (Or.inl (hsets _ (List.mem_of_getElem? (i := 25) rfl)))
 have se20_ : (Jvm.Term.static nm1 "HI_BYTE_SHIFT" "I").eval _ s none [] s = some (ii 0) := (Jvm.Cond.eq_int (beq_iff_eq.mpr (Jvm.Cond.before_iff.mp (hsets _ (List.mem_of_getElem? (i := 29) rfl)))) (Term.int_eval _))
 have sf21_ : Sta s s.heap nm1 "HI_BYTE_SHIFT" "I" (ii 0) := Sta.start se20_ (Or.inl (hsets _ (List.mem_of_getElem? (i := 28) rfl)))
 have se22_ : (Jvm.Term.static nm1 "LO_BYTE_SHIFT" "I").eval _ s none [] s = some (ii 8) := (Jvm.Cond.eq_int (beq_iff_eq.mpr (Jvm.Cond.before_iff.mp (hsets _ (List.mem_of_getElem? (i := 32) rfl)))) (Term.int_eval _))
 have sf23_ : Sta s s.heap nm1 "LO_BYTE_SHIFT" "I" (ii 8) := Sta.start se22_ (Or.inl (hsets _ (List.mem_of_getElem? (i := 31) rfl)))
 obtain ⟨sv24_, se25_, sv24_r⟩ := isR_v (Jvm.Cond.before_iff.mp (hsets _ (List.mem_of_getElem? (i := 8) rfl)))
 have sf26_ : Sta s s.heap nm4 "SIOOBE_FORMATTER" nm6 sv24_ := Sta.start se25_ (Or.inl (hsets _ (List.mem_of_getElem? (i := 7) rfl)))
 obtain ⟨sl27_a, sl27_b⟩ := own_len se9_ sc11_r (Jvm.Cond.eq_int (beq_iff_eq.mpr (Jvm.Cond.before_iff.mp (hsets _ (List.mem_of_getElem? (i := 15) rfl)))) (Term.int_eval _))
 have sb28_ : Bxs s sa8_ sc11_ nm8 "I" (256 : Int32) (fun j => .int (j - (128 : Int32))) := Bxs.start (own_stx se9_) sc11_r sl27_a sl27_b (by decide) (Jvm.Cond.before_iff.mp (hsets _ (List.mem_of_getElem? (i := 16) rfl))) (fun X j nn hq => eqv_i (Term.sub_int (idx_at nn) (Term.int_eval _)) hq)
 obtain ⟨sl29_a, sl29_b⟩ := own_len se14_ sc16_r (Jvm.Cond.eq_int (beq_iff_eq.mpr (Jvm.Cond.before_iff.mp (hsets _ (List.mem_of_getElem? (i := 21) rfl)))) (Term.int_eval _))
 have sb30_ : Bxs s sa13_ sc16_ nm10 "J" (256 : Int32) (fun j => .long (j - (128 : Int32)).toInt64) := Bxs.start (own_stx se14_) sc16_r sl29_a sl29_b (by decide) (Jvm.Cond.before_iff.mp (hsets _ (List.mem_of_getElem? (i := 22) rfl))) (fun X j nn hq => eqv_l (i2l_at (Term.sub_int (idx_at nn) (Term.int_eval _))) hq)
 have hl7 : Jvm.Lit.constHeld s nm0 7 := hcalls.1 (nm0, 7) (by simp [consts_1])
 have hcw : Jvm.Lit.compactW.before #[.int i0, .int i1, .int i2, .int i3, .long i4] s = true := (hsets _ (List.mem_of_getElem? (i := 2) rfl))
 obtain ⟨n, o, h1, h2, h3, _, L, rfl, ⟨rfl, N, -⟩, hq⟩ := rm_law l s _ hw tables_1 i0 i1 i2 i3 i4 si1_ sa8_ sa13_ sv24_ sc11_ sc16_ s.heap s.heap.size (Old.start s) sf3_ sr5_ sf7_ sf10_ sf12_ sf15_ sf17_ sf19_ sf21_ sf23_ sv24_r sf26_ sb28_ sb30_ hl7 hcw p e ha hc hk s m _ below hf ((Spec.applies_iff_loose hf).mp happ).1 ⟨rfl, State.Warmed39.refl s, rfl, rfl⟩ trivial
 refine ⟨n, _, h1, h2, h3, hpost _ _ _ _ _ _ ⟨Jvm.Cond.after_iff.mpr rfl, Jvm.Cond.after_iff.mpr (eq_i res_at (Term.int_eval (1)) rfl), trivial⟩ ⟨hq.1, hq.2.1, hq.2.2.1, (hq.2.2.2.sift fun y hy => Or.inr (N y hy)).mono (by decide) (by decide)⟩⟩
theorem main_1_1 : Claimed_1_1 := comes_1 fun _ _ _ _ _ _ h hF => ⟨h.1, hF⟩
theorem main_1_2 : Claimed_1_2 := comes_1 fun _ _ _ _ _ _ h hF => ⟨h.2.1, hF⟩
end Jvm.Pilot.@@N@@
namespace Jvm.Pilot.@@N@@
open Jvm Jvm.ClassFile Sem Op Lib Jvm.Free Jvm.Stand Jvm.Pilot.@@N@@.Jvm.D
/-! MADE BY PROGRAM (witnessworld.py) out of the Statement's table words and the real class files: 28 classes; the members and pool entries that the words name. The judged class is class 1, her method 3. -/
namespace start1
open Jvm.ClassFile
def u (s : String) : CpInfo := .utf8 (stringToUtf16 s)
/-- a pool by its gaps: so many unusable entries, then the entry; so many at the end -/
def gap : Nat → List CpInfo → List CpInfo
  | 0, r => r
  | n + 1, r => .unusable :: gap n r
def poolList (es : List (Nat × CpInfo)) (last : Nat) : List CpInfo := es.foldr (fun e r => gap e.1 (e.2 :: r)) (gap last [])
def pool (es : List (Nat × CpInfo)) (last : Nat) : Array CpInfo := ⟨poolList es last⟩
def fileOf (pool : Array CpInfo) (this : Nat) (attrs : Array Attribute := #[]) (ms : Array MethodInfo := #[]) (fl : Nat := 33) (sup : Nat := 0) (ifs : Array Nat := #[]) (fds : Array FieldInfo := #[]) : ClassFile where
  minorVersion := 0
  majorVersion := 65
  constantPool := pool
  accessFlags := fl
  thisClass := this
  superClass := sup
  interfaces := ifs
  fields := fds
  methods := ms
  attributes := attrs
def plain (name : String) (sup : Option ClassId) : Class where
  name := name
  kind := .ordinary
  loader := none
  accessFlags := 33
  super := sup
  interfaces := #[]
  cf := none
  fields := #[]
  methods := #[]
  instanceTypes := #[]
  staticTypes := #[]
  resolved := #[]
  callSites := []
  init := .initialized
  statics := none
  mirror := none

def pool0 : Array CpInfo := pool [(5, u "<init>"), (0, u "()V"), (1, .class_ 10), (1, u "java/lang/Object")] 113

def k0c0 : Code := { maxStack := 0, maxLocals := 1, code := object_method_1_code, exceptionTable := #[], attributes := #[] }
def k0m0 : Method := { name := "<init>", desc := "()V", sig := { parameters := [], returnType := none }, accessFlags := 1, code := some k0c0 }
/-- java/lang/Object -/
def k0 : Class := { plain "java/lang/Object" none with
  accessFlags := 33
  interfaces := #[]
  cf := some (fileOf pool0 8 #[] #[{ accessFlags := 1, nameIndex := 5, descriptorIndex := 6, attributes := #[] }] 33 0 #[] #[])
  fields := #[]
  methods := #[k0m0]
  instanceTypes := #[]
  staticTypes := #[]
  resolved := Array.replicate 124 none
  statics := none }

def pool1 : Array CpInfo := pool [(2, .class_ 4), (1, u "java/lang/Object"), (0, u "<init>"), (0, u "()V"), (0, .integer 65535), (0, .methodref 9 10), (0, .class_ 11), (0, .nameAndType 12 13), (0, u "java/lang/Integer"), (0, u "valueOf"), (0, u "(I)Ljava/lang/Integer;"), (0, .methodref 15 16), (0, .class_ 17), (0, .nameAndType 18 19), (0, u "com/example/gjallar/gjallar/messages/Coercions"), (0, u "isDecimalText"), (0, u "(Ljava/lang/Object;)Z"), (0, .methodref 21 22), (0, .class_ 23), (0, .nameAndType 12 24), (0, u "java/lang/Long"), (0, u "(J)Ljava/lang/Long;"), (0, .methodref 26 27), (0, .class_ 28), (0, .nameAndType 29 30), (0, u "com/example/gjallar/gjallar/messages/CoercionsIsDecimalTextPinLaw"), (0, u "pick"), (0, u "(I)C"), (0, .class_ 32), (0, u "java/lang/String"), (0, .methodref 31 34), (0, .nameAndType 5 35), (0, u "([C)V"), (0, .methodref 31 37), (0, .nameAndType 12 38), (0, u "(C)Ljava/lang/String;"), (0, .methodref 26 40), (0, .nameAndType 41 42), (0, u "mark"), (0, u "(C)Z"), (3, u "law"), (0, u "(IIIIJ)Z")] 2

def k1m0 : Method := { name := "<init>", desc := "()V", sig := { parameters := [], returnType := none }, accessFlags := 2, code := none }
def k1c1 : Code := { maxStack := 2, maxLocals := 2, code := method_2_code, exceptionTable := #[], attributes := #[] }
def k1m1 : Method := { name := "pick", desc := "(I)C", sig := { parameters := [.int], returnType := some .char }, accessFlags := 10, code := some k1c1 }
def k1c2 : Code := { maxStack := 2, maxLocals := 1, code := method_3_code, exceptionTable := #[], attributes := #[] }
def k1m2 : Method := { name := "mark", desc := "(C)Z", sig := { parameters := [.char], returnType := some .boolean }, accessFlags := 10, code := some k1c2 }
def k1c3 : Code := { maxStack := 6, maxLocals := 13, code := code, exceptionTable := #[], attributes := #[] }
def k1m3 : Method := { name := "law", desc := "(IIIIJ)Z", sig := { parameters := [.int, .int, .int, .int, .long], returnType := some .boolean }, accessFlags := 9, code := some k1c3 }
/-- com/example/gjallar/gjallar/messages/CoercionsIsDecimalTextPinLaw -/
def k1 : Class := { plain "com/example/gjallar/gjallar/messages/CoercionsIsDecimalTextPinLaw" (some 0) with
  accessFlags := 49
  interfaces := #[]
  cf := some (fileOf pool1 26 #[] #[{ accessFlags := 2, nameIndex := 5, descriptorIndex := 6, attributes := #[] }, { accessFlags := 10, nameIndex := 29, descriptorIndex := 30, attributes := #[] }, { accessFlags := 10, nameIndex := 41, descriptorIndex := 42, attributes := #[] }, { accessFlags := 9, nameIndex := 46, descriptorIndex := 47, attributes := #[] }] 49 2 #[] #[])
  fields := #[]
  methods := #[k1m0, k1m1, k1m2, k1m3]
  instanceTypes := #[]
  staticTypes := #[]
  resolved := Array.replicate 50 none
  statics := none }

def pool2 : Array CpInfo := pool [(1, .class_ 2), (0, u "java/io/Serializable"), (0, .class_ 4), (0, u "java/lang/Object")] 2

/-- java/io/Serializable -/
def k2 : Class := { plain "java/io/Serializable" (some 0) with
  accessFlags := 1537
  interfaces := #[]
  cf := some (fileOf pool2 1 #[] #[] 1537 3 #[] #[])
  fields := #[]
  methods := #[]
  instanceTypes := #[]
  staticTypes := #[]
  resolved := Array.replicate 7 none
  statics := none }

def pool3 : Array CpInfo := pool [(1, .class_ 2), (0, u "java/lang/Comparable"), (0, .class_ 4), (0, u "java/lang/Object")] 7

/-- java/lang/Comparable -/
def k3 : Class := { plain "java/lang/Comparable" (some 0) with
  accessFlags := 1537
  interfaces := #[]
  cf := some (fileOf pool3 1 #[] #[] 1537 3 #[] #[])
  fields := #[]
  methods := #[]
  instanceTypes := #[]
  staticTypes := #[]
  resolved := Array.replicate 12 none
  statics := none }

def pool4 : Array CpInfo := pool [(2, .class_ 4), (1, u "java/lang/CharSequence"), (42, .class_ 48), (0, u "java/lang/CharSequence$1CodePointIterator"), (10, .class_ 60), (0, u "java/lang/CharSequence$1CharIterator"), (5, .class_ 67), (0, u "java/lang/Object")] 63

/-- java/lang/CharSequence -/
def k4 : Class := { plain "java/lang/CharSequence" (some 0) with
  accessFlags := 1537
  interfaces := #[]
  cf := some (fileOf pool4 2 #[.nestMembers #[47, 59]] #[] 1537 66 #[] #[])
  fields := #[]
  methods := #[]
  instanceTypes := #[]
  staticTypes := #[]
  resolved := Array.replicate 131 none
  statics := none }

def pool5 : Array CpInfo := pool [(1, .class_ 2), (0, u "java/lang/constant/Constable"), (0, .class_ 4), (0, u "java/lang/Object")] 6

/-- java/lang/constant/Constable -/
def k5 : Class := { plain "java/lang/constant/Constable" (some 0) with
  accessFlags := 1537
  interfaces := #[]
  cf := some (fileOf pool5 1 #[] #[] 1537 3 #[] #[])
  fields := #[]
  methods := #[]
  instanceTypes := #[]
  staticTypes := #[]
  resolved := Array.replicate 11 none
  statics := none }

def pool6 : Array CpInfo := pool [(1, .class_ 2), (0, u "java/lang/constant/ConstantDesc"), (0, .class_ 4), (0, u "java/lang/Object")] 32

/-- java/lang/constant/ConstantDesc -/
def k6 : Class := { plain "java/lang/constant/ConstantDesc" (some 0) with
  accessFlags := 1537
  interfaces := #[]
  cf := some (fileOf pool6 1 #[] #[] 1537 3 #[] #[])
  fields := #[]
  methods := #[]
  instanceTypes := #[]
  staticTypes := #[]
  resolved := Array.replicate 37 none
  statics := none }

def pool7 : Array CpInfo := pool [(1, .methodref 2 3), (0, .class_ 4), (0, .nameAndType 5 6), (0, u "java/lang/Object"), (0, u "<init>"), (0, u "()V"), (0, .string 8), (0, u ""), (0, .fieldref 10 11), (0, .class_ 12), (0, .nameAndType 13 14), (0, u "java/lang/String"), (0, u "value"), (0, u "[B"), (0, .fieldref 10 16), (0, .nameAndType 17 18), (0, u "coder"), (0, u "B"), (2, u "hash"), (0, u "I"), (2, u "hashIsZero"), (0, u "Z"), (0, .methodref 10 28), (0, .nameAndType 5 29), (0, u "([CIILjava/lang/Void;)V"), (8, .fieldref 10 39), (0, .nameAndType 40 26), (0, u "COMPACT_STRINGS"), (1, .class_ 44), (1, u "java/lang/StringUTF16"), (0, u "compress"), (1, .methodref 42 48), (0, .nameAndType 49 50), (0, u "coderFromArrayLen"), (0, u "([BI)B"), (2, u "toBytes"), (53, .class_ 109), (1, u "java/lang/StringLatin1"), (32, u "()Z"), (34, .methodref 42 178), (0, .nameAndType 45 179), (0, u "([CII)[B"), (29, .methodref 10 210), (0, .nameAndType 5 211), (0, u "([BB)V"), (122, u "()I"), (0, .methodref 10 336), (0, .nameAndType 17 337), (0, u "()B"), (31, u "(C)Z"), (122, .methodref 10 493), (0, .nameAndType 494 142), (0, u "isLatin1"), (10, .methodref 10 506), (0, .nameAndType 507 334), (0, u "length"), (5, u "checkFromToIndex"), (9, u "checkBoundsBeginEnd"), (0, u "(III)V"), (50, .class_ 576), (0, u "java/lang/CharSequence"), (22, u "CASE_INSENSITIVE_ORDER"), (0, u "Ljava/util/Comparator;"), (32, .methodref 10 634), (0, .nameAndType 635 636), (0, u "indexOf"), (0, u "(II)I"), (0, .methodref 107 638), (0, .nameAndType 635 639), (0, u "([BIII)I"), (0, .methodref 42 638), (124, u "(I)I"), (16, u "valueOf"), (0, u "(C)Ljava/lang/String;"), (226, u "([C)V"), (4, .methodref 107 1016), (0, .nameAndType 1017 369), (0, u "canEncode"), (0, .methodref 107 1019), (0, .nameAndType 53 1020), (0, u "(C)[B"), (0, .methodref 42 1019), (31, .fieldref 1054 1055), (0, .class_ 1056), (0, .nameAndType 1057 1058), (0, u "jdk/internal/util/Preconditions"), (0, u "SIOOBE_FORMATTER"), (0, u "Ljava/util/function/BiFunction;"), (3, .methodref 1054 1063), (0, .nameAndType 513 1064), (0, u "(IIILjava/util/function/BiFunction;)I"), (36, u "serialPersistentFields"), (0, u "[Ljava/io/ObjectStreamField;"), (0, .class_ 1104), (0, u "java/lang/String$CaseInsensitiveComparator"), (1, .class_ 1107), (0, u "java/io/Serializable"), (0, .class_ 1109), (0, u "java/lang/Comparable"), (0, .class_ 1111), (0, u "java/lang/constant/Constable"), (0, .class_ 1113), (0, u "java/lang/constant/ConstantDesc"), (2, u "serialVersionUID"), (0, u "J"), (3, u "REPL"), (0, u "C"), (2, u "LATIN1"), (1, u "UTF16")] 323

def k7m0 : Method := { name := "<init>", desc := "()V", sig := { parameters := [], returnType := none }, accessFlags := 1, code := none }
def k7c1 : Code := { maxStack := 5, maxLocals := 2, code := jdk_42_method_3_code, exceptionTable := #[], attributes := #[] }
def k7m1 : Method := { name := "<init>", desc := "([C)V", sig := { parameters := [(.array .char)], returnType := none }, accessFlags := 1, code := some k7c1 }
def k7c2 : Code := { maxStack := 2, maxLocals := 1, code := jdk_42_method_54_code, exceptionTable := #[], attributes := #[] }
def k7m2 : Method := { name := "length", desc := "()I", sig := { parameters := [], returnType := some .int }, accessFlags := 1, code := some k7c2 }
def k7c3 : Code := { maxStack := 3, maxLocals := 2, code := jdk_42_method_79_code, exceptionTable := #[], attributes := #[] }
def k7m3 : Method := { name := "indexOf", desc := "(I)I", sig := { parameters := [.int], returnType := some .int }, accessFlags := 1, code := some k7c3 }
def k7c4 : Code := { maxStack := 4, maxLocals := 3, code := jdk_42_method_80_code, exceptionTable := #[], attributes := #[] }
def k7m4 : Method := { name := "indexOf", desc := "(II)I", sig := { parameters := [.int, .int], returnType := some .int }, accessFlags := 1, code := some k7c4 }
def k7c5 : Code := { maxStack := 4, maxLocals := 1, code := jdk_42_method_139_code, exceptionTable := #[], attributes := #[] }
def k7m5 : Method := { name := "valueOf", desc := "(C)Ljava/lang/String;", sig := { parameters := [.char], returnType := some (.object "java/lang/String") }, accessFlags := 9, code := some k7c5 }
def k7c6 : Code := { maxStack := 4, maxLocals := 6, code := jdk_42_method_149_code, exceptionTable := #[], attributes := #[] }
def k7m6 : Method := { name := "<init>", desc := "([CIILjava/lang/Void;)V", sig := { parameters := [(.array .char), .int, .int, (.object "java/lang/Void")], returnType := none }, accessFlags := 2, code := some k7c6 }
def k7c7 : Code := { maxStack := 2, maxLocals := 3, code := jdk_42_method_151_code, exceptionTable := #[], attributes := #[] }
def k7m7 : Method := { name := "<init>", desc := "([BB)V", sig := { parameters := [(.array .byte), .byte], returnType := none }, accessFlags := 0, code := some k7c7 }
def k7c8 : Code := { maxStack := 1, maxLocals := 1, code := jdk_42_method_152_code, exceptionTable := #[], attributes := #[] }
def k7m8 : Method := { name := "coder", desc := "()B", sig := { parameters := [], returnType := some .byte }, accessFlags := 0, code := some k7c8 }
def k7c9 : Code := { maxStack := 1, maxLocals := 1, code := jdk_42_method_154_code, exceptionTable := #[], attributes := #[] }
def k7m9 : Method := { name := "isLatin1", desc := "()Z", sig := { parameters := [], returnType := some .boolean }, accessFlags := 0, code := some k7c9 }
def k7c10 : Code := { maxStack := 4, maxLocals := 3, code := jdk_42_method_158_code, exceptionTable := #[], attributes := #[] }
def k7m10 : Method := { name := "checkBoundsBeginEnd", desc := "(III)V", sig := { parameters := [.int, .int, .int], returnType := none }, accessFlags := 8, code := some k7c10 }
/-- java/lang/String -/
def k7 : Class := { plain "java/lang/String" (some 0) with
  accessFlags := 49
  interfaces := #[2, 3, 4, 5, 6]
  cf := some (fileOf pool7 10 #[.nestMembers #[1103]] #[{ accessFlags := 1, nameIndex := 5, descriptorIndex := 6, attributes := #[] }, { accessFlags := 1, nameIndex := 5, descriptorIndex := 1010, attributes := #[] }, { accessFlags := 1, nameIndex := 507, descriptorIndex := 334, attributes := #[] }, { accessFlags := 1, nameIndex := 635, descriptorIndex := 765, attributes := #[] }, { accessFlags := 1, nameIndex := 635, descriptorIndex := 636, attributes := #[] }, { accessFlags := 9, nameIndex := 782, descriptorIndex := 783, attributes := #[] }, { accessFlags := 2, nameIndex := 5, descriptorIndex := 29, attributes := #[] }, { accessFlags := 0, nameIndex := 5, descriptorIndex := 211, attributes := #[] }, { accessFlags := 0, nameIndex := 17, descriptorIndex := 337, attributes := #[] }, { accessFlags := 0, nameIndex := 494, descriptorIndex := 142, attributes := #[] }, { accessFlags := 8, nameIndex := 523, descriptorIndex := 524, attributes := #[] }] 49 2 #[1106, 1108, 575, 1110, 1112] #[{ accessFlags := 18, nameIndex := 13, descriptorIndex := 14, attributes := #[] }, { accessFlags := 18, nameIndex := 17, descriptorIndex := 18, attributes := #[] }, { accessFlags := 2, nameIndex := 21, descriptorIndex := 22, attributes := #[] }, { accessFlags := 2, nameIndex := 25, descriptorIndex := 26, attributes := #[] }, { accessFlags := 26, nameIndex := 1116, descriptorIndex := 1117, attributes := #[] }, { accessFlags := 24, nameIndex := 40, descriptorIndex := 26, attributes := #[] }, { accessFlags := 26, nameIndex := 1101, descriptorIndex := 1102, attributes := #[] }, { accessFlags := 26, nameIndex := 1121, descriptorIndex := 1122, attributes := #[] }, { accessFlags := 25, nameIndex := 599, descriptorIndex := 600, attributes := #[] }, { accessFlags := 24, nameIndex := 1125, descriptorIndex := 18, attributes := #[] }, { accessFlags := 24, nameIndex := 1127, descriptorIndex := 18, attributes := #[] }])
  fields := #[{ name := "value", type := (.array .byte), accessFlags := 18, slot := 0, constantValue := 0 }, { name := "coder", type := .byte, accessFlags := 18, slot := 1, constantValue := 0 }, { name := "hash", type := .int, accessFlags := 2, slot := 2, constantValue := 0 }, { name := "hashIsZero", type := .boolean, accessFlags := 2, slot := 3, constantValue := 0 }, { name := "serialVersionUID", type := .long, accessFlags := 26, slot := 0, constantValue := 0 }, { name := "COMPACT_STRINGS", type := .boolean, accessFlags := 24, slot := 1, constantValue := 0 }, { name := "serialPersistentFields", type := (.array (.object "java/io/ObjectStreamField")), accessFlags := 26, slot := 2, constantValue := 0 }, { name := "REPL", type := .char, accessFlags := 26, slot := 3, constantValue := 0 }, { name := "CASE_INSENSITIVE_ORDER", type := (.object "java/util/Comparator"), accessFlags := 25, slot := 4, constantValue := 0 }, { name := "LATIN1", type := .byte, accessFlags := 24, slot := 5, constantValue := 0 }, { name := "UTF16", type := .byte, accessFlags := 24, slot := 6, constantValue := 0 }]
  methods := #[k7m0, k7m1, k7m2, k7m3, k7m4, k7m5, k7m6, k7m7, k7m8, k7m9, k7m10]
  instanceTypes := #[(.array .byte), .byte, .int, .boolean]
  staticTypes := #[.long, .boolean, (.array (.object "java/io/ObjectStreamField")), .char, (.object "java/util/Comparator"), .byte, .byte]
  resolved := Array.replicate 1451 none
  statics := some 0 }

def pool8 : Array CpInfo := pool [(2, .class_ 4), (1, u "java/lang/Object"), (0, u "<init>"), (0, u "()V"), (3, .class_ 12), (1, u "java/lang/String"), (1, u "(Ljava/lang/Object;)Z"), (35, .class_ 52), (1, u "com/example/gjallar/gjallar/messages/Coercions"), (175, .methodref 10 229), (0, .nameAndType 230 231), (0, u "indexOf"), (0, u "(I)I"), (8, u "MAX_DIGITS"), (0, u "I"), (26, u "isDecimalText")] 25

def k8m0 : Method := { name := "<init>", desc := "()V", sig := { parameters := [], returnType := none }, accessFlags := 2, code := none }
def k8c1 : Code := { maxStack := 2, maxLocals := 2, code := prog_11_method_22_code, exceptionTable := #[], attributes := #[] }
def k8m1 : Method := { name := "isDecimalText", desc := "(Ljava/lang/Object;)Z", sig := { parameters := [(.object "java/lang/Object")], returnType := some .boolean }, accessFlags := 8, code := some k8c1 }
/-- com/example/gjallar/gjallar/messages/Coercions -/
def k8 : Class := { plain "com/example/gjallar/gjallar/messages/Coercions" (some 0) with
  accessFlags := 32
  interfaces := #[]
  cf := some (fileOf pool8 50 #[] #[{ accessFlags := 2, nameIndex := 5, descriptorIndex := 6, attributes := #[] }, { accessFlags := 8, nameIndex := 268, descriptorIndex := 14, attributes := #[] }] 32 2 #[] #[{ accessFlags := 24, nameIndex := 240, descriptorIndex := 241, attributes := #[] }])
  fields := #[{ name := "MAX_DIGITS", type := .int, accessFlags := 24, slot := 0, constantValue := 0 }]
  methods := #[k8m0, k8m1]
  instanceTypes := #[]
  staticTypes := #[.int]
  resolved := Array.replicate 294 none
  statics := none }

def pool9 : Array CpInfo := pool [(4, .class_ 6), (1, u "java/lang/Object"), (0, u "<init>"), (0, u "()V"), (5, .class_ 16), (1, u "java/lang/StringLatin1"), (21, .methodref 39 40), (0, .class_ 41), (0, .nameAndType 42 43), (0, u "java/lang/Math"), (0, u "min"), (0, u "(II)I"), (44, .methodref 14 89), (0, .nameAndType 90 91), (0, u "canEncode"), (0, u "(I)Z"), (0, .methodref 39 93), (0, .nameAndType 94 43), (0, u "max"), (0, .methodref 14 96), (0, .nameAndType 97 98), (0, u "indexOfChar"), (0, u "([BIII)I"), (2, u "indexOf"), (3, u "(C)Z"), (15, u "$assertionsDisabled"), (0, u "Z"), (98, .class_ 223), (1, u "java/lang/StringLatin1$LinesSpliterator"), (156, u "toBytes"), (1, u "(C)[B"), (7, .class_ 391), (0, u "java/lang/StringLatin1$CharsSpliterator")] 3

def k9m0 : Method := { name := "<init>", desc := "()V", sig := { parameters := [], returnType := none }, accessFlags := 0, code := none }
def k9c1 : Code := { maxStack := 2, maxLocals := 1, code := jdk_43_method_3_code, exceptionTable := #[], attributes := #[] }
def k9m1 : Method := { name := "canEncode", desc := "(C)Z", sig := { parameters := [.char], returnType := some .boolean }, accessFlags := 9, code := some k9c1 }
def k9c2 : Code := { maxStack := 2, maxLocals := 1, code := jdk_43_method_4_code, exceptionTable := #[], attributes := #[] }
def k9m2 : Method := { name := "canEncode", desc := "(I)Z", sig := { parameters := [.int], returnType := some .boolean }, accessFlags := 9, code := some k9c2 }
def k9c3 : Code := { maxStack := 4, maxLocals := 4, code := jdk_43_method_22_code, exceptionTable := #[], attributes := #[] }
def k9m3 : Method := { name := "indexOf", desc := "([BIII)I", sig := { parameters := [(.array .byte), .int, .int, .int], returnType := some .int }, accessFlags := 9, code := some k9c3 }
def k9c4 : Code := { maxStack := 2, maxLocals := 6, code := jdk_43_method_23_code, exceptionTable := #[], attributes := #[] }
def k9m4 : Method := { name := "indexOfChar", desc := "([BIII)I", sig := { parameters := [(.array .byte), .int, .int, .int], returnType := some .int }, accessFlags := 10, code := some k9c4 }
def k9c5 : Code := { maxStack := 4, maxLocals := 1, code := jdk_43_method_46_code, exceptionTable := #[], attributes := #[] }
def k9m5 : Method := { name := "toBytes", desc := "(C)[B", sig := { parameters := [.char], returnType := some (.array .byte) }, accessFlags := 9, code := some k9c5 }
/-- java/lang/StringLatin1 -/
def k9 : Class := { plain "java/lang/StringLatin1" (some 0) with
  accessFlags := 48
  interfaces := #[]
  cf := some (fileOf pool9 14 #[.nestMembers #[390, 221]] #[{ accessFlags := 0, nameIndex := 7, descriptorIndex := 8, attributes := #[] }, { accessFlags := 9, nameIndex := 90, descriptorIndex := 105, attributes := #[] }, { accessFlags := 9, nameIndex := 90, descriptorIndex := 91, attributes := #[] }, { accessFlags := 9, nameIndex := 101, descriptorIndex := 98, attributes := #[] }, { accessFlags := 10, nameIndex := 97, descriptorIndex := 98, attributes := #[] }, { accessFlags := 9, nameIndex := 380, descriptorIndex := 382, attributes := #[] }] 48 4 #[] #[{ accessFlags := 4120, nameIndex := 121, descriptorIndex := 122, attributes := #[] }])
  fields := #[{ name := "$assertionsDisabled", type := .boolean, accessFlags := 4120, slot := 0, constantValue := 0 }]
  methods := #[k9m0, k9m1, k9m2, k9m3, k9m4, k9m5]
  instanceTypes := #[]
  staticTypes := #[.boolean]
  resolved := Array.replicate 395 none
  statics := none }

def pool10 : Array CpInfo := pool [(1, .class_ 2), (0, u "java/lang/Math"), (1, .class_ 6), (1, u "java/lang/Object"), (0, u "<init>"), (0, u "()V"), (89, .class_ 100), (1, u "java/lang/Math$RandomNumberGeneratorHolder"), (71, u "negativeZeroFloatBits"), (0, u "J"), (2, u "negativeZeroDoubleBits"), (21, u "max"), (2, u "min"), (43, u "$assertionsDisabled"), (0, u "Z"), (88, u "(II)I"), (2, u "twoToTheDoubleScaleDown"), (0, u "D"), (4, u "twoToTheDoubleScaleUp"), (9, u "E"), (3, u "PI"), (2, u "TAU"), (2, u "DEGREES_TO_RADIANS"), (0, u "RADIANS_TO_DEGREES")] 94

def k10m0 : Method := { name := "<init>", desc := "()V", sig := { parameters := [], returnType := none }, accessFlags := 2, code := none }
def k10c1 : Code := { maxStack := 2, maxLocals := 2, code := jdk_29_method_65_code, exceptionTable := #[], attributes := #[] }
def k10m1 : Method := { name := "max", desc := "(II)I", sig := { parameters := [.int, .int], returnType := some .int }, accessFlags := 9, code := some k10c1 }
def k10c2 : Code := { maxStack := 2, maxLocals := 2, code := jdk_29_method_69_code, exceptionTable := #[], attributes := #[] }
def k10m2 : Method := { name := "min", desc := "(II)I", sig := { parameters := [.int, .int], returnType := some .int }, accessFlags := 9, code := some k10c2 }
/-- java/lang/Math -/
def k10 : Class := { plain "java/lang/Math" (some 0) with
  accessFlags := 49
  interfaces := #[]
  cf := some (fileOf pool10 1 #[.nestMembers #[98]] #[{ accessFlags := 2, nameIndex := 7, descriptorIndex := 8, attributes := #[] }, { accessFlags := 9, nameIndex := 198, descriptorIndex := 335, attributes := #[] }, { accessFlags := 9, nameIndex := 201, descriptorIndex := 335, attributes := #[] }] 49 4 #[] #[{ accessFlags := 25, nameIndex := 354, descriptorIndex := 339, attributes := #[] }, { accessFlags := 25, nameIndex := 358, descriptorIndex := 339, attributes := #[] }, { accessFlags := 25, nameIndex := 361, descriptorIndex := 339, attributes := #[] }, { accessFlags := 26, nameIndex := 364, descriptorIndex := 339, attributes := #[] }, { accessFlags := 26, nameIndex := 365, descriptorIndex := 339, attributes := #[] }, { accessFlags := 26, nameIndex := 172, descriptorIndex := 173, attributes := #[] }, { accessFlags := 26, nameIndex := 176, descriptorIndex := 173, attributes := #[] }, { accessFlags := 8, nameIndex := 344, descriptorIndex := 339, attributes := #[] }, { accessFlags := 8, nameIndex := 338, descriptorIndex := 339, attributes := #[] }, { accessFlags := 4120, nameIndex := 245, descriptorIndex := 246, attributes := #[] }])
  fields := #[{ name := "E", type := .double, accessFlags := 25, slot := 0, constantValue := 0 }, { name := "PI", type := .double, accessFlags := 25, slot := 1, constantValue := 0 }, { name := "TAU", type := .double, accessFlags := 25, slot := 2, constantValue := 0 }, { name := "DEGREES_TO_RADIANS", type := .double, accessFlags := 26, slot := 3, constantValue := 0 }, { name := "RADIANS_TO_DEGREES", type := .double, accessFlags := 26, slot := 4, constantValue := 0 }, { name := "negativeZeroFloatBits", type := .long, accessFlags := 26, slot := 5, constantValue := 0 }, { name := "negativeZeroDoubleBits", type := .long, accessFlags := 26, slot := 6, constantValue := 0 }, { name := "twoToTheDoubleScaleUp", type := .double, accessFlags := 8, slot := 7, constantValue := 0 }, { name := "twoToTheDoubleScaleDown", type := .double, accessFlags := 8, slot := 8, constantValue := 0 }, { name := "$assertionsDisabled", type := .boolean, accessFlags := 4120, slot := 9, constantValue := 0 }]
  methods := #[k10m0, k10m1, k10m2]
  instanceTypes := #[]
  staticTypes := #[.double, .double, .double, .double, .double, .long, .long, .double, .double, .boolean]
  resolved := Array.replicate 460 none
  statics := none }

def pool11 : Array CpInfo := pool [(1, .methodref 2 3), (0, .class_ 4), (0, .nameAndType 5 6), (0, u "java/lang/Object"), (0, u "<init>"), (0, u "()V"), (1, .class_ 10), (1, u "java/lang/Number"), (2, .class_ 14), (0, u "java/io/Serializable"), (0, u "serialVersionUID"), (0, u "J")] 20

def k11c0 : Code := { maxStack := 1, maxLocals := 1, code := jdk_18_method_1_code, exceptionTable := #[], attributes := #[] }
def k11m0 : Method := { name := "<init>", desc := "()V", sig := { parameters := [], returnType := none }, accessFlags := 1, code := some k11c0 }
/-- java/lang/Number -/
def k11 : Class := { plain "java/lang/Number" (some 0) with
  accessFlags := 1057
  interfaces := #[2]
  cf := some (fileOf pool11 8 #[] #[{ accessFlags := 1, nameIndex := 5, descriptorIndex := 6, attributes := #[] }] 1057 2 #[13] #[{ accessFlags := 26, nameIndex := 15, descriptorIndex := 16, attributes := #[] }])
  fields := #[{ name := "serialVersionUID", type := .long, accessFlags := 26, slot := 0, constantValue := 0 }]
  methods := #[k11m0]
  instanceTypes := #[]
  staticTypes := #[.long]
  resolved := Array.replicate 37 none
  statics := none }

def pool12 : Array CpInfo := pool [(1, .class_ 2), (0, u "java/lang/Integer"), (16, u "digits"), (0, u "[C"), (46, u "<init>"), (17, u "DigitOnes"), (0, u "[B"), (2, u "DigitTens"), (10, .nameAndType 67 101), (0, u "()V"), (85, u "valueOf"), (0, u "(I)Ljava/lang/Integer;"), (0, .class_ 190), (0, u "java/lang/Integer$IntegerCache"), (0, .fieldref 189 192), (0, .nameAndType 193 194), (0, u "high"), (0, u "I"), (0, .fieldref 189 196), (0, .nameAndType 197 198), (0, u "cache"), (0, u "[Ljava/lang/Integer;"), (0, .methodref 1 200), (0, .nameAndType 67 201), (0, u "(I)V"), (0, .methodref 203 100), (0, .class_ 204), (0, u "java/lang/Number"), (0, .fieldref 1 206), (0, .nameAndType 207 194), (0, u "value"), (94, u "TYPE"), (0, u "Ljava/lang/Class;"), (0, .class_ 305), (0, u "java/lang/Comparable"), (0, .class_ 307), (0, u "java/lang/constant/Constable"), (0, .class_ 309), (0, u "java/lang/constant/ConstantDesc"), (0, u "MIN_VALUE"), (1, u "MAX_VALUE"), (3, u "SIZE"), (1, u "BYTES"), (1, u "serialVersionUID"), (0, u "J")] 131

def k12c0 : Code := { maxStack := 3, maxLocals := 1, code := jdk_33_method_22_code, exceptionTable := #[], attributes := #[] }
def k12m0 : Method := { name := "valueOf", desc := "(I)Ljava/lang/Integer;", sig := { parameters := [.int], returnType := some (.object "java/lang/Integer") }, accessFlags := 9, code := some k12c0 }
def k12c1 : Code := { maxStack := 2, maxLocals := 2, code := jdk_33_method_23_code, exceptionTable := #[], attributes := #[] }
def k12m1 : Method := { name := "<init>", desc := "(I)V", sig := { parameters := [.int], returnType := none }, accessFlags := 1, code := some k12c1 }
/-- java/lang/Integer -/
def k12 : Class := { plain "java/lang/Integer" (some 11) with
  accessFlags := 49
  interfaces := #[3, 5, 6]
  cf := some (fileOf pool12 1 #[.nestMembers #[189]] #[{ accessFlags := 9, nameIndex := 187, descriptorIndex := 188, attributes := #[] }, { accessFlags := 1, nameIndex := 67, descriptorIndex := 201, attributes := #[] }] 49 203 #[304, 306, 308] #[{ accessFlags := 25, nameIndex := 310, descriptorIndex := 194, attributes := #[] }, { accessFlags := 25, nameIndex := 312, descriptorIndex := 194, attributes := #[] }, { accessFlags := 25, nameIndex := 302, descriptorIndex := 303, attributes := #[] }, { accessFlags := 24, nameIndex := 19, descriptorIndex := 20, attributes := #[] }, { accessFlags := 24, nameIndex := 89, descriptorIndex := 86, attributes := #[] }, { accessFlags := 24, nameIndex := 85, descriptorIndex := 86, attributes := #[] }, { accessFlags := 18, nameIndex := 207, descriptorIndex := 194, attributes := #[] }, { accessFlags := 25, nameIndex := 316, descriptorIndex := 194, attributes := #[] }, { accessFlags := 25, nameIndex := 318, descriptorIndex := 194, attributes := #[] }, { accessFlags := 26, nameIndex := 320, descriptorIndex := 321, attributes := #[] }])
  fields := #[{ name := "MIN_VALUE", type := .int, accessFlags := 25, slot := 0, constantValue := 0 }, { name := "MAX_VALUE", type := .int, accessFlags := 25, slot := 1, constantValue := 0 }, { name := "TYPE", type := (.object "java/lang/Class"), accessFlags := 25, slot := 2, constantValue := 0 }, { name := "digits", type := (.array .char), accessFlags := 24, slot := 3, constantValue := 0 }, { name := "DigitTens", type := (.array .byte), accessFlags := 24, slot := 4, constantValue := 0 }, { name := "DigitOnes", type := (.array .byte), accessFlags := 24, slot := 5, constantValue := 0 }, { name := "value", type := .int, accessFlags := 18, slot := 0, constantValue := 0 }, { name := "SIZE", type := .int, accessFlags := 25, slot := 6, constantValue := 0 }, { name := "BYTES", type := .int, accessFlags := 25, slot := 7, constantValue := 0 }, { name := "serialVersionUID", type := .long, accessFlags := 26, slot := 8, constantValue := 0 }]
  methods := #[k12m0, k12m1]
  instanceTypes := #[.int]
  staticTypes := #[.int, .int, (.object "java/lang/Class"), (.array .char), (.array .byte), (.array .byte), .int, .int, .long]
  resolved := Array.replicate 453 none
  statics := none }

def pool13 : Array CpInfo := pool [(2, .class_ 4), (1, u "java/lang/Object"), (0, u "<init>"), (0, u "()V"), (0, .class_ 8), (0, u "java/lang/Integer"), (7, .class_ 18), (1, u "java/lang/Integer$IntegerCache"), (0, u "$assertionsDisabled"), (0, u "Z"), (26, u "high"), (0, u "I"), (8, u "archivedCache"), (0, u "[Ljava/lang/Integer;"), (12, u "cache"), (0, u "low")] 27

def k13m0 : Method := { name := "<init>", desc := "()V", sig := { parameters := [], returnType := none }, accessFlags := 2, code := none }
/-- java/lang/Integer$IntegerCache -/
def k13 : Class := { plain "java/lang/Integer$IntegerCache" (some 0) with
  accessFlags := 48
  interfaces := #[]
  cf := some (fileOf pool13 16 #[.nestHost 7] #[{ accessFlags := 2, nameIndex := 5, descriptorIndex := 6, attributes := #[] }] 48 2 #[] #[{ accessFlags := 24, nameIndex := 72, descriptorIndex := 48, attributes := #[] }, { accessFlags := 24, nameIndex := 47, descriptorIndex := 48, attributes := #[] }, { accessFlags := 24, nameIndex := 71, descriptorIndex := 58, attributes := #[] }, { accessFlags := 8, nameIndex := 57, descriptorIndex := 58, attributes := #[] }, { accessFlags := 4120, nameIndex := 19, descriptorIndex := 20, attributes := #[] }])
  fields := #[{ name := "low", type := .int, accessFlags := 24, slot := 0, constantValue := 0 }, { name := "high", type := .int, accessFlags := 24, slot := 1, constantValue := 0 }, { name := "cache", type := (.array (.object "java/lang/Integer")), accessFlags := 24, slot := 2, constantValue := 0 }, { name := "archivedCache", type := (.array (.object "java/lang/Integer")), accessFlags := 8, slot := 3, constantValue := 0 }, { name := "$assertionsDisabled", type := .boolean, accessFlags := 4120, slot := 4, constantValue := 0 }]
  methods := #[k13m0]
  instanceTypes := #[]
  staticTypes := #[.int, .int, (.array (.object "java/lang/Integer")), (.array (.object "java/lang/Integer")), .boolean]
  resolved := Array.replicate 100 none
  statics := some 1 }

def pool14 : Array CpInfo := pool [(1, .class_ 2), (0, u "java/lang/Long"), (55, .nameAndType 59 60), (0, u "<init>"), (0, u "()V"), (24, u "valueOf"), (143, u "(J)Ljava/lang/Long;"), (0, .long 18446744073709551488), (1, .long 127), (1, .fieldref 235 236), (0, .class_ 237), (0, .nameAndType 238 239), (0, u "java/lang/Long$LongCache"), (0, u "cache"), (0, u "[Ljava/lang/Long;"), (0, .methodref 1 241), (0, .nameAndType 59 242), (0, u "(J)V"), (27, .methodref 271 58), (0, .class_ 272), (0, u "java/lang/Number"), (0, .fieldref 1 274), (0, .nameAndType 275 276), (0, u "value"), (0, u "J"), (84, u "TYPE"), (0, u "Ljava/lang/Class;"), (0, .class_ 364), (0, u "java/lang/Comparable"), (0, .class_ 366), (0, u "java/lang/constant/Constable"), (0, .class_ 368), (0, u "java/lang/constant/ConstantDesc"), (0, u "MIN_VALUE"), (1, u "MAX_VALUE"), (4, u "SIZE"), (0, u "I"), (1, u "BYTES"), (1, u "serialVersionUID")] 142

def k14c0 : Code := { maxStack := 4, maxLocals := 3, code := jdk_35_method_24_code, exceptionTable := #[], attributes := #[] }
def k14m0 : Method := { name := "valueOf", desc := "(J)Ljava/lang/Long;", sig := { parameters := [.long], returnType := some (.object "java/lang/Long") }, accessFlags := 9, code := some k14c0 }
def k14c1 : Code := { maxStack := 3, maxLocals := 3, code := jdk_35_method_26_code, exceptionTable := #[], attributes := #[] }
def k14m1 : Method := { name := "<init>", desc := "(J)V", sig := { parameters := [.long], returnType := none }, accessFlags := 1, code := some k14c1 }
/-- java/lang/Long -/
def k14 : Class := { plain "java/lang/Long" (some 11) with
  accessFlags := 49
  interfaces := #[3, 5, 6]
  cf := some (fileOf pool14 1 #[.nestMembers #[235]] #[{ accessFlags := 9, nameIndex := 85, descriptorIndex := 229, attributes := #[] }, { accessFlags := 1, nameIndex := 59, descriptorIndex := 242, attributes := #[] }] 49 271 #[363, 365, 367] #[{ accessFlags := 25, nameIndex := 369, descriptorIndex := 276, attributes := #[] }, { accessFlags := 25, nameIndex := 371, descriptorIndex := 276, attributes := #[] }, { accessFlags := 25, nameIndex := 361, descriptorIndex := 362, attributes := #[] }, { accessFlags := 18, nameIndex := 275, descriptorIndex := 276, attributes := #[] }, { accessFlags := 25, nameIndex := 376, descriptorIndex := 377, attributes := #[] }, { accessFlags := 25, nameIndex := 379, descriptorIndex := 377, attributes := #[] }, { accessFlags := 26, nameIndex := 381, descriptorIndex := 276, attributes := #[] }])
  fields := #[{ name := "MIN_VALUE", type := .long, accessFlags := 25, slot := 0, constantValue := 0 }, { name := "MAX_VALUE", type := .long, accessFlags := 25, slot := 1, constantValue := 0 }, { name := "TYPE", type := (.object "java/lang/Class"), accessFlags := 25, slot := 2, constantValue := 0 }, { name := "value", type := .long, accessFlags := 18, slot := 0, constantValue := 0 }, { name := "SIZE", type := .int, accessFlags := 25, slot := 3, constantValue := 0 }, { name := "BYTES", type := .int, accessFlags := 25, slot := 4, constantValue := 0 }, { name := "serialVersionUID", type := .long, accessFlags := 26, slot := 5, constantValue := 0 }]
  methods := #[k14m0, k14m1]
  instanceTypes := #[.long]
  staticTypes := #[.long, .long, (.object "java/lang/Class"), .int, .int, .long]
  resolved := Array.replicate 524 none
  statics := none }

def pool15 : Array CpInfo := pool [(2, .class_ 4), (1, u "java/lang/Object"), (0, u "<init>"), (0, u "()V"), (0, .class_ 8), (0, u "java/lang/Long"), (7, .class_ 18), (1, u "java/lang/Long$LongCache"), (0, u "$assertionsDisabled"), (0, u "Z"), (8, u "archivedCache"), (0, u "[Ljava/lang/Long;"), (7, u "cache")] 24

def k15m0 : Method := { name := "<init>", desc := "()V", sig := { parameters := [], returnType := none }, accessFlags := 2, code := none }
/-- java/lang/Long$LongCache -/
def k15 : Class := { plain "java/lang/Long$LongCache" (some 0) with
  accessFlags := 48
  interfaces := #[]
  cf := some (fileOf pool15 16 #[.nestHost 7] #[{ accessFlags := 2, nameIndex := 5, descriptorIndex := 6, attributes := #[] }] 48 2 #[] #[{ accessFlags := 24, nameIndex := 38, descriptorIndex := 30, attributes := #[] }, { accessFlags := 8, nameIndex := 29, descriptorIndex := 30, attributes := #[] }, { accessFlags := 4120, nameIndex := 19, descriptorIndex := 20, attributes := #[] }])
  fields := #[{ name := "cache", type := (.array (.object "java/lang/Long")), accessFlags := 24, slot := 0, constantValue := 0 }, { name := "archivedCache", type := (.array (.object "java/lang/Long")), accessFlags := 8, slot := 1, constantValue := 0 }, { name := "$assertionsDisabled", type := .boolean, accessFlags := 4120, slot := 2, constantValue := 0 }]
  methods := #[k15m0]
  instanceTypes := #[]
  staticTypes := #[(.array (.object "java/lang/Long")), (.array (.object "java/lang/Long")), .boolean]
  resolved := Array.replicate 63 none
  statics := some 2 }

def pool16 : Array CpInfo := pool [(3, .class_ 4), (0, u "java/lang/String"), (1, .class_ 8), (1, u "java/lang/Object"), (0, u "<init>"), (0, u "()V"), (0, .methodref 12 13), (0, .class_ 14), (0, .nameAndType 15 16), (0, u "java/lang/StringUTF16"), (0, u "newBytesLength"), (0, u "(I)I"), (3, .integer 1073741823), (23, .fieldref 12 45), (0, .nameAndType 46 47), (0, u "$assertionsDisabled"), (0, u "Z"), (0, .methodref 12 49), (0, .nameAndType 50 51), (0, u "length"), (0, u "([B)I"), (7, .fieldref 12 60), (0, .nameAndType 61 62), (0, u "HI_BYTE_SHIFT"), (0, u "I"), (0, .fieldref 12 64), (0, .nameAndType 65 62), (0, u "LO_BYTE_SHIFT"), (5, .methodref 12 72), (0, .nameAndType 73 74), (0, u "getChar"), (0, u "([BI)C"), (21, .methodref 12 97), (0, .nameAndType 98 99), (0, u "checkBoundsBeginEnd"), (0, u "(II[B)V"), (7, .methodref 12 108), (0, .nameAndType 109 110), (0, u "newBytesFor"), (0, u "(I)[B"), (0, .methodref 12 112), (0, .nameAndType 113 114), (0, u "putChar"), (0, u "([BII)V"), (0, .methodref 12 116), (0, .nameAndType 117 118), (0, u "compress"), (0, u "([CI[BII)I"), (0, .methodref 12 120), (0, .nameAndType 121 122), (0, u "toBytes"), (0, u "([CII)[B"), (60, .methodref 184 185), (0, .class_ 186), (0, .nameAndType 187 188), (0, u "java/lang/Math"), (0, u "min"), (0, u "(II)I"), (35, .methodref 184 225), (0, .nameAndType 226 188), (0, u "max"), (0, .integer 65536), (0, .methodref 12 229), (0, .nameAndType 230 231), (0, u "indexOfChar"), (0, u "([BIII)I"), (9, .methodref 3 242), (0, .nameAndType 98 243), (0, u "(III)V"), (0, .methodref 12 245), (0, .nameAndType 246 231), (0, u "indexOfCharUnsafe"), (14, u "coderFromArrayLen"), (0, u "([BI)B"), (5, u "indexOf"), (100, .class_ 371), (1, u "java/lang/StringUTF16$LinesSpliterator"), (58, u "MAX_LENGTH"), (44, u "(C)[B"), (151, .class_ 628), (0, u "java/lang/StringUTF16$CodePointsSpliterator"), (0, .class_ 630), (0, u "java/lang/StringUTF16$CharsSpliterator")] 4

def k16m0 : Method := { name := "<init>", desc := "()V", sig := { parameters := [], returnType := none }, accessFlags := 0, code := none }
def k16c1 : Code := { maxStack := 1, maxLocals := 1, code := jdk_52_method_2_code, exceptionTable := #[], attributes := #[] }
def k16m1 : Method := { name := "newBytesFor", desc := "(I)[B", sig := { parameters := [.int], returnType := some (.array .byte) }, accessFlags := 9, code := some k16c1 }
def k16c2 : Code := { maxStack := 4, maxLocals := 1, code := jdk_52_method_3_code, exceptionTable := #[], attributes := #[] }
def k16m2 : Method := { name := "newBytesLength", desc := "(I)I", sig := { parameters := [.int], returnType := some .int }, accessFlags := 9, code := some k16c2 }
def k16c3 : Code := { maxStack := 4, maxLocals := 3, code := jdk_52_method_4_code, exceptionTable := #[], attributes := #[] }
def k16m3 : Method := { name := "putChar", desc := "([BII)V", sig := { parameters := [(.array .byte), .int, .int], returnType := none }, accessFlags := 8, code := some k16c3 }
def k16c4 : Code := { maxStack := 3, maxLocals := 2, code := jdk_52_method_5_code, exceptionTable := #[], attributes := #[] }
def k16m4 : Method := { name := "getChar", desc := "([BI)C", sig := { parameters := [(.array .byte), .int], returnType := some .char }, accessFlags := 8, code := some k16c4 }
def k16c5 : Code := { maxStack := 2, maxLocals := 1, code := jdk_52_method_6_code, exceptionTable := #[], attributes := #[] }
def k16m5 : Method := { name := "length", desc := "([B)I", sig := { parameters := [(.array .byte)], returnType := some .int }, accessFlags := 9, code := some k16c5 }
def k16c6 : Code := { maxStack := 4, maxLocals := 5, code := jdk_52_method_14_code, exceptionTable := #[], attributes := #[] }
def k16m6 : Method := { name := "toBytes", desc := "([CII)[B", sig := { parameters := [(.array .char), .int, .int], returnType := some (.array .byte) }, accessFlags := 9, code := some k16c6 }
def k16c7 : Code := { maxStack := 2, maxLocals := 2, code := jdk_52_method_15_code, exceptionTable := #[], attributes := #[] }
def k16m7 : Method := { name := "coderFromArrayLen", desc := "([BI)B", sig := { parameters := [(.array .byte), .int], returnType := some .byte }, accessFlags := 8, code := some k16c7 }
def k16c8 : Code := { maxStack := 5, maxLocals := 6, code := jdk_52_method_16_code, exceptionTable := #[], attributes := #[] }
def k16m8 : Method := { name := "compress", desc := "([CII)[B", sig := { parameters := [(.array .char), .int, .int], returnType := some (.array .byte) }, accessFlags := 9, code := some k16c8 }
def k16c9 : Code := { maxStack := 3, maxLocals := 7, code := jdk_52_method_21_code, exceptionTable := #[], attributes := #[] }
def k16m9 : Method := { name := "compress", desc := "([CI[BII)I", sig := { parameters := [(.array .char), .int, (.array .byte), .int, .int], returnType := some .int }, accessFlags := 9, code := some k16c9 }
def k16c10 : Code := { maxStack := 3, maxLocals := 2, code := jdk_52_method_24_code, exceptionTable := #[], attributes := #[] }
def k16m10 : Method := { name := "toBytes", desc := "(C)[B", sig := { parameters := [.char], returnType := some (.array .byte) }, accessFlags := 9, code := some k16c10 }
def k16c11 : Code := { maxStack := 4, maxLocals := 4, code := jdk_52_method_40_code, exceptionTable := #[], attributes := #[] }
def k16m11 : Method := { name := "indexOf", desc := "([BIII)I", sig := { parameters := [(.array .byte), .int, .int, .int], returnType := some .int }, accessFlags := 9, code := some k16c11 }
def k16c12 : Code := { maxStack := 4, maxLocals := 4, code := jdk_52_method_47_code, exceptionTable := #[], attributes := #[] }
def k16m12 : Method := { name := "indexOfChar", desc := "([BIII)I", sig := { parameters := [(.array .byte), .int, .int, .int], returnType := some .int }, accessFlags := 10, code := some k16c12 }
def k16c13 : Code := { maxStack := 2, maxLocals := 5, code := jdk_52_method_48_code, exceptionTable := #[], attributes := #[] }
def k16m13 : Method := { name := "indexOfCharUnsafe", desc := "([BIII)I", sig := { parameters := [(.array .byte), .int, .int, .int], returnType := some .int }, accessFlags := 10, code := some k16c13 }
def k16c14 : Code := { maxStack := 3, maxLocals := 3, code := jdk_52_method_93_code, exceptionTable := #[], attributes := #[] }
def k16m14 : Method := { name := "checkBoundsBeginEnd", desc := "(II[B)V", sig := { parameters := [.int, .int, (.array .byte)], returnType := none }, accessFlags := 9, code := some k16c14 }
/-- java/lang/StringUTF16 -/
def k16 : Class := { plain "java/lang/StringUTF16" (some 0) with
  accessFlags := 48
  interfaces := #[]
  cf := some (fileOf pool16 12 #[.nestMembers #[627, 629, 369]] #[{ accessFlags := 0, nameIndex := 9, descriptorIndex := 10, attributes := #[] }, { accessFlags := 9, nameIndex := 109, descriptorIndex := 110, attributes := #[] }, { accessFlags := 9, nameIndex := 15, descriptorIndex := 16, attributes := #[] }, { accessFlags := 8, nameIndex := 113, descriptorIndex := 114, attributes := #[] }, { accessFlags := 8, nameIndex := 73, descriptorIndex := 74, attributes := #[] }, { accessFlags := 9, nameIndex := 50, descriptorIndex := 51, attributes := #[] }, { accessFlags := 9, nameIndex := 121, descriptorIndex := 122, attributes := #[] }, { accessFlags := 8, nameIndex := 261, descriptorIndex := 262, attributes := #[] }, { accessFlags := 9, nameIndex := 117, descriptorIndex := 122, attributes := #[] }, { accessFlags := 9, nameIndex := 117, descriptorIndex := 118, attributes := #[] }, { accessFlags := 9, nameIndex := 121, descriptorIndex := 475, attributes := #[] }, { accessFlags := 9, nameIndex := 268, descriptorIndex := 231, attributes := #[] }, { accessFlags := 10, nameIndex := 230, descriptorIndex := 231, attributes := #[] }, { accessFlags := 10, nameIndex := 246, descriptorIndex := 231, attributes := #[] }, { accessFlags := 9, nameIndex := 98, descriptorIndex := 99, attributes := #[] }] 48 6 #[] #[{ accessFlags := 26, nameIndex := 61, descriptorIndex := 62, attributes := #[] }, { accessFlags := 26, nameIndex := 65, descriptorIndex := 62, attributes := #[] }, { accessFlags := 24, nameIndex := 430, descriptorIndex := 62, attributes := #[] }, { accessFlags := 4120, nameIndex := 46, descriptorIndex := 47, attributes := #[] }])
  fields := #[{ name := "HI_BYTE_SHIFT", type := .int, accessFlags := 26, slot := 0, constantValue := 0 }, { name := "LO_BYTE_SHIFT", type := .int, accessFlags := 26, slot := 1, constantValue := 0 }, { name := "MAX_LENGTH", type := .int, accessFlags := 24, slot := 2, constantValue := 0 }, { name := "$assertionsDisabled", type := .boolean, accessFlags := 4120, slot := 3, constantValue := 0 }]
  methods := #[k16m0, k16m1, k16m2, k16m3, k16m4, k16m5, k16m6, k16m7, k16m8, k16m9, k16m10, k16m11, k16m12, k16m13, k16m14]
  instanceTypes := #[]
  staticTypes := #[.int, .int, .int, .boolean]
  resolved := Array.replicate 635 none
  statics := some 3 }

def pool17 : Array CpInfo := pool [(2, .class_ 4), (1, u "java/lang/Object"), (0, u "<init>"), (0, u "()V"), (17, .class_ 26), (1, u "jdk/internal/util/Preconditions"), (20, u "checkFromToIndex"), (7, .class_ 56), (0, u "jdk/internal/util/Preconditions$4"), (57, .class_ 115), (0, u "jdk/internal/util/Preconditions$1"), (7, u "SIOOBE_FORMATTER"), (0, u "Ljava/util/function/BiFunction;"), (0, .class_ 126), (0, u "jdk/internal/util/Preconditions$2"), (3, u "AIOOBE_FORMATTER"), (0, .class_ 132), (0, u "jdk/internal/util/Preconditions$3"), (3, u "IOOBE_FORMATTER"), (46, u "(IIILjava/util/function/BiFunction;)I")] 10

def k17m0 : Method := { name := "<init>", desc := "()V", sig := { parameters := [], returnType := none }, accessFlags := 1, code := none }
def k17c1 : Code := { maxStack := 4, maxLocals := 4, code := jdk_41_method_12_code, exceptionTable := #[], attributes := #[] }
def k17m1 : Method := { name := "checkFromToIndex", desc := "(IIILjava/util/function/BiFunction;)I", sig := { parameters := [.int, .int, .int, (.object "java/util/function/BiFunction")], returnType := some .int }, accessFlags := 9, code := some k17c1 }
/-- jdk/internal/util/Preconditions -/
def k17 : Class := { plain "jdk/internal/util/Preconditions" (some 0) with
  accessFlags := 33
  interfaces := #[]
  cf := some (fileOf pool17 24 #[.nestMembers #[55, 131, 125, 114]] #[{ accessFlags := 1, nameIndex := 5, descriptorIndex := 6, attributes := #[] }, { accessFlags := 9, nameIndex := 47, descriptorIndex := 183, attributes := #[] }] 33 2 #[] #[{ accessFlags := 25, nameIndex := 123, descriptorIndex := 124, attributes := #[] }, { accessFlags := 25, nameIndex := 130, descriptorIndex := 124, attributes := #[] }, { accessFlags := 25, nameIndex := 136, descriptorIndex := 124, attributes := #[] }])
  fields := #[{ name := "SIOOBE_FORMATTER", type := (.object "java/util/function/BiFunction"), accessFlags := 25, slot := 0, constantValue := 0 }, { name := "AIOOBE_FORMATTER", type := (.object "java/util/function/BiFunction"), accessFlags := 25, slot := 1, constantValue := 0 }, { name := "IOOBE_FORMATTER", type := (.object "java/util/function/BiFunction"), accessFlags := 25, slot := 2, constantValue := 0 }]
  methods := #[k17m0, k17m1]
  instanceTypes := #[]
  staticTypes := #[(.object "java/util/function/BiFunction"), (.object "java/util/function/BiFunction"), (.object "java/util/function/BiFunction")]
  resolved := Array.replicate 194 none
  statics := some 4 }

def pool18 : Array CpInfo := pool [(9, u "<init>"), (6, .class_ 18), (1, u "java/lang/Object"), (0, u "()V"), (1, .class_ 23), (1, u "jdk/internal/util/ArraysSupport"), (0, u "LOG2_ARRAY_LONG_INDEX_SCALE"), (0, u "I"), (2, u "U"), (0, u "Ljdk/internal/misc/Unsafe;"), (8, u "BIG_ENDIAN"), (0, u "Z"), (8, u "LOG2_BYTE_BIT_SIZE"), (4, u "LOG2_ARRAY_INT_INDEX_SCALE"), (54, u "JLA"), (0, u "Ljdk/internal/access/JavaLangAccess;"), (11, u "LOG2_ARRAY_BOOLEAN_INDEX_SCALE"), (9, u "LOG2_ARRAY_BYTE_INDEX_SCALE"), (5, u "LOG2_ARRAY_CHAR_INDEX_SCALE"), (5, u "LOG2_ARRAY_SHORT_INDEX_SCALE"), (18, u "LOG2_ARRAY_FLOAT_INDEX_SCALE"), (24, u "LOG2_ARRAY_DOUBLE_INDEX_SCALE"), (89, u "T_BOOLEAN"), (2, u "T_CHAR"), (1, u "T_FLOAT"), (1, u "T_DOUBLE"), (1, u "T_BYTE"), (1, u "T_SHORT"), (1, u "T_INT"), (1, u "T_LONG"), (1, u "SOFT_MAX_ARRAY_LENGTH")] 83

def k18m0 : Method := { name := "<init>", desc := "()V", sig := { parameters := [], returnType := none }, accessFlags := 2, code := none }
/-- jdk/internal/util/ArraysSupport -/
def k18 : Class := { plain "jdk/internal/util/ArraysSupport" (some 0) with
  accessFlags := 33
  interfaces := #[]
  cf := some (fileOf pool18 21 #[] #[{ accessFlags := 2, nameIndex := 9, descriptorIndex := 19, attributes := #[] }] 33 16 #[] #[{ accessFlags := 24, nameIndex := 28, descriptorIndex := 29, attributes := #[] }, { accessFlags := 26, nameIndex := 38, descriptorIndex := 39, attributes := #[] }, { accessFlags := 25, nameIndex := 121, descriptorIndex := 25, attributes := #[] }, { accessFlags := 25, nameIndex := 131, descriptorIndex := 25, attributes := #[] }, { accessFlags := 25, nameIndex := 137, descriptorIndex := 25, attributes := #[] }, { accessFlags := 25, nameIndex := 143, descriptorIndex := 25, attributes := #[] }, { accessFlags := 25, nameIndex := 53, descriptorIndex := 25, attributes := #[] }, { accessFlags := 25, nameIndex := 24, descriptorIndex := 25, attributes := #[] }, { accessFlags := 25, nameIndex := 162, descriptorIndex := 25, attributes := #[] }, { accessFlags := 25, nameIndex := 187, descriptorIndex := 25, attributes := #[] }, { accessFlags := 26, nameIndex := 48, descriptorIndex := 25, attributes := #[] }, { accessFlags := 25, nameIndex := 277, descriptorIndex := 25, attributes := #[] }, { accessFlags := 25, nameIndex := 280, descriptorIndex := 25, attributes := #[] }, { accessFlags := 25, nameIndex := 282, descriptorIndex := 25, attributes := #[] }, { accessFlags := 25, nameIndex := 284, descriptorIndex := 25, attributes := #[] }, { accessFlags := 25, nameIndex := 286, descriptorIndex := 25, attributes := #[] }, { accessFlags := 25, nameIndex := 288, descriptorIndex := 25, attributes := #[] }, { accessFlags := 25, nameIndex := 290, descriptorIndex := 25, attributes := #[] }, { accessFlags := 25, nameIndex := 292, descriptorIndex := 25, attributes := #[] }, { accessFlags := 26, nameIndex := 108, descriptorIndex := 109, attributes := #[] }, { accessFlags := 25, nameIndex := 294, descriptorIndex := 25, attributes := #[] }])
  fields := #[{ name := "U", type := (.object "jdk/internal/misc/Unsafe"), accessFlags := 24, slot := 0, constantValue := 0 }, { name := "BIG_ENDIAN", type := .boolean, accessFlags := 26, slot := 1, constantValue := 0 }, { name := "LOG2_ARRAY_BOOLEAN_INDEX_SCALE", type := .int, accessFlags := 25, slot := 2, constantValue := 0 }, { name := "LOG2_ARRAY_BYTE_INDEX_SCALE", type := .int, accessFlags := 25, slot := 3, constantValue := 0 }, { name := "LOG2_ARRAY_CHAR_INDEX_SCALE", type := .int, accessFlags := 25, slot := 4, constantValue := 0 }, { name := "LOG2_ARRAY_SHORT_INDEX_SCALE", type := .int, accessFlags := 25, slot := 5, constantValue := 0 }, { name := "LOG2_ARRAY_INT_INDEX_SCALE", type := .int, accessFlags := 25, slot := 6, constantValue := 0 }, { name := "LOG2_ARRAY_LONG_INDEX_SCALE", type := .int, accessFlags := 25, slot := 7, constantValue := 0 }, { name := "LOG2_ARRAY_FLOAT_INDEX_SCALE", type := .int, accessFlags := 25, slot := 8, constantValue := 0 }, { name := "LOG2_ARRAY_DOUBLE_INDEX_SCALE", type := .int, accessFlags := 25, slot := 9, constantValue := 0 }, { name := "LOG2_BYTE_BIT_SIZE", type := .int, accessFlags := 26, slot := 10, constantValue := 0 }, { name := "T_BOOLEAN", type := .int, accessFlags := 25, slot := 11, constantValue := 0 }, { name := "T_CHAR", type := .int, accessFlags := 25, slot := 12, constantValue := 0 }, { name := "T_FLOAT", type := .int, accessFlags := 25, slot := 13, constantValue := 0 }, { name := "T_DOUBLE", type := .int, accessFlags := 25, slot := 14, constantValue := 0 }, { name := "T_BYTE", type := .int, accessFlags := 25, slot := 15, constantValue := 0 }, { name := "T_SHORT", type := .int, accessFlags := 25, slot := 16, constantValue := 0 }, { name := "T_INT", type := .int, accessFlags := 25, slot := 17, constantValue := 0 }, { name := "T_LONG", type := .int, accessFlags := 25, slot := 18, constantValue := 0 }, { name := "JLA", type := (.object "jdk/internal/access/JavaLangAccess"), accessFlags := 26, slot := 19, constantValue := 0 }, { name := "SOFT_MAX_ARRAY_LENGTH", type := .int, accessFlags := 25, slot := 20, constantValue := 0 }]
  methods := #[k18m0]
  instanceTypes := #[]
  staticTypes := #[(.object "jdk/internal/misc/Unsafe"), .boolean, .int, .int, .int, .int, .int, .int, .int, .int, .int, .int, .int, .int, .int, .int, .int, .int, .int, (.object "jdk/internal/access/JavaLangAccess"), .int]
  resolved := Array.replicate 378 none
  statics := none }

def pool19 : Array CpInfo := pool [(1, u "java/lang/Cloneable"), (0, .class_ 1), (0, u "java/lang/Object"), (0, .class_ 3)] 3

/-- java/lang/Cloneable -/
def k19 : Class := { plain "java/lang/Cloneable" (some 0) with
  accessFlags := 1537
  interfaces := #[]
  cf := some (fileOf pool19 2 #[] #[] 1537 4 #[] #[])
  fields := #[]
  methods := #[]
  instanceTypes := #[]
  staticTypes := #[]
  resolved := Array.replicate 8 none
  statics := none }

/-- the primitive byte -/
def k20 : Class := { plain "byte" none with kind := .primitive 'B', accessFlags := 0x411 }
/-- [B -/
def k21 : Class := { plain "[B" (some 0) with kind := .array 20 .byte, interfaces := #[19, 2], accessFlags := 1041 }

/-- the primitive char -/
def k22 : Class := { plain "char" none with kind := .primitive 'C', accessFlags := 0x411 }
/-- [C -/
def k23 : Class := { plain "[C" (some 0) with kind := .array 22 .char, interfaces := #[19, 2], accessFlags := 1041 }

/-- the primitive int -/
def k24 : Class := { plain "int" none with kind := .primitive 'I', accessFlags := 0x411 }
/-- [I -/
def k25 : Class := { plain "[I" (some 0) with kind := .array 24 .int, interfaces := #[19, 2], accessFlags := 1041 }

/-- [Ljava/lang/Integer; -/
def k26 : Class := { plain "[Ljava/lang/Integer;" (some 0) with kind := .array 12 (.object "java/lang/Integer"), interfaces := #[19, 2], accessFlags := 1041 }

/-- [Ljava/lang/Long; -/
def k27 : Class := { plain "[Ljava/lang/Long;" (some 0) with kind := .array 14 (.object "java/lang/Long"), interfaces := #[19, 2], accessFlags := 1041 }

def heap : Heap := #[{ cls := 7, slots := #[.long 0, .int 1, .null, .int 0, .null, .int 0, .int 0], vm := .statics 7 },
  { cls := 13, slots := #[.int 0, .int 127, .ref 5, .null, .int 0], vm := .statics 13 },
  { cls := 15, slots := #[.ref 6, .null, .int 0], vm := .statics 15 },
  { cls := 16, slots := #[.int 0, .int 8, .int 0, .int 1], vm := .statics 16 },
  { cls := 17, slots := #[.null, .null, .null], vm := .statics 17 },
  { cls := 26, slots := #[.ref 7, .ref 8, .ref 9, .ref 10, .ref 11, .ref 12, .ref 13, .ref 14, .ref 15, .ref 16, .ref 17, .ref 18, .ref 19, .ref 20, .ref 21, .ref 22, .ref 23, .ref 24, .ref 25, .ref 26, .ref 27, .ref 28, .ref 29, .ref 30, .ref 31, .ref 32, .ref 33, .ref 34, .ref 35, .ref 36, .ref 37, .ref 38, .ref 39, .ref 40, .ref 41, .ref 42, .ref 43, .ref 44, .ref 45, .ref 46, .ref 47, .ref 48, .ref 49, .ref 50, .ref 51, .ref 52, .ref 53, .ref 54, .ref 55, .ref 56, .ref 57, .ref 58, .ref 59, .ref 60, .ref 61, .ref 62, .ref 63, .ref 64, .ref 65, .ref 66, .ref 67, .ref 68, .ref 69, .ref 70, .ref 71, .ref 72, .ref 73, .ref 74, .ref 75, .ref 76, .ref 77, .ref 78, .ref 79, .ref 80, .ref 81, .ref 82, .ref 83, .ref 84, .ref 85, .ref 86, .ref 87, .ref 88, .ref 89, .ref 90, .ref 91, .ref 92, .ref 93, .ref 94, .ref 95, .ref 96, .ref 97, .ref 98, .ref 99, .ref 100, .ref 101, .ref 102, .ref 103, .ref 104, .ref 105, .ref 106, .ref 107, .ref 108, .ref 109, .ref 110, .ref 111, .ref 112, .ref 113, .ref 114, .ref 115, .ref 116, .ref 117, .ref 118, .ref 119, .ref 120, .ref 121, .ref 122, .ref 123, .ref 124, .ref 125, .ref 126, .ref 127, .ref 128, .ref 129, .ref 130, .ref 131, .ref 132, .ref 133, .ref 134, .ref 135, .ref 136, .ref 137, .ref 138, .ref 139, .ref 140, .ref 141, .ref 142, .ref 143, .ref 144, .ref 145, .ref 146, .ref 147, .ref 148, .ref 149, .ref 150, .ref 151, .ref 152, .ref 153, .ref 154, .ref 155, .ref 156, .ref 157, .ref 158, .ref 159, .ref 160, .ref 161, .ref 162, .ref 163, .ref 164, .ref 165, .ref 166, .ref 167, .ref 168, .ref 169, .ref 170, .ref 171, .ref 172, .ref 173, .ref 174, .ref 175, .ref 176, .ref 177, .ref 178, .ref 179, .ref 180, .ref 181, .ref 182, .ref 183, .ref 184, .ref 185, .ref 186, .ref 187, .ref 188, .ref 189, .ref 190, .ref 191, .ref 192, .ref 193, .ref 194, .ref 195, .ref 196, .ref 197, .ref 198, .ref 199, .ref 200, .ref 201, .ref 202, .ref 203, .ref 204, .ref 205, .ref 206, .ref 207, .ref 208, .ref 209, .ref 210, .ref 211, .ref 212, .ref 213, .ref 214, .ref 215, .ref 216, .ref 217, .ref 218, .ref 219, .ref 220, .ref 221, .ref 222, .ref 223, .ref 224, .ref 225, .ref 226, .ref 227, .ref 228, .ref 229, .ref 230, .ref 231, .ref 232, .ref 233, .ref 234, .ref 235, .ref 236, .ref 237, .ref 238, .ref 239, .ref 240, .ref 241, .ref 242, .ref 243, .ref 244, .ref 245, .ref 246, .ref 247, .ref 248, .ref 249, .ref 250, .ref 251, .ref 252, .ref 253, .ref 254, .ref 255, .ref 256, .ref 257, .ref 258, .ref 259, .ref 260, .ref 261, .ref 262], vm := .none },
  { cls := 27, slots := #[.ref 263, .ref 264, .ref 265, .ref 266, .ref 267, .ref 268, .ref 269, .ref 270, .ref 271, .ref 272, .ref 273, .ref 274, .ref 275, .ref 276, .ref 277, .ref 278, .ref 279, .ref 280, .ref 281, .ref 282, .ref 283, .ref 284, .ref 285, .ref 286, .ref 287, .ref 288, .ref 289, .ref 290, .ref 291, .ref 292, .ref 293, .ref 294, .ref 295, .ref 296, .ref 297, .ref 298, .ref 299, .ref 300, .ref 301, .ref 302, .ref 303, .ref 304, .ref 305, .ref 306, .ref 307, .ref 308, .ref 309, .ref 310, .ref 311, .ref 312, .ref 313, .ref 314, .ref 315, .ref 316, .ref 317, .ref 318, .ref 319, .ref 320, .ref 321, .ref 322, .ref 323, .ref 324, .ref 325, .ref 326, .ref 327, .ref 328, .ref 329, .ref 330, .ref 331, .ref 332, .ref 333, .ref 334, .ref 335, .ref 336, .ref 337, .ref 338, .ref 339, .ref 340, .ref 341, .ref 342, .ref 343, .ref 344, .ref 345, .ref 346, .ref 347, .ref 348, .ref 349, .ref 350, .ref 351, .ref 352, .ref 353, .ref 354, .ref 355, .ref 356, .ref 357, .ref 358, .ref 359, .ref 360, .ref 361, .ref 362, .ref 363, .ref 364, .ref 365, .ref 366, .ref 367, .ref 368, .ref 369, .ref 370, .ref 371, .ref 372, .ref 373, .ref 374, .ref 375, .ref 376, .ref 377, .ref 378, .ref 379, .ref 380, .ref 381, .ref 382, .ref 383, .ref 384, .ref 385, .ref 386, .ref 387, .ref 388, .ref 389, .ref 390, .ref 391, .ref 392, .ref 393, .ref 394, .ref 395, .ref 396, .ref 397, .ref 398, .ref 399, .ref 400, .ref 401, .ref 402, .ref 403, .ref 404, .ref 405, .ref 406, .ref 407, .ref 408, .ref 409, .ref 410, .ref 411, .ref 412, .ref 413, .ref 414, .ref 415, .ref 416, .ref 417, .ref 418, .ref 419, .ref 420, .ref 421, .ref 422, .ref 423, .ref 424, .ref 425, .ref 426, .ref 427, .ref 428, .ref 429, .ref 430, .ref 431, .ref 432, .ref 433, .ref 434, .ref 435, .ref 436, .ref 437, .ref 438, .ref 439, .ref 440, .ref 441, .ref 442, .ref 443, .ref 444, .ref 445, .ref 446, .ref 447, .ref 448, .ref 449, .ref 450, .ref 451, .ref 452, .ref 453, .ref 454, .ref 455, .ref 456, .ref 457, .ref 458, .ref 459, .ref 460, .ref 461, .ref 462, .ref 463, .ref 464, .ref 465, .ref 466, .ref 467, .ref 468, .ref 469, .ref 470, .ref 471, .ref 472, .ref 473, .ref 474, .ref 475, .ref 476, .ref 477, .ref 478, .ref 479, .ref 480, .ref 481, .ref 482, .ref 483, .ref 484, .ref 485, .ref 486, .ref 487, .ref 488, .ref 489, .ref 490, .ref 491, .ref 492, .ref 493, .ref 494, .ref 495, .ref 496, .ref 497, .ref 498, .ref 499, .ref 500, .ref 501, .ref 502, .ref 503, .ref 504, .ref 505, .ref 506, .ref 507, .ref 508, .ref 509, .ref 510, .ref 511, .ref 512, .ref 513, .ref 514, .ref 515, .ref 516, .ref 517, .ref 518], vm := .none },
  { cls := 12, slots := #[.int (-128)], vm := .none },
  { cls := 12, slots := #[.int (-127)], vm := .none },
  { cls := 12, slots := #[.int (-126)], vm := .none },
  { cls := 12, slots := #[.int (-125)], vm := .none },
  { cls := 12, slots := #[.int (-124)], vm := .none },
  { cls := 12, slots := #[.int (-123)], vm := .none },
  { cls := 12, slots := #[.int (-122)], vm := .none },
  { cls := 12, slots := #[.int (-121)], vm := .none },
  { cls := 12, slots := #[.int (-120)], vm := .none },
  { cls := 12, slots := #[.int (-119)], vm := .none },
  { cls := 12, slots := #[.int (-118)], vm := .none },
  { cls := 12, slots := #[.int (-117)], vm := .none },
  { cls := 12, slots := #[.int (-116)], vm := .none },
  { cls := 12, slots := #[.int (-115)], vm := .none },
  { cls := 12, slots := #[.int (-114)], vm := .none },
  { cls := 12, slots := #[.int (-113)], vm := .none },
  { cls := 12, slots := #[.int (-112)], vm := .none },
  { cls := 12, slots := #[.int (-111)], vm := .none },
  { cls := 12, slots := #[.int (-110)], vm := .none },
  { cls := 12, slots := #[.int (-109)], vm := .none },
  { cls := 12, slots := #[.int (-108)], vm := .none },
  { cls := 12, slots := #[.int (-107)], vm := .none },
  { cls := 12, slots := #[.int (-106)], vm := .none },
  { cls := 12, slots := #[.int (-105)], vm := .none },
  { cls := 12, slots := #[.int (-104)], vm := .none },
  { cls := 12, slots := #[.int (-103)], vm := .none },
  { cls := 12, slots := #[.int (-102)], vm := .none },
  { cls := 12, slots := #[.int (-101)], vm := .none },
  { cls := 12, slots := #[.int (-100)], vm := .none },
  { cls := 12, slots := #[.int (-99)], vm := .none },
  { cls := 12, slots := #[.int (-98)], vm := .none },
  { cls := 12, slots := #[.int (-97)], vm := .none },
  { cls := 12, slots := #[.int (-96)], vm := .none },
  { cls := 12, slots := #[.int (-95)], vm := .none },
  { cls := 12, slots := #[.int (-94)], vm := .none },
  { cls := 12, slots := #[.int (-93)], vm := .none },
  { cls := 12, slots := #[.int (-92)], vm := .none },
  { cls := 12, slots := #[.int (-91)], vm := .none },
  { cls := 12, slots := #[.int (-90)], vm := .none },
  { cls := 12, slots := #[.int (-89)], vm := .none },
  { cls := 12, slots := #[.int (-88)], vm := .none },
  { cls := 12, slots := #[.int (-87)], vm := .none },
  { cls := 12, slots := #[.int (-86)], vm := .none },
  { cls := 12, slots := #[.int (-85)], vm := .none },
  { cls := 12, slots := #[.int (-84)], vm := .none },
  { cls := 12, slots := #[.int (-83)], vm := .none },
  { cls := 12, slots := #[.int (-82)], vm := .none },
  { cls := 12, slots := #[.int (-81)], vm := .none },
  { cls := 12, slots := #[.int (-80)], vm := .none },
  { cls := 12, slots := #[.int (-79)], vm := .none },
  { cls := 12, slots := #[.int (-78)], vm := .none },
  { cls := 12, slots := #[.int (-77)], vm := .none },
  { cls := 12, slots := #[.int (-76)], vm := .none },
  { cls := 12, slots := #[.int (-75)], vm := .none },
  { cls := 12, slots := #[.int (-74)], vm := .none },
  { cls := 12, slots := #[.int (-73)], vm := .none },
  { cls := 12, slots := #[.int (-72)], vm := .none },
  { cls := 12, slots := #[.int (-71)], vm := .none },
  { cls := 12, slots := #[.int (-70)], vm := .none },
  { cls := 12, slots := #[.int (-69)], vm := .none },
  { cls := 12, slots := #[.int (-68)], vm := .none },
  { cls := 12, slots := #[.int (-67)], vm := .none },
  { cls := 12, slots := #[.int (-66)], vm := .none },
  { cls := 12, slots := #[.int (-65)], vm := .none },
  { cls := 12, slots := #[.int (-64)], vm := .none },
  { cls := 12, slots := #[.int (-63)], vm := .none },
  { cls := 12, slots := #[.int (-62)], vm := .none },
  { cls := 12, slots := #[.int (-61)], vm := .none },
  { cls := 12, slots := #[.int (-60)], vm := .none },
  { cls := 12, slots := #[.int (-59)], vm := .none },
  { cls := 12, slots := #[.int (-58)], vm := .none },
  { cls := 12, slots := #[.int (-57)], vm := .none },
  { cls := 12, slots := #[.int (-56)], vm := .none },
  { cls := 12, slots := #[.int (-55)], vm := .none },
  { cls := 12, slots := #[.int (-54)], vm := .none },
  { cls := 12, slots := #[.int (-53)], vm := .none },
  { cls := 12, slots := #[.int (-52)], vm := .none },
  { cls := 12, slots := #[.int (-51)], vm := .none },
  { cls := 12, slots := #[.int (-50)], vm := .none },
  { cls := 12, slots := #[.int (-49)], vm := .none },
  { cls := 12, slots := #[.int (-48)], vm := .none },
  { cls := 12, slots := #[.int (-47)], vm := .none },
  { cls := 12, slots := #[.int (-46)], vm := .none },
  { cls := 12, slots := #[.int (-45)], vm := .none },
  { cls := 12, slots := #[.int (-44)], vm := .none },
  { cls := 12, slots := #[.int (-43)], vm := .none },
  { cls := 12, slots := #[.int (-42)], vm := .none },
  { cls := 12, slots := #[.int (-41)], vm := .none },
  { cls := 12, slots := #[.int (-40)], vm := .none },
  { cls := 12, slots := #[.int (-39)], vm := .none },
  { cls := 12, slots := #[.int (-38)], vm := .none },
  { cls := 12, slots := #[.int (-37)], vm := .none },
  { cls := 12, slots := #[.int (-36)], vm := .none },
  { cls := 12, slots := #[.int (-35)], vm := .none },
  { cls := 12, slots := #[.int (-34)], vm := .none },
  { cls := 12, slots := #[.int (-33)], vm := .none },
  { cls := 12, slots := #[.int (-32)], vm := .none },
  { cls := 12, slots := #[.int (-31)], vm := .none },
  { cls := 12, slots := #[.int (-30)], vm := .none },
  { cls := 12, slots := #[.int (-29)], vm := .none },
  { cls := 12, slots := #[.int (-28)], vm := .none },
  { cls := 12, slots := #[.int (-27)], vm := .none },
  { cls := 12, slots := #[.int (-26)], vm := .none },
  { cls := 12, slots := #[.int (-25)], vm := .none },
  { cls := 12, slots := #[.int (-24)], vm := .none },
  { cls := 12, slots := #[.int (-23)], vm := .none },
  { cls := 12, slots := #[.int (-22)], vm := .none },
  { cls := 12, slots := #[.int (-21)], vm := .none },
  { cls := 12, slots := #[.int (-20)], vm := .none },
  { cls := 12, slots := #[.int (-19)], vm := .none },
  { cls := 12, slots := #[.int (-18)], vm := .none },
  { cls := 12, slots := #[.int (-17)], vm := .none },
  { cls := 12, slots := #[.int (-16)], vm := .none },
  { cls := 12, slots := #[.int (-15)], vm := .none },
  { cls := 12, slots := #[.int (-14)], vm := .none },
  { cls := 12, slots := #[.int (-13)], vm := .none },
  { cls := 12, slots := #[.int (-12)], vm := .none },
  { cls := 12, slots := #[.int (-11)], vm := .none },
  { cls := 12, slots := #[.int (-10)], vm := .none },
  { cls := 12, slots := #[.int (-9)], vm := .none },
  { cls := 12, slots := #[.int (-8)], vm := .none },
  { cls := 12, slots := #[.int (-7)], vm := .none },
  { cls := 12, slots := #[.int (-6)], vm := .none },
  { cls := 12, slots := #[.int (-5)], vm := .none },
  { cls := 12, slots := #[.int (-4)], vm := .none },
  { cls := 12, slots := #[.int (-3)], vm := .none },
  { cls := 12, slots := #[.int (-2)], vm := .none },
  { cls := 12, slots := #[.int (-1)], vm := .none },
  { cls := 12, slots := #[.int 0], vm := .none },
  { cls := 12, slots := #[.int 1], vm := .none },
  { cls := 12, slots := #[.int 2], vm := .none },
  { cls := 12, slots := #[.int 3], vm := .none },
  { cls := 12, slots := #[.int 4], vm := .none },
  { cls := 12, slots := #[.int 5], vm := .none },
  { cls := 12, slots := #[.int 6], vm := .none },
  { cls := 12, slots := #[.int 7], vm := .none },
  { cls := 12, slots := #[.int 8], vm := .none },
  { cls := 12, slots := #[.int 9], vm := .none },
  { cls := 12, slots := #[.int 10], vm := .none },
  { cls := 12, slots := #[.int 11], vm := .none },
  { cls := 12, slots := #[.int 12], vm := .none },
  { cls := 12, slots := #[.int 13], vm := .none },
  { cls := 12, slots := #[.int 14], vm := .none },
  { cls := 12, slots := #[.int 15], vm := .none },
  { cls := 12, slots := #[.int 16], vm := .none },
  { cls := 12, slots := #[.int 17], vm := .none },
  { cls := 12, slots := #[.int 18], vm := .none },
  { cls := 12, slots := #[.int 19], vm := .none },
  { cls := 12, slots := #[.int 20], vm := .none },
  { cls := 12, slots := #[.int 21], vm := .none },
  { cls := 12, slots := #[.int 22], vm := .none },
  { cls := 12, slots := #[.int 23], vm := .none },
  { cls := 12, slots := #[.int 24], vm := .none },
  { cls := 12, slots := #[.int 25], vm := .none },
  { cls := 12, slots := #[.int 26], vm := .none },
  { cls := 12, slots := #[.int 27], vm := .none },
  { cls := 12, slots := #[.int 28], vm := .none },
  { cls := 12, slots := #[.int 29], vm := .none },
  { cls := 12, slots := #[.int 30], vm := .none },
  { cls := 12, slots := #[.int 31], vm := .none },
  { cls := 12, slots := #[.int 32], vm := .none },
  { cls := 12, slots := #[.int 33], vm := .none },
  { cls := 12, slots := #[.int 34], vm := .none },
  { cls := 12, slots := #[.int 35], vm := .none },
  { cls := 12, slots := #[.int 36], vm := .none },
  { cls := 12, slots := #[.int 37], vm := .none },
  { cls := 12, slots := #[.int 38], vm := .none },
  { cls := 12, slots := #[.int 39], vm := .none },
  { cls := 12, slots := #[.int 40], vm := .none },
  { cls := 12, slots := #[.int 41], vm := .none },
  { cls := 12, slots := #[.int 42], vm := .none },
  { cls := 12, slots := #[.int 43], vm := .none },
  { cls := 12, slots := #[.int 44], vm := .none },
  { cls := 12, slots := #[.int 45], vm := .none },
  { cls := 12, slots := #[.int 46], vm := .none },
  { cls := 12, slots := #[.int 47], vm := .none },
  { cls := 12, slots := #[.int 48], vm := .none },
  { cls := 12, slots := #[.int 49], vm := .none },
  { cls := 12, slots := #[.int 50], vm := .none },
  { cls := 12, slots := #[.int 51], vm := .none },
  { cls := 12, slots := #[.int 52], vm := .none },
  { cls := 12, slots := #[.int 53], vm := .none },
  { cls := 12, slots := #[.int 54], vm := .none },
  { cls := 12, slots := #[.int 55], vm := .none },
  { cls := 12, slots := #[.int 56], vm := .none },
  { cls := 12, slots := #[.int 57], vm := .none },
  { cls := 12, slots := #[.int 58], vm := .none },
  { cls := 12, slots := #[.int 59], vm := .none },
  { cls := 12, slots := #[.int 60], vm := .none },
  { cls := 12, slots := #[.int 61], vm := .none },
  { cls := 12, slots := #[.int 62], vm := .none },
  { cls := 12, slots := #[.int 63], vm := .none },
  { cls := 12, slots := #[.int 64], vm := .none },
  { cls := 12, slots := #[.int 65], vm := .none },
  { cls := 12, slots := #[.int 66], vm := .none },
  { cls := 12, slots := #[.int 67], vm := .none },
  { cls := 12, slots := #[.int 68], vm := .none },
  { cls := 12, slots := #[.int 69], vm := .none },
  { cls := 12, slots := #[.int 70], vm := .none },
  { cls := 12, slots := #[.int 71], vm := .none },
  { cls := 12, slots := #[.int 72], vm := .none },
  { cls := 12, slots := #[.int 73], vm := .none },
  { cls := 12, slots := #[.int 74], vm := .none },
  { cls := 12, slots := #[.int 75], vm := .none },
  { cls := 12, slots := #[.int 76], vm := .none },
  { cls := 12, slots := #[.int 77], vm := .none },
  { cls := 12, slots := #[.int 78], vm := .none },
  { cls := 12, slots := #[.int 79], vm := .none },
  { cls := 12, slots := #[.int 80], vm := .none },
  { cls := 12, slots := #[.int 81], vm := .none },
  { cls := 12, slots := #[.int 82], vm := .none },
  { cls := 12, slots := #[.int 83], vm := .none },
  { cls := 12, slots := #[.int 84], vm := .none },
  { cls := 12, slots := #[.int 85], vm := .none },
  { cls := 12, slots := #[.int 86], vm := .none },
  { cls := 12, slots := #[.int 87], vm := .none },
  { cls := 12, slots := #[.int 88], vm := .none },
  { cls := 12, slots := #[.int 89], vm := .none },
  { cls := 12, slots := #[.int 90], vm := .none },
  { cls := 12, slots := #[.int 91], vm := .none },
  { cls := 12, slots := #[.int 92], vm := .none },
  { cls := 12, slots := #[.int 93], vm := .none },
  { cls := 12, slots := #[.int 94], vm := .none },
  { cls := 12, slots := #[.int 95], vm := .none },
  { cls := 12, slots := #[.int 96], vm := .none },
  { cls := 12, slots := #[.int 97], vm := .none },
  { cls := 12, slots := #[.int 98], vm := .none },
  { cls := 12, slots := #[.int 99], vm := .none },
  { cls := 12, slots := #[.int 100], vm := .none },
  { cls := 12, slots := #[.int 101], vm := .none },
  { cls := 12, slots := #[.int 102], vm := .none },
  { cls := 12, slots := #[.int 103], vm := .none },
  { cls := 12, slots := #[.int 104], vm := .none },
  { cls := 12, slots := #[.int 105], vm := .none },
  { cls := 12, slots := #[.int 106], vm := .none },
  { cls := 12, slots := #[.int 107], vm := .none },
  { cls := 12, slots := #[.int 108], vm := .none },
  { cls := 12, slots := #[.int 109], vm := .none },
  { cls := 12, slots := #[.int 110], vm := .none },
  { cls := 12, slots := #[.int 111], vm := .none },
  { cls := 12, slots := #[.int 112], vm := .none },
  { cls := 12, slots := #[.int 113], vm := .none },
  { cls := 12, slots := #[.int 114], vm := .none },
  { cls := 12, slots := #[.int 115], vm := .none },
  { cls := 12, slots := #[.int 116], vm := .none },
  { cls := 12, slots := #[.int 117], vm := .none },
  { cls := 12, slots := #[.int 118], vm := .none },
  { cls := 12, slots := #[.int 119], vm := .none },
  { cls := 12, slots := #[.int 120], vm := .none },
  { cls := 12, slots := #[.int 121], vm := .none },
  { cls := 12, slots := #[.int 122], vm := .none },
  { cls := 12, slots := #[.int 123], vm := .none },
  { cls := 12, slots := #[.int 124], vm := .none },
  { cls := 12, slots := #[.int 125], vm := .none },
  { cls := 12, slots := #[.int 126], vm := .none },
  { cls := 12, slots := #[.int 127], vm := .none },
  { cls := 14, slots := #[.long (-128)], vm := .none },
  { cls := 14, slots := #[.long (-127)], vm := .none },
  { cls := 14, slots := #[.long (-126)], vm := .none },
  { cls := 14, slots := #[.long (-125)], vm := .none },
  { cls := 14, slots := #[.long (-124)], vm := .none },
  { cls := 14, slots := #[.long (-123)], vm := .none },
  { cls := 14, slots := #[.long (-122)], vm := .none },
  { cls := 14, slots := #[.long (-121)], vm := .none },
  { cls := 14, slots := #[.long (-120)], vm := .none },
  { cls := 14, slots := #[.long (-119)], vm := .none },
  { cls := 14, slots := #[.long (-118)], vm := .none },
  { cls := 14, slots := #[.long (-117)], vm := .none },
  { cls := 14, slots := #[.long (-116)], vm := .none },
  { cls := 14, slots := #[.long (-115)], vm := .none },
  { cls := 14, slots := #[.long (-114)], vm := .none },
  { cls := 14, slots := #[.long (-113)], vm := .none },
  { cls := 14, slots := #[.long (-112)], vm := .none },
  { cls := 14, slots := #[.long (-111)], vm := .none },
  { cls := 14, slots := #[.long (-110)], vm := .none },
  { cls := 14, slots := #[.long (-109)], vm := .none },
  { cls := 14, slots := #[.long (-108)], vm := .none },
  { cls := 14, slots := #[.long (-107)], vm := .none },
  { cls := 14, slots := #[.long (-106)], vm := .none },
  { cls := 14, slots := #[.long (-105)], vm := .none },
  { cls := 14, slots := #[.long (-104)], vm := .none },
  { cls := 14, slots := #[.long (-103)], vm := .none },
  { cls := 14, slots := #[.long (-102)], vm := .none },
  { cls := 14, slots := #[.long (-101)], vm := .none },
  { cls := 14, slots := #[.long (-100)], vm := .none },
  { cls := 14, slots := #[.long (-99)], vm := .none },
  { cls := 14, slots := #[.long (-98)], vm := .none },
  { cls := 14, slots := #[.long (-97)], vm := .none },
  { cls := 14, slots := #[.long (-96)], vm := .none },
  { cls := 14, slots := #[.long (-95)], vm := .none },
  { cls := 14, slots := #[.long (-94)], vm := .none },
  { cls := 14, slots := #[.long (-93)], vm := .none },
  { cls := 14, slots := #[.long (-92)], vm := .none },
  { cls := 14, slots := #[.long (-91)], vm := .none },
  { cls := 14, slots := #[.long (-90)], vm := .none },
  { cls := 14, slots := #[.long (-89)], vm := .none },
  { cls := 14, slots := #[.long (-88)], vm := .none },
  { cls := 14, slots := #[.long (-87)], vm := .none },
  { cls := 14, slots := #[.long (-86)], vm := .none },
  { cls := 14, slots := #[.long (-85)], vm := .none },
  { cls := 14, slots := #[.long (-84)], vm := .none },
  { cls := 14, slots := #[.long (-83)], vm := .none },
  { cls := 14, slots := #[.long (-82)], vm := .none },
  { cls := 14, slots := #[.long (-81)], vm := .none },
  { cls := 14, slots := #[.long (-80)], vm := .none },
  { cls := 14, slots := #[.long (-79)], vm := .none },
  { cls := 14, slots := #[.long (-78)], vm := .none },
  { cls := 14, slots := #[.long (-77)], vm := .none },
  { cls := 14, slots := #[.long (-76)], vm := .none },
  { cls := 14, slots := #[.long (-75)], vm := .none },
  { cls := 14, slots := #[.long (-74)], vm := .none },
  { cls := 14, slots := #[.long (-73)], vm := .none },
  { cls := 14, slots := #[.long (-72)], vm := .none },
  { cls := 14, slots := #[.long (-71)], vm := .none },
  { cls := 14, slots := #[.long (-70)], vm := .none },
  { cls := 14, slots := #[.long (-69)], vm := .none },
  { cls := 14, slots := #[.long (-68)], vm := .none },
  { cls := 14, slots := #[.long (-67)], vm := .none },
  { cls := 14, slots := #[.long (-66)], vm := .none },
  { cls := 14, slots := #[.long (-65)], vm := .none },
  { cls := 14, slots := #[.long (-64)], vm := .none },
  { cls := 14, slots := #[.long (-63)], vm := .none },
  { cls := 14, slots := #[.long (-62)], vm := .none },
  { cls := 14, slots := #[.long (-61)], vm := .none },
  { cls := 14, slots := #[.long (-60)], vm := .none },
  { cls := 14, slots := #[.long (-59)], vm := .none },
  { cls := 14, slots := #[.long (-58)], vm := .none },
  { cls := 14, slots := #[.long (-57)], vm := .none },
  { cls := 14, slots := #[.long (-56)], vm := .none },
  { cls := 14, slots := #[.long (-55)], vm := .none },
  { cls := 14, slots := #[.long (-54)], vm := .none },
  { cls := 14, slots := #[.long (-53)], vm := .none },
  { cls := 14, slots := #[.long (-52)], vm := .none },
  { cls := 14, slots := #[.long (-51)], vm := .none },
  { cls := 14, slots := #[.long (-50)], vm := .none },
  { cls := 14, slots := #[.long (-49)], vm := .none },
  { cls := 14, slots := #[.long (-48)], vm := .none },
  { cls := 14, slots := #[.long (-47)], vm := .none },
  { cls := 14, slots := #[.long (-46)], vm := .none },
  { cls := 14, slots := #[.long (-45)], vm := .none },
  { cls := 14, slots := #[.long (-44)], vm := .none },
  { cls := 14, slots := #[.long (-43)], vm := .none },
  { cls := 14, slots := #[.long (-42)], vm := .none },
  { cls := 14, slots := #[.long (-41)], vm := .none },
  { cls := 14, slots := #[.long (-40)], vm := .none },
  { cls := 14, slots := #[.long (-39)], vm := .none },
  { cls := 14, slots := #[.long (-38)], vm := .none },
  { cls := 14, slots := #[.long (-37)], vm := .none },
  { cls := 14, slots := #[.long (-36)], vm := .none },
  { cls := 14, slots := #[.long (-35)], vm := .none },
  { cls := 14, slots := #[.long (-34)], vm := .none },
  { cls := 14, slots := #[.long (-33)], vm := .none },
  { cls := 14, slots := #[.long (-32)], vm := .none },
  { cls := 14, slots := #[.long (-31)], vm := .none },
  { cls := 14, slots := #[.long (-30)], vm := .none },
  { cls := 14, slots := #[.long (-29)], vm := .none },
  { cls := 14, slots := #[.long (-28)], vm := .none },
  { cls := 14, slots := #[.long (-27)], vm := .none },
  { cls := 14, slots := #[.long (-26)], vm := .none },
  { cls := 14, slots := #[.long (-25)], vm := .none },
  { cls := 14, slots := #[.long (-24)], vm := .none },
  { cls := 14, slots := #[.long (-23)], vm := .none },
  { cls := 14, slots := #[.long (-22)], vm := .none },
  { cls := 14, slots := #[.long (-21)], vm := .none },
  { cls := 14, slots := #[.long (-20)], vm := .none },
  { cls := 14, slots := #[.long (-19)], vm := .none },
  { cls := 14, slots := #[.long (-18)], vm := .none },
  { cls := 14, slots := #[.long (-17)], vm := .none },
  { cls := 14, slots := #[.long (-16)], vm := .none },
  { cls := 14, slots := #[.long (-15)], vm := .none },
  { cls := 14, slots := #[.long (-14)], vm := .none },
  { cls := 14, slots := #[.long (-13)], vm := .none },
  { cls := 14, slots := #[.long (-12)], vm := .none },
  { cls := 14, slots := #[.long (-11)], vm := .none },
  { cls := 14, slots := #[.long (-10)], vm := .none },
  { cls := 14, slots := #[.long (-9)], vm := .none },
  { cls := 14, slots := #[.long (-8)], vm := .none },
  { cls := 14, slots := #[.long (-7)], vm := .none },
  { cls := 14, slots := #[.long (-6)], vm := .none },
  { cls := 14, slots := #[.long (-5)], vm := .none },
  { cls := 14, slots := #[.long (-4)], vm := .none },
  { cls := 14, slots := #[.long (-3)], vm := .none },
  { cls := 14, slots := #[.long (-2)], vm := .none },
  { cls := 14, slots := #[.long (-1)], vm := .none },
  { cls := 14, slots := #[.long 0], vm := .none },
  { cls := 14, slots := #[.long 1], vm := .none },
  { cls := 14, slots := #[.long 2], vm := .none },
  { cls := 14, slots := #[.long 3], vm := .none },
  { cls := 14, slots := #[.long 4], vm := .none },
  { cls := 14, slots := #[.long 5], vm := .none },
  { cls := 14, slots := #[.long 6], vm := .none },
  { cls := 14, slots := #[.long 7], vm := .none },
  { cls := 14, slots := #[.long 8], vm := .none },
  { cls := 14, slots := #[.long 9], vm := .none },
  { cls := 14, slots := #[.long 10], vm := .none },
  { cls := 14, slots := #[.long 11], vm := .none },
  { cls := 14, slots := #[.long 12], vm := .none },
  { cls := 14, slots := #[.long 13], vm := .none },
  { cls := 14, slots := #[.long 14], vm := .none },
  { cls := 14, slots := #[.long 15], vm := .none },
  { cls := 14, slots := #[.long 16], vm := .none },
  { cls := 14, slots := #[.long 17], vm := .none },
  { cls := 14, slots := #[.long 18], vm := .none },
  { cls := 14, slots := #[.long 19], vm := .none },
  { cls := 14, slots := #[.long 20], vm := .none },
  { cls := 14, slots := #[.long 21], vm := .none },
  { cls := 14, slots := #[.long 22], vm := .none },
  { cls := 14, slots := #[.long 23], vm := .none },
  { cls := 14, slots := #[.long 24], vm := .none },
  { cls := 14, slots := #[.long 25], vm := .none },
  { cls := 14, slots := #[.long 26], vm := .none },
  { cls := 14, slots := #[.long 27], vm := .none },
  { cls := 14, slots := #[.long 28], vm := .none },
  { cls := 14, slots := #[.long 29], vm := .none },
  { cls := 14, slots := #[.long 30], vm := .none },
  { cls := 14, slots := #[.long 31], vm := .none },
  { cls := 14, slots := #[.long 32], vm := .none },
  { cls := 14, slots := #[.long 33], vm := .none },
  { cls := 14, slots := #[.long 34], vm := .none },
  { cls := 14, slots := #[.long 35], vm := .none },
  { cls := 14, slots := #[.long 36], vm := .none },
  { cls := 14, slots := #[.long 37], vm := .none },
  { cls := 14, slots := #[.long 38], vm := .none },
  { cls := 14, slots := #[.long 39], vm := .none },
  { cls := 14, slots := #[.long 40], vm := .none },
  { cls := 14, slots := #[.long 41], vm := .none },
  { cls := 14, slots := #[.long 42], vm := .none },
  { cls := 14, slots := #[.long 43], vm := .none },
  { cls := 14, slots := #[.long 44], vm := .none },
  { cls := 14, slots := #[.long 45], vm := .none },
  { cls := 14, slots := #[.long 46], vm := .none },
  { cls := 14, slots := #[.long 47], vm := .none },
  { cls := 14, slots := #[.long 48], vm := .none },
  { cls := 14, slots := #[.long 49], vm := .none },
  { cls := 14, slots := #[.long 50], vm := .none },
  { cls := 14, slots := #[.long 51], vm := .none },
  { cls := 14, slots := #[.long 52], vm := .none },
  { cls := 14, slots := #[.long 53], vm := .none },
  { cls := 14, slots := #[.long 54], vm := .none },
  { cls := 14, slots := #[.long 55], vm := .none },
  { cls := 14, slots := #[.long 56], vm := .none },
  { cls := 14, slots := #[.long 57], vm := .none },
  { cls := 14, slots := #[.long 58], vm := .none },
  { cls := 14, slots := #[.long 59], vm := .none },
  { cls := 14, slots := #[.long 60], vm := .none },
  { cls := 14, slots := #[.long 61], vm := .none },
  { cls := 14, slots := #[.long 62], vm := .none },
  { cls := 14, slots := #[.long 63], vm := .none },
  { cls := 14, slots := #[.long 64], vm := .none },
  { cls := 14, slots := #[.long 65], vm := .none },
  { cls := 14, slots := #[.long 66], vm := .none },
  { cls := 14, slots := #[.long 67], vm := .none },
  { cls := 14, slots := #[.long 68], vm := .none },
  { cls := 14, slots := #[.long 69], vm := .none },
  { cls := 14, slots := #[.long 70], vm := .none },
  { cls := 14, slots := #[.long 71], vm := .none },
  { cls := 14, slots := #[.long 72], vm := .none },
  { cls := 14, slots := #[.long 73], vm := .none },
  { cls := 14, slots := #[.long 74], vm := .none },
  { cls := 14, slots := #[.long 75], vm := .none },
  { cls := 14, slots := #[.long 76], vm := .none },
  { cls := 14, slots := #[.long 77], vm := .none },
  { cls := 14, slots := #[.long 78], vm := .none },
  { cls := 14, slots := #[.long 79], vm := .none },
  { cls := 14, slots := #[.long 80], vm := .none },
  { cls := 14, slots := #[.long 81], vm := .none },
  { cls := 14, slots := #[.long 82], vm := .none },
  { cls := 14, slots := #[.long 83], vm := .none },
  { cls := 14, slots := #[.long 84], vm := .none },
  { cls := 14, slots := #[.long 85], vm := .none },
  { cls := 14, slots := #[.long 86], vm := .none },
  { cls := 14, slots := #[.long 87], vm := .none },
  { cls := 14, slots := #[.long 88], vm := .none },
  { cls := 14, slots := #[.long 89], vm := .none },
  { cls := 14, slots := #[.long 90], vm := .none },
  { cls := 14, slots := #[.long 91], vm := .none },
  { cls := 14, slots := #[.long 92], vm := .none },
  { cls := 14, slots := #[.long 93], vm := .none },
  { cls := 14, slots := #[.long 94], vm := .none },
  { cls := 14, slots := #[.long 95], vm := .none },
  { cls := 14, slots := #[.long 96], vm := .none },
  { cls := 14, slots := #[.long 97], vm := .none },
  { cls := 14, slots := #[.long 98], vm := .none },
  { cls := 14, slots := #[.long 99], vm := .none },
  { cls := 14, slots := #[.long 100], vm := .none },
  { cls := 14, slots := #[.long 101], vm := .none },
  { cls := 14, slots := #[.long 102], vm := .none },
  { cls := 14, slots := #[.long 103], vm := .none },
  { cls := 14, slots := #[.long 104], vm := .none },
  { cls := 14, slots := #[.long 105], vm := .none },
  { cls := 14, slots := #[.long 106], vm := .none },
  { cls := 14, slots := #[.long 107], vm := .none },
  { cls := 14, slots := #[.long 108], vm := .none },
  { cls := 14, slots := #[.long 109], vm := .none },
  { cls := 14, slots := #[.long 110], vm := .none },
  { cls := 14, slots := #[.long 111], vm := .none },
  { cls := 14, slots := #[.long 112], vm := .none },
  { cls := 14, slots := #[.long 113], vm := .none },
  { cls := 14, slots := #[.long 114], vm := .none },
  { cls := 14, slots := #[.long 115], vm := .none },
  { cls := 14, slots := #[.long 116], vm := .none },
  { cls := 14, slots := #[.long 117], vm := .none },
  { cls := 14, slots := #[.long 118], vm := .none },
  { cls := 14, slots := #[.long 119], vm := .none },
  { cls := 14, slots := #[.long 120], vm := .none },
  { cls := 14, slots := #[.long 121], vm := .none },
  { cls := 14, slots := #[.long 122], vm := .none },
  { cls := 14, slots := #[.long 123], vm := .none },
  { cls := 14, slots := #[.long 124], vm := .none },
  { cls := 14, slots := #[.long 125], vm := .none },
  { cls := 14, slots := #[.long 126], vm := .none },
  { cls := 14, slots := #[.long 127], vm := .none }]
def classes : Array Class := #[k0, k1, k2, k3, k4, k5, k6, k7, k8, k9, k10, k11, k12, k13, k14, k15, k16, k17, k18, k19, k20, k21, k22, k23, k24, k25, k26, k27]
def interned : List (Array UInt16 × Addr) := []
def slotsUsed : Nat := 1046
def theMethod : MethodId := ⟨1, 3⟩
def args0 : Array Value := #[.int 5, .int 5, .int 5, .int 5, .long 5]
def aboutOver (below : List Frame) : State where
  vm := { classes := classes, interned := interned.toArray }
  heap := heap
  slotsUsed := slotsUsed
  threads := #[{ frames := .invoking theMethod args0 :: below }]
def below0 : List Frame := [.native { method := ⟨0, 0⟩, args := #[] }]
def about1 : State := aboutOver below0
def p0 : Program := .bare "" "" ""
def e0 : Env := launch0.env 0 0 0
theorem w_frames : about1.frames = Frame.invoking theMethod args0 :: below0 := rfl
set_option maxRecDepth 65536 in
theorem w_args : argsFit about1.vm theMethod args0 = true := by decide +kernel
set_option maxRecDepth 65536 in
theorem w_heap : heapFits about1 = true := by decide +kernel
set_option maxRecDepth 65536 in
theorem w_runnable : about1.curStatus? = some .runnable := by decide +kernel
set_option maxRecDepth 65536 in
theorem w_alone : about1.alone = true := by decide +kernel
set_option maxRecDepth 65536 in
theorem w_named : about1.methodNamed? x = some theMethod := by decide +kernel
set_option maxRecDepth 65536 in
theorem w_hears : about1.hears theMethod below0 = true := by decide +kernel
set_option maxRecDepth 65536 in
theorem w_ripe : about1.ripe theMethod args0 below0 = true := by decide +kernel
theorem w_running : about1.status = .running := rfl
set_option maxRecDepth 65536 in
theorem w_room : about1.hasRoom e0.platform room_1 = true :=
  launch0.hasRoom_least _ room_1 (by decide +kernel) (by decide +kernel) (by decide +kernel) (by decide +kernel) (by decide +kernel) (by decide +kernel)
theorem allAtoms_all (ts : List Jvm.Cond) (a : Array Jvm.Value) (st : Jvm.State) : (allAtoms ts).before a st = ts.all (fun c => c.before a st) := by
  induction ts with
  | nil => rfl
  | cons c t ih =>
    show (Jvm.Cond.and c (allAtoms t)).before a st = _
    rw [Jvm.Cond.before_and, ih, List.all_cons]
def words1 : List Jvm.Cond := Jvm.Cond.code x code maxLocals ret :: tables_1
/-- a 'code' word, met by the world's own term for the bytes: nothing is compared byte by byte -/
theorem code_word {y : MethodName} {bytes : ByteArray} {mx : Nat} {rt : Option FieldType} {a : Array Value} {s : State} {m : MethodId} {meth : Method} {c : Code} (h1 : s.methodNamed? y = some m) (h2 : s.vm.method? m = some meth) (h3 : meth.code = some c) (h4 : c.code = bytes)
    (h5 : (c.maxLocals == mx && c.exceptionTable.isEmpty && decide (c.maxStack ≤ mostOperands) && decide (meth.sig.returnType = rt) && !meth.locks && decide (parseMethodDescriptor y.desc = some meth.sig)) = true) : (Jvm.Cond.code y bytes mx rt).before a s = true := by
  simp only [Bool.and_eq_true, beq_iff_eq, Bool.not_eq_true', decide_eq_true_eq] at h5
  obtain ⟨⟨⟨⟨⟨g1, g2⟩, g3⟩, g4⟩, g5⟩, g6⟩ := h5
  simp [Cond.before, Cond.holds, Cond.value, h1, h2, h3, h4, g1, g2, g3, g4, g5, g6]
def isCode : Jvm.Cond → Bool
  | .code _ _ _ _ => true
  | _ => false
theorem all_split {L : List Jvm.Cond} {P : Jvm.Cond → Bool} (h1 : L.all (fun c => isCode c || P c) = true) (h2 : ∀ c ∈ L.filter isCode, P c = true) : L.all P = true := by
  refine List.all_eq_true.mpr fun c hc => ?_
  have h := List.all_eq_true.mp h1 c hc
  rcases Bool.eq_false_or_eq_true (isCode c) with hi | hi
  · exact h2 c (List.mem_filter.mpr ⟨hc, hi⟩)
  · simpa [hi] using h
set_option maxRecDepth 65536 in
theorem w_c0 : (Jvm.Cond.code x code maxLocals ret).before args0 about1 = true := code_word (m := ⟨1, 3⟩) (meth := k1m3) (c := k1c3) (by decide +kernel) rfl rfl rfl (by decide +kernel)
set_option maxRecDepth 65536 in
theorem w_c1 : (Jvm.Cond.code ({ cls := "com/example/gjallar/gjallar/messages/CoercionsIsDecimalTextPinLaw", name := "pick", desc := "(I)C" } : Jvm.MethodName) method_2_code (2 : Nat) (Option.some Jvm.ClassFile.FieldType.char)).before args0 about1 = true := code_word (m := ⟨1, 1⟩) (meth := k1m1) (c := k1c1) (by decide +kernel) rfl rfl rfl (by decide +kernel)
set_option maxRecDepth 65536 in
theorem w_c2 : (Jvm.Cond.code ({ cls := "java/lang/String", name := "<init>", desc := "([C)V" } : Jvm.MethodName) jdk_42_method_3_code (2 : Nat) (Option.none : Option Jvm.ClassFile.FieldType)).before args0 about1 = true := code_word (m := ⟨7, 1⟩) (meth := k7m1) (c := k7c1) (by decide +kernel) rfl rfl rfl (by decide +kernel)
set_option maxRecDepth 65536 in
theorem w_c3 : (Jvm.Cond.code ({ cls := "java/lang/String", name := "<init>", desc := "([CIILjava/lang/Void;)V" } : Jvm.MethodName) jdk_42_method_149_code (6 : Nat) (Option.none : Option Jvm.ClassFile.FieldType)).before args0 about1 = true := code_word (m := ⟨7, 6⟩) (meth := k7m6) (c := k7c6) (by decide +kernel) rfl rfl rfl (by decide +kernel)
set_option maxRecDepth 65536 in
theorem w_c4 : (Jvm.Cond.code ({ cls := "java/lang/Object", name := "<init>", desc := "()V" } : Jvm.MethodName) object_method_1_code (1 : Nat) (Option.none : Option Jvm.ClassFile.FieldType)).before args0 about1 = true := code_word (m := ⟨0, 0⟩) (meth := k0m0) (c := k0c0) (by decide +kernel) rfl rfl rfl (by decide +kernel)
set_option maxRecDepth 65536 in
theorem w_c5 : (Jvm.Cond.code ({ cls := "com/example/gjallar/gjallar/messages/Coercions", name := "isDecimalText", desc := "(Ljava/lang/Object;)Z" } : Jvm.MethodName) prog_11_method_22_code (2 : Nat) (Option.some Jvm.ClassFile.FieldType.boolean)).before args0 about1 = true := code_word (m := ⟨8, 1⟩) (meth := k8m1) (c := k8c1) (by decide +kernel) rfl rfl rfl (by decide +kernel)
set_option maxRecDepth 65536 in
theorem w_c6 : (Jvm.Cond.code ({ cls := "java/lang/String", name := "indexOf", desc := "(I)I" } : Jvm.MethodName) jdk_42_method_79_code (2 : Nat) (Option.some Jvm.ClassFile.FieldType.int)).before args0 about1 = true := code_word (m := ⟨7, 3⟩) (meth := k7m3) (c := k7c3) (by decide +kernel) rfl rfl rfl (by decide +kernel)
set_option maxRecDepth 65536 in
theorem w_c7 : (Jvm.Cond.code ({ cls := "java/lang/String", name := "indexOf", desc := "(II)I" } : Jvm.MethodName) jdk_42_method_80_code (3 : Nat) (Option.some Jvm.ClassFile.FieldType.int)).before args0 about1 = true := code_word (m := ⟨7, 4⟩) (meth := k7m4) (c := k7c4) (by decide +kernel) rfl rfl rfl (by decide +kernel)
set_option maxRecDepth 65536 in
theorem w_c8 : (Jvm.Cond.code ({ cls := "java/lang/String", name := "isLatin1", desc := "()Z" } : Jvm.MethodName) jdk_42_method_154_code (1 : Nat) (Option.some Jvm.ClassFile.FieldType.boolean)).before args0 about1 = true := code_word (m := ⟨7, 9⟩) (meth := k7m9) (c := k7c9) (by decide +kernel) rfl rfl rfl (by decide +kernel)
set_option maxRecDepth 65536 in
theorem w_c9 : (Jvm.Cond.code ({ cls := "java/lang/String", name := "length", desc := "()I" } : Jvm.MethodName) jdk_42_method_54_code (1 : Nat) (Option.some Jvm.ClassFile.FieldType.int)).before args0 about1 = true := code_word (m := ⟨7, 2⟩) (meth := k7m2) (c := k7c2) (by decide +kernel) rfl rfl rfl (by decide +kernel)
set_option maxRecDepth 65536 in
theorem w_c10 : (Jvm.Cond.code ({ cls := "java/lang/String", name := "coder", desc := "()B" } : Jvm.MethodName) jdk_42_method_152_code (1 : Nat) (Option.some Jvm.ClassFile.FieldType.byte)).before args0 about1 = true := code_word (m := ⟨7, 8⟩) (meth := k7m8) (c := k7c8) (by decide +kernel) rfl rfl rfl (by decide +kernel)
set_option maxRecDepth 65536 in
theorem w_c11 : (Jvm.Cond.code ({ cls := "java/lang/StringLatin1", name := "indexOf", desc := "([BIII)I" } : Jvm.MethodName) jdk_43_method_22_code (4 : Nat) (Option.some Jvm.ClassFile.FieldType.int)).before args0 about1 = true := code_word (m := ⟨9, 3⟩) (meth := k9m3) (c := k9c3) (by decide +kernel) rfl rfl rfl (by decide +kernel)
set_option maxRecDepth 65536 in
theorem w_c12 : (Jvm.Cond.code ({ cls := "java/lang/StringLatin1", name := "canEncode", desc := "(I)Z" } : Jvm.MethodName) jdk_43_method_4_code (1 : Nat) (Option.some Jvm.ClassFile.FieldType.boolean)).before args0 about1 = true := code_word (m := ⟨9, 2⟩) (meth := k9m2) (c := k9c2) (by decide +kernel) rfl rfl rfl (by decide +kernel)
set_option maxRecDepth 65536 in
theorem w_c13 : (Jvm.Cond.code ({ cls := "java/lang/Math", name := "max", desc := "(II)I" } : Jvm.MethodName) jdk_29_method_65_code (2 : Nat) (Option.some Jvm.ClassFile.FieldType.int)).before args0 about1 = true := code_word (m := ⟨10, 1⟩) (meth := k10m1) (c := k10c1) (by decide +kernel) rfl rfl rfl (by decide +kernel)
set_option maxRecDepth 65536 in
theorem w_c14 : (Jvm.Cond.code ({ cls := "java/lang/Math", name := "min", desc := "(II)I" } : Jvm.MethodName) jdk_29_method_69_code (2 : Nat) (Option.some Jvm.ClassFile.FieldType.int)).before args0 about1 = true := code_word (m := ⟨10, 2⟩) (meth := k10m2) (c := k10c2) (by decide +kernel) rfl rfl rfl (by decide +kernel)
set_option maxRecDepth 65536 in
theorem w_c15 : (Jvm.Cond.code ({ cls := "java/lang/Integer", name := "valueOf", desc := "(I)Ljava/lang/Integer;" } : Jvm.MethodName) jdk_33_method_22_code (1 : Nat) (Option.some (Jvm.ClassFile.FieldType.object "java/lang/Integer"))).before args0 about1 = true := code_word (m := ⟨12, 0⟩) (meth := k12m0) (c := k12c0) (by decide +kernel) rfl rfl rfl (by decide +kernel)
set_option maxRecDepth 65536 in
theorem w_c16 : (Jvm.Cond.code ({ cls := "java/lang/Integer", name := "<init>", desc := "(I)V" } : Jvm.MethodName) jdk_33_method_23_code (2 : Nat) (Option.none : Option Jvm.ClassFile.FieldType)).before args0 about1 = true := code_word (m := ⟨12, 1⟩) (meth := k12m1) (c := k12c1) (by decide +kernel) rfl rfl rfl (by decide +kernel)
set_option maxRecDepth 65536 in
theorem w_c17 : (Jvm.Cond.code ({ cls := "java/lang/Number", name := "<init>", desc := "()V" } : Jvm.MethodName) jdk_18_method_1_code (1 : Nat) (Option.none : Option Jvm.ClassFile.FieldType)).before args0 about1 = true := code_word (m := ⟨11, 0⟩) (meth := k11m0) (c := k11c0) (by decide +kernel) rfl rfl rfl (by decide +kernel)
set_option maxRecDepth 65536 in
theorem w_c18 : (Jvm.Cond.code ({ cls := "java/lang/Long", name := "valueOf", desc := "(J)Ljava/lang/Long;" } : Jvm.MethodName) jdk_35_method_24_code (3 : Nat) (Option.some (Jvm.ClassFile.FieldType.object "java/lang/Long"))).before args0 about1 = true := code_word (m := ⟨14, 0⟩) (meth := k14m0) (c := k14c0) (by decide +kernel) rfl rfl rfl (by decide +kernel)
set_option maxRecDepth 65536 in
theorem w_c19 : (Jvm.Cond.code ({ cls := "java/lang/String", name := "valueOf", desc := "(C)Ljava/lang/String;" } : Jvm.MethodName) jdk_42_method_139_code (1 : Nat) (Option.some (Jvm.ClassFile.FieldType.object "java/lang/String"))).before args0 about1 = true := code_word (m := ⟨7, 5⟩) (meth := k7m5) (c := k7c5) (by decide +kernel) rfl rfl rfl (by decide +kernel)
set_option maxRecDepth 65536 in
theorem w_c20 : (Jvm.Cond.code ({ cls := "java/lang/StringLatin1", name := "canEncode", desc := "(C)Z" } : Jvm.MethodName) jdk_43_method_3_code (1 : Nat) (Option.some Jvm.ClassFile.FieldType.boolean)).before args0 about1 = true := code_word (m := ⟨9, 1⟩) (meth := k9m1) (c := k9c1) (by decide +kernel) rfl rfl rfl (by decide +kernel)
set_option maxRecDepth 65536 in
theorem w_c21 : (Jvm.Cond.code ({ cls := "java/lang/StringLatin1", name := "toBytes", desc := "(C)[B" } : Jvm.MethodName) jdk_43_method_46_code (1 : Nat) (Option.some (Jvm.ClassFile.FieldType.array Jvm.ClassFile.FieldType.byte))).before args0 about1 = true := code_word (m := ⟨9, 5⟩) (meth := k9m5) (c := k9c5) (by decide +kernel) rfl rfl rfl (by decide +kernel)
set_option maxRecDepth 65536 in
theorem w_c22 : (Jvm.Cond.code ({ cls := "java/lang/String", name := "<init>", desc := "([BB)V" } : Jvm.MethodName) jdk_42_method_151_code (3 : Nat) (Option.none : Option Jvm.ClassFile.FieldType)).before args0 about1 = true := code_word (m := ⟨7, 7⟩) (meth := k7m7) (c := k7c7) (by decide +kernel) rfl rfl rfl (by decide +kernel)
set_option maxRecDepth 65536 in
theorem w_c23 : (Jvm.Cond.code ({ cls := "com/example/gjallar/gjallar/messages/CoercionsIsDecimalTextPinLaw", name := "mark", desc := "(C)Z" } : Jvm.MethodName) method_3_code (1 : Nat) (Option.some Jvm.ClassFile.FieldType.boolean)).before args0 about1 = true := code_word (m := ⟨1, 2⟩) (meth := k1m2) (c := k1c2) (by decide +kernel) rfl rfl rfl (by decide +kernel)
set_option maxRecDepth 65536 in
theorem w_c24 : (Jvm.Cond.code ({ cls := "java/lang/StringLatin1", name := "indexOfChar", desc := "([BIII)I" } : Jvm.MethodName) jdk_43_method_23_code (6 : Nat) (Option.some Jvm.ClassFile.FieldType.int)).before args0 about1 = true := code_word (m := ⟨9, 4⟩) (meth := k9m4) (c := k9c4) (by decide +kernel) rfl rfl rfl (by decide +kernel)
set_option maxRecDepth 65536 in
theorem w_c25 : (Jvm.Cond.code ({ cls := "java/lang/StringUTF16", name := "compress", desc := "([CII)[B" } : Jvm.MethodName) jdk_52_method_16_code (6 : Nat) (Option.some (Jvm.ClassFile.FieldType.array Jvm.ClassFile.FieldType.byte))).before args0 about1 = true := code_word (m := ⟨16, 8⟩) (meth := k16m8) (c := k16c8) (by decide +kernel) rfl rfl rfl (by decide +kernel)
set_option maxRecDepth 65536 in
theorem w_c26 : (Jvm.Cond.code ({ cls := "java/lang/StringUTF16", name := "compress", desc := "([CI[BII)I" } : Jvm.MethodName) jdk_52_method_21_code (7 : Nat) (Option.some Jvm.ClassFile.FieldType.int)).before args0 about1 = true := code_word (m := ⟨16, 9⟩) (meth := k16m9) (c := k16c9) (by decide +kernel) rfl rfl rfl (by decide +kernel)
set_option maxRecDepth 65536 in
theorem w_c27 : (Jvm.Cond.code ({ cls := "java/lang/StringUTF16", name := "coderFromArrayLen", desc := "([BI)B" } : Jvm.MethodName) jdk_52_method_15_code (2 : Nat) (Option.some Jvm.ClassFile.FieldType.byte)).before args0 about1 = true := code_word (m := ⟨16, 7⟩) (meth := k16m7) (c := k16c7) (by decide +kernel) rfl rfl rfl (by decide +kernel)
set_option maxRecDepth 65536 in
theorem w_c28 : (Jvm.Cond.code ({ cls := "java/lang/Long", name := "<init>", desc := "(J)V" } : Jvm.MethodName) jdk_35_method_26_code (3 : Nat) (Option.none : Option Jvm.ClassFile.FieldType)).before args0 about1 = true := code_word (m := ⟨14, 1⟩) (meth := k14m1) (c := k14c1) (by decide +kernel) rfl rfl rfl (by decide +kernel)
set_option maxRecDepth 65536 in
theorem w_c29 : (Jvm.Cond.code ({ cls := "java/lang/StringUTF16", name := "toBytes", desc := "([CII)[B" } : Jvm.MethodName) jdk_52_method_14_code (5 : Nat) (Option.some (Jvm.ClassFile.FieldType.array Jvm.ClassFile.FieldType.byte))).before args0 about1 = true := code_word (m := ⟨16, 6⟩) (meth := k16m6) (c := k16c6) (by decide +kernel) rfl rfl rfl (by decide +kernel)
set_option maxRecDepth 65536 in
theorem w_c30 : (Jvm.Cond.code ({ cls := "java/lang/StringUTF16", name := "newBytesFor", desc := "(I)[B" } : Jvm.MethodName) jdk_52_method_2_code (1 : Nat) (Option.some (Jvm.ClassFile.FieldType.array Jvm.ClassFile.FieldType.byte))).before args0 about1 = true := code_word (m := ⟨16, 1⟩) (meth := k16m1) (c := k16c1) (by decide +kernel) rfl rfl rfl (by decide +kernel)
set_option maxRecDepth 65536 in
theorem w_c31 : (Jvm.Cond.code ({ cls := "java/lang/StringUTF16", name := "newBytesLength", desc := "(I)I" } : Jvm.MethodName) jdk_52_method_3_code (1 : Nat) (Option.some Jvm.ClassFile.FieldType.int)).before args0 about1 = true := code_word (m := ⟨16, 2⟩) (meth := k16m2) (c := k16c2) (by decide +kernel) rfl rfl rfl (by decide +kernel)
set_option maxRecDepth 65536 in
theorem w_c32 : (Jvm.Cond.code ({ cls := "java/lang/StringUTF16", name := "putChar", desc := "([BII)V" } : Jvm.MethodName) jdk_52_method_4_code (3 : Nat) (Option.none : Option Jvm.ClassFile.FieldType)).before args0 about1 = true := code_word (m := ⟨16, 3⟩) (meth := k16m3) (c := k16c3) (by decide +kernel) rfl rfl rfl (by decide +kernel)
set_option maxRecDepth 65536 in
theorem w_c33 : (Jvm.Cond.code ({ cls := "java/lang/StringUTF16", name := "getChar", desc := "([BI)C" } : Jvm.MethodName) jdk_52_method_5_code (2 : Nat) (Option.some Jvm.ClassFile.FieldType.char)).before args0 about1 = true := code_word (m := ⟨16, 4⟩) (meth := k16m4) (c := k16c4) (by decide +kernel) rfl rfl rfl (by decide +kernel)
set_option maxRecDepth 65536 in
theorem w_c34 : (Jvm.Cond.code ({ cls := "java/lang/StringUTF16", name := "indexOf", desc := "([BIII)I" } : Jvm.MethodName) jdk_52_method_40_code (4 : Nat) (Option.some Jvm.ClassFile.FieldType.int)).before args0 about1 = true := code_word (m := ⟨16, 11⟩) (meth := k16m11) (c := k16c11) (by decide +kernel) rfl rfl rfl (by decide +kernel)
set_option maxRecDepth 65536 in
theorem w_c35 : (Jvm.Cond.code ({ cls := "java/lang/StringUTF16", name := "indexOfChar", desc := "([BIII)I" } : Jvm.MethodName) jdk_52_method_47_code (4 : Nat) (Option.some Jvm.ClassFile.FieldType.int)).before args0 about1 = true := code_word (m := ⟨16, 12⟩) (meth := k16m12) (c := k16c12) (by decide +kernel) rfl rfl rfl (by decide +kernel)
set_option maxRecDepth 65536 in
theorem w_c36 : (Jvm.Cond.code ({ cls := "java/lang/StringUTF16", name := "checkBoundsBeginEnd", desc := "(II[B)V" } : Jvm.MethodName) jdk_52_method_93_code (3 : Nat) (Option.none : Option Jvm.ClassFile.FieldType)).before args0 about1 = true := code_word (m := ⟨16, 14⟩) (meth := k16m14) (c := k16c14) (by decide +kernel) rfl rfl rfl (by decide +kernel)
set_option maxRecDepth 65536 in
theorem w_c37 : (Jvm.Cond.code ({ cls := "java/lang/StringUTF16", name := "length", desc := "([B)I" } : Jvm.MethodName) jdk_52_method_6_code (1 : Nat) (Option.some Jvm.ClassFile.FieldType.int)).before args0 about1 = true := code_word (m := ⟨16, 5⟩) (meth := k16m5) (c := k16c5) (by decide +kernel) rfl rfl rfl (by decide +kernel)
set_option maxRecDepth 65536 in
theorem w_c38 : (Jvm.Cond.code ({ cls := "java/lang/String", name := "checkBoundsBeginEnd", desc := "(III)V" } : Jvm.MethodName) jdk_42_method_158_code (3 : Nat) (Option.none : Option Jvm.ClassFile.FieldType)).before args0 about1 = true := code_word (m := ⟨7, 10⟩) (meth := k7m10) (c := k7c10) (by decide +kernel) rfl rfl rfl (by decide +kernel)
set_option maxRecDepth 65536 in
theorem w_c39 : (Jvm.Cond.code ({ cls := "jdk/internal/util/Preconditions", name := "checkFromToIndex", desc := "(IIILjava/util/function/BiFunction;)I" } : Jvm.MethodName) jdk_41_method_12_code (4 : Nat) (Option.some Jvm.ClassFile.FieldType.int)).before args0 about1 = true := code_word (m := ⟨17, 1⟩) (meth := k17m1) (c := k17c1) (by decide +kernel) rfl rfl rfl (by decide +kernel)
set_option maxRecDepth 65536 in
theorem w_c40 : (Jvm.Cond.code ({ cls := "java/lang/StringUTF16", name := "indexOfCharUnsafe", desc := "([BIII)I" } : Jvm.MethodName) jdk_52_method_48_code (5 : Nat) (Option.some Jvm.ClassFile.FieldType.int)).before args0 about1 = true := code_word (m := ⟨16, 13⟩) (meth := k16m13) (c := k16c13) (by decide +kernel) rfl rfl rfl (by decide +kernel)
set_option maxRecDepth 65536 in
theorem w_c41 : (Jvm.Cond.code ({ cls := "java/lang/StringUTF16", name := "toBytes", desc := "(C)[B" } : Jvm.MethodName) jdk_52_method_24_code (2 : Nat) (Option.some (Jvm.ClassFile.FieldType.array Jvm.ClassFile.FieldType.byte))).before args0 about1 = true := code_word (m := ⟨16, 10⟩) (meth := k16m10) (c := k16c10) (by decide +kernel) rfl rfl rfl (by decide +kernel)
def codes1 : List Jvm.Cond := [Jvm.Cond.code x code maxLocals ret, Jvm.Cond.code ({ cls := "com/example/gjallar/gjallar/messages/CoercionsIsDecimalTextPinLaw", name := "pick", desc := "(I)C" } : Jvm.MethodName) method_2_code (2 : Nat) (Option.some Jvm.ClassFile.FieldType.char), Jvm.Cond.code ({ cls := "java/lang/String", name := "<init>", desc := "([C)V" } : Jvm.MethodName) jdk_42_method_3_code (2 : Nat) (Option.none : Option Jvm.ClassFile.FieldType), Jvm.Cond.code ({ cls := "java/lang/String", name := "<init>", desc := "([CIILjava/lang/Void;)V" } : Jvm.MethodName) jdk_42_method_149_code (6 : Nat) (Option.none : Option Jvm.ClassFile.FieldType), Jvm.Cond.code ({ cls := "java/lang/Object", name := "<init>", desc := "()V" } : Jvm.MethodName) object_method_1_code (1 : Nat) (Option.none : Option Jvm.ClassFile.FieldType), Jvm.Cond.code ({ cls := "com/example/gjallar/gjallar/messages/Coercions", name := "isDecimalText", desc := "(Ljava/lang/Object;)Z" } : Jvm.MethodName) prog_11_method_22_code (2 : Nat) (Option.some Jvm.ClassFile.FieldType.boolean), Jvm.Cond.code ({ cls := "java/lang/String", name := "indexOf", desc := "(I)I" } : Jvm.MethodName) jdk_42_method_79_code (2 : Nat) (Option.some Jvm.ClassFile.FieldType.int), Jvm.Cond.code ({ cls := "java/lang/String", name := "indexOf", desc := "(II)I" } : Jvm.MethodName) jdk_42_method_80_code (3 : Nat) (Option.some Jvm.ClassFile.FieldType.int), Jvm.Cond.code ({ cls := "java/lang/String", name := "isLatin1", desc := "()Z" } : Jvm.MethodName) jdk_42_method_154_code (1 : Nat) (Option.some Jvm.ClassFile.FieldType.boolean), Jvm.Cond.code ({ cls := "java/lang/String", name := "length", desc := "()I" } : Jvm.MethodName) jdk_42_method_54_code (1 : Nat) (Option.some Jvm.ClassFile.FieldType.int), Jvm.Cond.code ({ cls := "java/lang/String", name := "coder", desc := "()B" } : Jvm.MethodName) jdk_42_method_152_code (1 : Nat) (Option.some Jvm.ClassFile.FieldType.byte), Jvm.Cond.code ({ cls := "java/lang/StringLatin1", name := "indexOf", desc := "([BIII)I" } : Jvm.MethodName) jdk_43_method_22_code (4 : Nat) (Option.some Jvm.ClassFile.FieldType.int), Jvm.Cond.code ({ cls := "java/lang/StringLatin1", name := "canEncode", desc := "(I)Z" } : Jvm.MethodName) jdk_43_method_4_code (1 : Nat) (Option.some Jvm.ClassFile.FieldType.boolean), Jvm.Cond.code ({ cls := "java/lang/Math", name := "max", desc := "(II)I" } : Jvm.MethodName) jdk_29_method_65_code (2 : Nat) (Option.some Jvm.ClassFile.FieldType.int), Jvm.Cond.code ({ cls := "java/lang/Math", name := "min", desc := "(II)I" } : Jvm.MethodName) jdk_29_method_69_code (2 : Nat) (Option.some Jvm.ClassFile.FieldType.int), Jvm.Cond.code ({ cls := "java/lang/Integer", name := "valueOf", desc := "(I)Ljava/lang/Integer;" } : Jvm.MethodName) jdk_33_method_22_code (1 : Nat) (Option.some (Jvm.ClassFile.FieldType.object "java/lang/Integer")), Jvm.Cond.code ({ cls := "java/lang/Integer", name := "<init>", desc := "(I)V" } : Jvm.MethodName) jdk_33_method_23_code (2 : Nat) (Option.none : Option Jvm.ClassFile.FieldType), Jvm.Cond.code ({ cls := "java/lang/Number", name := "<init>", desc := "()V" } : Jvm.MethodName) jdk_18_method_1_code (1 : Nat) (Option.none : Option Jvm.ClassFile.FieldType), Jvm.Cond.code ({ cls := "java/lang/Long", name := "valueOf", desc := "(J)Ljava/lang/Long;" } : Jvm.MethodName) jdk_35_method_24_code (3 : Nat) (Option.some (Jvm.ClassFile.FieldType.object "java/lang/Long")), Jvm.Cond.code ({ cls := "java/lang/String", name := "valueOf", desc := "(C)Ljava/lang/String;" } : Jvm.MethodName) jdk_42_method_139_code (1 : Nat) (Option.some (Jvm.ClassFile.FieldType.object "java/lang/String")), Jvm.Cond.code ({ cls := "java/lang/StringLatin1", name := "canEncode", desc := "(C)Z" } : Jvm.MethodName) jdk_43_method_3_code (1 : Nat) (Option.some Jvm.ClassFile.FieldType.boolean), Jvm.Cond.code ({ cls := "java/lang/StringLatin1", name := "toBytes", desc := "(C)[B" } : Jvm.MethodName) jdk_43_method_46_code (1 : Nat) (Option.some (Jvm.ClassFile.FieldType.array Jvm.ClassFile.FieldType.byte)), Jvm.Cond.code ({ cls := "java/lang/String", name := "<init>", desc := "([BB)V" } : Jvm.MethodName) jdk_42_method_151_code (3 : Nat) (Option.none : Option Jvm.ClassFile.FieldType), Jvm.Cond.code ({ cls := "com/example/gjallar/gjallar/messages/CoercionsIsDecimalTextPinLaw", name := "mark", desc := "(C)Z" } : Jvm.MethodName) method_3_code (1 : Nat) (Option.some Jvm.ClassFile.FieldType.boolean), Jvm.Cond.code ({ cls := "java/lang/StringLatin1", name := "indexOfChar", desc := "([BIII)I" } : Jvm.MethodName) jdk_43_method_23_code (6 : Nat) (Option.some Jvm.ClassFile.FieldType.int), Jvm.Cond.code ({ cls := "java/lang/StringUTF16", name := "compress", desc := "([CII)[B" } : Jvm.MethodName) jdk_52_method_16_code (6 : Nat) (Option.some (Jvm.ClassFile.FieldType.array Jvm.ClassFile.FieldType.byte)), Jvm.Cond.code ({ cls := "java/lang/StringUTF16", name := "compress", desc := "([CI[BII)I" } : Jvm.MethodName) jdk_52_method_21_code (7 : Nat) (Option.some Jvm.ClassFile.FieldType.int), Jvm.Cond.code ({ cls := "java/lang/StringUTF16", name := "coderFromArrayLen", desc := "([BI)B" } : Jvm.MethodName) jdk_52_method_15_code (2 : Nat) (Option.some Jvm.ClassFile.FieldType.byte), Jvm.Cond.code ({ cls := "java/lang/Long", name := "<init>", desc := "(J)V" } : Jvm.MethodName) jdk_35_method_26_code (3 : Nat) (Option.none : Option Jvm.ClassFile.FieldType), Jvm.Cond.code ({ cls := "java/lang/StringUTF16", name := "toBytes", desc := "([CII)[B" } : Jvm.MethodName) jdk_52_method_14_code (5 : Nat) (Option.some (Jvm.ClassFile.FieldType.array Jvm.ClassFile.FieldType.byte)), Jvm.Cond.code ({ cls := "java/lang/StringUTF16", name := "newBytesFor", desc := "(I)[B" } : Jvm.MethodName) jdk_52_method_2_code (1 : Nat) (Option.some (Jvm.ClassFile.FieldType.array Jvm.ClassFile.FieldType.byte)), Jvm.Cond.code ({ cls := "java/lang/StringUTF16", name := "newBytesLength", desc := "(I)I" } : Jvm.MethodName) jdk_52_method_3_code (1 : Nat) (Option.some Jvm.ClassFile.FieldType.int), Jvm.Cond.code ({ cls := "java/lang/StringUTF16", name := "putChar", desc := "([BII)V" } : Jvm.MethodName) jdk_52_method_4_code (3 : Nat) (Option.none : Option Jvm.ClassFile.FieldType), Jvm.Cond.code ({ cls := "java/lang/StringUTF16", name := "getChar", desc := "([BI)C" } : Jvm.MethodName) jdk_52_method_5_code (2 : Nat) (Option.some Jvm.ClassFile.FieldType.char), Jvm.Cond.code ({ cls := "java/lang/StringUTF16", name := "indexOf", desc := "([BIII)I" } : Jvm.MethodName) jdk_52_method_40_code (4 : Nat) (Option.some Jvm.ClassFile.FieldType.int), Jvm.Cond.code ({ cls := "java/lang/StringUTF16", name := "indexOfChar", desc := "([BIII)I" } : Jvm.MethodName) jdk_52_method_47_code (4 : Nat) (Option.some Jvm.ClassFile.FieldType.int), Jvm.Cond.code ({ cls := "java/lang/StringUTF16", name := "checkBoundsBeginEnd", desc := "(II[B)V" } : Jvm.MethodName) jdk_52_method_93_code (3 : Nat) (Option.none : Option Jvm.ClassFile.FieldType), Jvm.Cond.code ({ cls := "java/lang/StringUTF16", name := "length", desc := "([B)I" } : Jvm.MethodName) jdk_52_method_6_code (1 : Nat) (Option.some Jvm.ClassFile.FieldType.int), Jvm.Cond.code ({ cls := "java/lang/String", name := "checkBoundsBeginEnd", desc := "(III)V" } : Jvm.MethodName) jdk_42_method_158_code (3 : Nat) (Option.none : Option Jvm.ClassFile.FieldType), Jvm.Cond.code ({ cls := "jdk/internal/util/Preconditions", name := "checkFromToIndex", desc := "(IIILjava/util/function/BiFunction;)I" } : Jvm.MethodName) jdk_41_method_12_code (4 : Nat) (Option.some Jvm.ClassFile.FieldType.int), Jvm.Cond.code ({ cls := "java/lang/StringUTF16", name := "indexOfCharUnsafe", desc := "([BIII)I" } : Jvm.MethodName) jdk_52_method_48_code (5 : Nat) (Option.some Jvm.ClassFile.FieldType.int), Jvm.Cond.code ({ cls := "java/lang/StringUTF16", name := "toBytes", desc := "(C)[B" } : Jvm.MethodName) jdk_52_method_24_code (2 : Nat) (Option.some (Jvm.ClassFile.FieldType.array Jvm.ClassFile.FieldType.byte))]
set_option maxRecDepth 65536 in
theorem codes_eq : words1.filter isCode = codes1 := rfl
theorem w_codes : ∀ c ∈ words1.filter isCode, c.before args0 about1 = true := by
  rw [codes_eq]
  intro c hc
  simp only [codes1, List.mem_cons, List.not_mem_nil, or_false] at hc
  rcases hc with rfl | rfl | rfl | rfl | rfl | rfl | rfl | rfl | rfl | rfl | rfl | rfl | rfl | rfl | rfl | rfl | rfl | rfl | rfl | rfl | rfl | rfl | rfl | rfl | rfl | rfl | rfl | rfl | rfl | rfl | rfl | rfl | rfl | rfl | rfl | rfl | rfl | rfl | rfl | rfl | rfl | rfl
  · exact w_c0
  · exact w_c1
  · exact w_c2
  · exact w_c3
  · exact w_c4
  · exact w_c5
  · exact w_c6
  · exact w_c7
  · exact w_c8
  · exact w_c9
  · exact w_c10
  · exact w_c11
  · exact w_c12
  · exact w_c13
  · exact w_c14
  · exact w_c15
  · exact w_c16
  · exact w_c17
  · exact w_c18
  · exact w_c19
  · exact w_c20
  · exact w_c21
  · exact w_c22
  · exact w_c23
  · exact w_c24
  · exact w_c25
  · exact w_c26
  · exact w_c27
  · exact w_c28
  · exact w_c29
  · exact w_c30
  · exact w_c31
  · exact w_c32
  · exact w_c33
  · exact w_c34
  · exact w_c35
  · exact w_c36
  · exact w_c37
  · exact w_c38
  · exact w_c39
  · exact w_c40
  · exact w_c41
set_option maxRecDepth 65536 in
theorem w_t1 : (words1.take 24).all (fun c => isCode c || c.before args0 about1) = true := by decide +kernel
set_option maxRecDepth 65536 in
theorem w_t2 : ((words1.drop 24).take 24).all (fun c => isCode c || c.before args0 about1) = true := by decide +kernel
set_option maxRecDepth 65536 in
theorem w_t3 : (((words1.drop 24).drop 24).take 24).all (fun c => isCode c || c.before args0 about1) = true := by decide +kernel
set_option maxRecDepth 65536 in
theorem w_t4 : ((((words1.drop 24).drop 24).drop 24).take 24).all (fun c => isCode c || c.before args0 about1) = true := by decide +kernel
set_option maxRecDepth 65536 in
theorem w_t5 : (((((words1.drop 24).drop 24).drop 24).drop 24).take 24).all (fun c => isCode c || c.before args0 about1) = true := by decide +kernel
set_option maxRecDepth 65536 in
theorem w_t6 : ((((((words1.drop 24).drop 24).drop 24).drop 24).drop 24).take 24).all (fun c => isCode c || c.before args0 about1) = true := by decide +kernel
set_option maxRecDepth 65536 in
theorem w_t7 : (((((((words1.drop 24).drop 24).drop 24).drop 24).drop 24).drop 24).take 24).all (fun c => isCode c || c.before args0 about1) = true := by decide +kernel
set_option maxRecDepth 65536 in
theorem w_t8 : ((((((((words1.drop 24).drop 24).drop 24).drop 24).drop 24).drop 24).drop 24).take 24).all (fun c => isCode c || c.before args0 about1) = true := by decide +kernel
set_option maxRecDepth 65536 in
theorem w_t9 : ((((((((words1.drop 24).drop 24).drop 24).drop 24).drop 24).drop 24).drop 24).drop 24).all (fun c => isCode c || c.before args0 about1) = true := by decide +kernel
theorem w_tables : (allAtoms (Jvm.Cond.code x code maxLocals ret :: tables_1)).before args0 about1 = true := by
  rw [allAtoms_all]
  show words1.all (fun c => c.before args0 about1) = true
  refine all_split ?_ w_codes
  rw [← List.take_append_drop 24 words1, List.all_append, w_t1, ← List.take_append_drop 24 (words1.drop 24), List.all_append, w_t2, ← List.take_append_drop 24 ((words1.drop 24).drop 24), List.all_append, w_t3, ← List.take_append_drop 24 (((words1.drop 24).drop 24).drop 24), List.all_append, w_t4, ← List.take_append_drop 24 ((((words1.drop 24).drop 24).drop 24).drop 24), List.all_append, w_t5, ← List.take_append_drop 24 (((((words1.drop 24).drop 24).drop 24).drop 24).drop 24), List.all_append, w_t6, ← List.take_append_drop 24 ((((((words1.drop 24).drop 24).drop 24).drop 24).drop 24).drop 24), List.all_append, w_t7, ← List.take_append_drop 24 (((((((words1.drop 24).drop 24).drop 24).drop 24).drop 24).drop 24).drop 24), List.all_append, w_t8, w_t9]
  rfl
set_option maxRecDepth 65536 in
theorem w_rest : rest_1_c.before args0 about1 = true := by decide +kernel
set_option maxRecDepth 65536 in
theorem w_case : (Jvm.Cond.and given_1 narrow_1).before args0 about1 = true := by decide +kernel
set_option maxRecDepth 65536 in
theorem w_consts : constsHeld consts_1 about1 := Jvm.Lit.constsHeldB_iff.mp (by decide +kernel)
theorem w_applies : (headSpec (Jvm.Cond.code x code maxLocals ret :: tables_1) room_1).applies x e0.platform about1 = true :=
  (Spec.applies_iff w_frames).mpr ⟨w_running, w_runnable, w_alone, w_named, w_hears, w_ripe, w_room, w_tables⟩
theorem atStart : AtStart classFile x code maxLocals ret World_1 tables_1 room_1 Calls_1 rest_1 Pre_1 launch0 p0 e0 about1 theMethod args0 below0 :=
  ⟨lists_1, trivial, launch0.admits_env _ _ _, launch0.least_env, fairChoices_fair.cas, fairChoices_fair.clock, w_frames, w_args, w_heap, w_applies, ⟨w_consts, trivial⟩, w_rest, w_case⟩
end start1
theorem witness_1 : WitnessClaimed_1 := ⟨start1.p0, start1.e0, start1.about1, start1.theMethod, start1.args0, start1.below0, start1.atStart⟩
end Jvm.Pilot.@@N@@
