import PyProof.Rows.All
import Wide.All
import OpenK.AllK
import Wide.FinOn
import KE.KEqDict
import Lean
import PySem.Challenge.RW_rl0095_01
open PySem PySem.W PySem.W.X PyProof.Rows PySem.Calls
set_option Elab.async false
set_option maxRecDepth 100000
set_option maxHeartbeats 8000000
set_option linter.all false
namespace Mine
theorem ox1 {i j s:Nat} (h:i+(j+1)=s):i < s:=by omega
theorem ox3 {i j s:Nat} (h:i+(j+1)=s):i+1+j=s:=by omega
theorem ox4 {i j s:Nat} (h:i+(j+1)≤s):i+1+j≤s:=by omega
theorem ox5 {i j s:Nat} (h:i+(j+1)≤s):i+j≤s:=by omega
theorem ox6 {i j s c:Nat} (h:i+j≤s) (d:s≤c):i≤c:=by omega
theorem ox7 {i j s c:Nat} (h:i+(j+1)=s) (h2:s≤c):i < c:=by omega
theorem ox8 {i s c:Nat} (h:i < s) (h2:s≤c):i < c:=by omega
theorem ox9 {n d c e:Nat}:n+(e+d+c)=n+e+d+c:=by omega
theorem oxa {n d:Nat}:n+(d+1)=n+1+d:=by omega
theorem oxb {s:Nat} (h:2≤s):s=s - 2+2:=by omega
theorem oxc {c s:Nat} (h:c≤s) (d:1≤c):s=s - 1+1:=by omega
theorem oxd {n:Nat}:0+1+n=n+1:=by omega
theorem oxe {s:Nat} (h:3≤s) (d:s≤6):s=3∨s=4∨s=5∨s=6:=by omega
theorem oxg {a b c:Nat} (h:b≤c) (d:a≤b):a≤c:=Nat.le_trans d h
theorem oxh {a:Nat} (h:a < 2):a=0∨a=1:=by omega
theorem oxi {v:Nat} (h:v≤1000):-2 ^ 60≤(v:Int)∧(v:Int)≤2 ^ 60:=by omega
theorem oxj {n d:Nat}:n+(d+1)+1=n+1+d+1:=by omega
theorem oxk {n:Nat}:((n+1:Nat):Int) - 1=n:=by omega
theorem oxl {n:Nat}:(1:Int)+(n:Int)=((1+n:Nat):Int):=by omega
theorem oxm {n:Nat} (h:1≤n):2≤1+n:=by omega
theorem oxo {i s:Nat} (h:i < s):i≤s - 1:=by omega
theorem oxp {i j s n:Nat} (h:i+(j+1)=s) (e:n=s):i < n:=by omega
noncomputable abbrev dz:Code→Sem Fin:=PySem.W.ZFast.zw11892475500146522536 PySem.W.ZFast.tableZ
theorem dz_eq:denote table=dz:=by
 show denote table=PySem.W.ZFast.zw11892475500146522536 PySem.W.ZFast.tableZ
 rw [← PySem.W.ZFast.ze11892475500146522536,← PySem.W.ZFast.tableZ_eq]
structure SM where
 cells:List (Nat×Obj)
 sz:Nat
 tk:Nat
noncomputable abbrev Ps:=List (Nat×Nat)
structure Ev where
 c:Code
 m:SM
 r:Result
 m':SM
structure St where
 m:SM
 ps:Ps
 hs:List Nat
 an:List (SM→Result×SM)
 ev:List Ev
inductive RR (α:Type) where
 | ok (a:α) (s:St)
 | err (e:Value) (s:St)
 | stop (n:Nat)
inductive RC where
 | ok (f:Flow) (m:SM) (ps:Ps) (hs:List Nat)
 | err (e:Value) (m:SM) (ps:Ps) (hs:List Nat)
 | stop (n:Nat)
structure Cx where
 kt:KT
 st:Setting
 ro:List (Nat×Obj)
noncomputable def lookH (C:Cx) (cells:List (Nat×Obj)) (ps:Ps) (a:Nat) (h:Nat):Option (Obj×Ps):=match h with
 | 0=>match C.kt.get a with
  | some o=>some (o,ps)
  | none=>none
 | j+1=>match Nat.ble 1000 j with
  | false=>match cells[j]? with
   | some p=>some (p.2,(a,p.1)::ps)
   | none=>none
  | true=>match C.ro[j - 1000]? with
   | some p=>some (p.2,(a,p.1)::ps)
   | none=>none
noncomputable def Facts (h:Heap) (F:List (Nat×Obj)):Prop:=∀ p∈F,h.get? p.1=some p.2
noncomputable def simT (C:Cx) (call:Code→SM→Ps→List Nat→RC) (callH:Code→St→RR Flow) {α:Type}:Sem α→St→RR α
 | .pure a,s=>.ok a s
 | .raise e,s=>.err e s
 | .rule _ k,s=>simT C call callH (k ()) s
 | .at _ k,s=>simT C call callH (k ()) s
 | .point _ k,s=>simT C call callH (k ()) s
 | .ask k,s=>simT C call callH (k C.st) s
 | .load a _ k,s=>match s.hs with
  | []=>.stop 1
  | h::hs=>match lookH C s.m.cells s.ps a h with
   | some r=>simT C call callH (k r.1) { s with hs:=hs,ps:=r.2 }
   | none=>.stop 2
 | .loadIfAlive a k,s=>match s.hs with
  | []=>.stop 1
  | h::hs=>match lookH C s.m.cells s.ps a h with
   | some r=>simT C call callH (k (some r.1)) { s with hs:=hs,ps:=r.2 }
   | none=>.stop 2
 | .alloc o k,s=>match o.isFreed with
  | true=>.stop 3
  | false=>simT C call callH (k s.m.sz) { s with m:=⟨(s.m.sz,o)::s.m.cells,s.m.sz+1,s.m.tk⟩ }
 | .update a _ f k,s=>match s.hs with
  | []=>.stop 1
  | h::hs=>match h with
   | 0=>.stop 4
   | j+1=>match s.m.cells[j]? with
    | some p=>match (f p.2).isFreed with
     | true=>.stop 3
     | false=>simT C call callH (k ()) { s with m:=⟨s.m.cells.set j (p.1,f p.2),s.m.sz,s.m.tk⟩,hs:=hs,ps:=(a,p.1)::s.ps }
    | none=>.stop 2
 | .fresh k,s=>simT C call callH (k s.m.tk) { s with m:=⟨s.m.cells,s.m.sz,s.m.tk+1⟩ }
 | .handled own k,s=>match own with
  | false=>simT C call callH (k none) s
  | true=>.stop 5
 | .call c hd _ _ k,s=>match hd with
  | some _=>.stop 6
  | none=>match s.hs with
   | []=>.stop 1
   | h::hs=>match h with
    | 0=>match call c s.m s.ps hs with
     | .ok f m ps hs=>simT C call callH (k (.ok f)) { s with m:=m,ps:=ps,hs:=hs }
     | .err e m ps hs=>simT C call callH (k (.error e)) { s with m:=m,ps:=ps,hs:=hs }
     | .stop n=>.stop n
    | 1=>match s.an with
     | []=>.stop 7
     | g::an=>simT C call callH (k (g s.m).1) { s with m:=(g s.m).2,hs:=hs,an:=an,ev:=⟨c,s.m,(g s.m).1,(g s.m).2⟩::s.ev }
    | _+2=>match callH c { s with hs:=hs } with
     | .ok f s=>simT C call callH (k (.ok f)) s
     | .err e s=>simT C call callH (k (.error e)) s
     | .stop n=>.stop n
 | .unsupported _,_=>.stop 8
 | .finish _,_=>.stop 8
 | .register _ _,_=>.stop 8
 | .choose _ _ _,_=>.stop 8
 | .os _ _ _,_=>.stop 8
 | .newGen _ _,_=>.stop 8
 | .genState _ _,_=>.stop 8
 | .resume _ _ _ _,_=>.stop 8
 | .yield _ _ _ _,_=>.stop 8
 | .stack _,_=>.stop 11
 | .fork _ _,_=>.stop 8
 | .thread _,_=>.stop 8
 | .await _ _ _ _ _,_=>.stop 8
theorem sT_load (C:Cx) (call:Code→SM→Ps→List Nat→RC) (callH:Code→St→RR Flow) {α:Type} (a p k) (s:St):simT C call callH (.load a p k:Sem α) s=(match s.hs with
 | []=>.stop 1
 | h::hs=>match lookH C s.m.cells s.ps a h with
  | some r=>simT C call callH (k r.1) { s with hs:=hs,ps:=r.2 }
  | none=>.stop 2):=by kernel_rfl
theorem sT_lia (C:Cx) (call:Code→SM→Ps→List Nat→RC) (callH:Code→St→RR Flow) {α:Type} (a k) (s:St):simT C call callH (.loadIfAlive a k:Sem α) s=(match s.hs with
 | []=>.stop 1
 | h::hs=>match lookH C s.m.cells s.ps a h with
  | some r=>simT C call callH (k (some r.1)) { s with hs:=hs,ps:=r.2 }
  | none=>.stop 2):=by kernel_rfl
theorem sT_alloc (C:Cx) (call:Code→SM→Ps→List Nat→RC) (callH:Code→St→RR Flow) {α:Type} (o k) (s:St):simT C call callH (.alloc o k:Sem α) s=(match o.isFreed with
 | true=>.stop 3
 | false=>simT C call callH (k s.m.sz) { s with m:=⟨(s.m.sz,o)::s.m.cells,s.m.sz+1,s.m.tk⟩ }):=by kernel_rfl
theorem sT_upd (C:Cx) (call:Code→SM→Ps→List Nat→RC) (callH:Code→St→RR Flow) {α:Type} (a p f k) (s:St):simT C call callH (.update a p f k:Sem α) s=(match s.hs with
 | []=>.stop 1
 | h::hs=>match h with
  | 0=>.stop 4
  | j+1=>match s.m.cells[j]? with
   | some p=>match (f p.2).isFreed with
    | true=>.stop 3
    | false=>simT C call callH (k ()) { s with m:=⟨s.m.cells.set j (p.1,f p.2),s.m.sz,s.m.tk⟩,hs:=hs,ps:=(a,p.1)::s.ps }
   | none=>.stop 2):=by kernel_rfl
theorem sT_hd (C:Cx) (call:Code→SM→Ps→List Nat→RC) (callH:Code→St→RR Flow) {α:Type} (own k) (s:St):simT C call callH (.handled own k:Sem α) s=(match own with
 | false=>simT C call callH (k none) s
 | true=>.stop 5):=by kernel_rfl
theorem sT_call (C:Cx) (call:Code→SM→Ps→List Nat→RC) (callH:Code→St→RR Flow) {α:Type} (c:Code) (hd g l) (k:Except Value Flow→Sem α) (s:St):simT C call callH (.call c hd g l k) s=(match hd with
 | some _=>.stop 6
 | none=>match s.hs with
  | []=>.stop 1
  | h::hs=>match h with
   | 0=>match call c s.m s.ps hs with
    | .ok f m ps hs=>simT C call callH (k (.ok f)) { s with m:=m,ps:=ps,hs:=hs }
    | .err e m ps hs=>simT C call callH (k (.error e)) { s with m:=m,ps:=ps,hs:=hs }
    | .stop n=>.stop n
   | 1=>match s.an with
    | []=>.stop 7
    | g::an=>simT C call callH (k (g s.m).1) { s with m:=(g s.m).2,hs:=hs,an:=an,ev:=⟨c,s.m,(g s.m).1,(g s.m).2⟩::s.ev }
   | _+2=>match callH c { s with hs:=hs } with
    | .ok f s=>simT C call callH (k (.ok f)) s
    | .err e s=>simT C call callH (k (.error e)) s
    | .stop n=>.stop n):=by kernel_rfl
noncomputable def simC (C:Cx):Nat→Code→SM→Ps→List Nat→RC
 | 0,_,_,_,_=>.stop 9
 | n+1,c,m,ps,hs=>match simT C (simC C n) (fun _ _=>.stop 12) (dz c) ⟨m,ps,hs,[],[]⟩ with
  | .ok fin s=>match fin with
   | .done f=>.ok f s.m s.ps s.hs
   | .again c'=>match c'.quiet with
    | true=>simC C n c' s.m s.ps s.hs
    | false=>.stop 10
  | .err e s=>.err e s.m s.ps s.hs
  | .stop k=>.stop k
theorem sC_s (C:Cx) (n c m ps hs):simC C (n+1) c m ps hs=(match simT C (simC C n) (fun _ _=>.stop 12) (dz c) ⟨m,ps,hs,[],[]⟩ with
  | .ok fin s=>match fin with
   | .done f=>.ok f s.m s.ps s.hs
   | .again c'=>match c'.quiet with
    | true=>simC C n c' s.m s.ps s.hs
    | false=>.stop 10
  | .err e s=>.err e s.m s.ps s.hs
  | .stop k=>.stop k):=rfl
noncomputable def lightB (c:Code):Bool:=Nat.ble c.weight 3&&Nat.ble c.cUnits 20
noncomputable def simH (C:Cx) (call:Code→SM→Ps→List Nat→RC):Nat→Code→St→RR Flow
 | 0,_,_=>.stop 13
 | n+1,c,s=>match lightB c with
  | false=>.stop 14
  | true=>match simT C call (simH C call n) (dz c) s with
   | .ok fin s=>match fin with
    | .done f=>.ok f s
    | .again c'=>match c'.quiet with
     | true=>simH C call n c' s
     | false=>.stop 10
   | .err e s=>.err e s
   | .stop k=>.stop k
theorem sH_s (C:Cx) (call n c s):simH C call (n+1) c s=(match lightB c with
  | false=>.stop 14
  | true=>match simT C call (simH C call n) (dz c) s with
   | .ok fin s=>match fin with
    | .done f=>.ok f s
    | .again c'=>match c'.quiet with
     | true=>simH C call n c' s
     | false=>.stop 10
   | .err e s=>.err e s
   | .stop k=>.stop k):=rfl
structure Rep (h₀:Heap) (os:OsState) (s:Shared) (m:SM):Prop where
 keep:∀ b o,h₀.get? b=some o→s.heap.get? b=some o
 cell:∀ p∈m.cells,s.heap.get? p.1=some p.2∧h₀.get? p.1=none
 nodup:(m.cells.map (·.1)).Nodup
 size:s.heap.objs.size=m.sz
 toks:s.toks=m.tk
 gens:s.gens=#[]
 os:s.os=os
noncomputable def AllRefl (ps:Ps):Prop:=∀ p∈ps,p.1=p.2
structure AOk (k:Nat) (A:Around):Prop where
 handled:A.handled=none
 depth:A.depth≤302+3*k
 units:A.units≤20+20*k
section
variable {prog:Program} {w:World} {h₀:Heap} {os:OsState} {kt:KT} {ro:List (Nat×Obj)}
variable (prog w h₀ os) in
def SpecE (k:Nat) (c:Code) (m:SM) (r:Result) (m':SM):Prop :=
 ∀(A:Around) (s:Shared) (R:Result→Shared→Prop),AOk k A→Rep h₀ os s m→(∀ s',Rep h₀ os s' m'→R r s')→codeAny (model prog w) A c R s
theorem Rep.at {s:Shared} {m:SM} (D:Rep h₀ os s m) {j:Nat} {p:Nat×Obj} (e:m.cells[j]?=some p):s.heap.get? p.1=some p.2∧h₀.get? p.1=none:=D.cell p (List.mem_of_getElem? e)
theorem Rep.look {s:Shared} {m:SM} (hk:kt.Holds h₀ 1 0∧Facts h₀ ro) (D:Rep h₀ os s m) {st:Setting} {ps:Ps} {a h:Nat} {r:Obj×Ps} (e:lookH ⟨kt,st,ro⟩ m.cells ps a h=some r) (hr:AllRefl r.2) :
  s.heap.get? a=some r.1:=by
 unfold lookH at e
 split at e
 ·split at e
  ·rename_i o q
   cases e
   exact D.keep _ _ (kt_at hk.1 q)
  ·cases e
 ·split at e
  ·split at e
   ·rename_i p q
    cases e
    have:a=p.1:=hr (a,p.1) (.head _)
    rw [this]
    exact (D.at q).1
   ·cases e
  ·split at e
   ·rename_i p q
    cases e
    have:a=p.1:=hr (a,p.1) (.head _)
    rw [this]
    exact D.keep _ _ (hk.2 _ (List.mem_of_getElem? q))
   ·cases e
theorem look_refl {C:Cx} {cells:List (Nat×Obj)} {ps:Ps} {a h:Nat} {r:Obj×Ps} (e:lookH C cells ps a h=some r) (hr:AllRefl r.2):AllRefl ps:=by
 unfold lookH at e
 split at e
 ·split at e
  ·cases e;exact hr
  ·cases e
 ·split at e
  ·split at e
   ·cases e;exact fun p hp=>hr p (.tail _ hp)
   ·cases e
  ·split at e
   ·cases e;exact fun p hp=>hr p (.tail _ hp)
   ·cases e
theorem Rep.alloc {s:Shared} {m:SM} (D:Rep h₀ os s m) {o:Obj} (hf:o.isFreed=false):Rep h₀ os { s with heap:=s.heap.push o } ⟨(m.sz,o)::m.cells,m.sz+1,m.tk⟩:=by
 refine⟨fun b o' e=>Heap.get?_push_of_some _ (D.keep b o' e),fun p hp=>?_,?_,by show (s.heap.push o).objs.size=_;rw [Heap.size_push,D.size],D.toks,D.gens,D.os⟩
 ·rcases List.mem_cons.mp hp with rfl | hp
  ·refine⟨by rw [← D.size];exact Heap.get?_push_size _ hf,?_⟩
   cases q:h₀.get? m.sz with
   | none=>rfl
   | some o' =>
    have:=Heap.lt_size (D.keep _ _ q)
    rw [D.size] at this
    exact absurd this (Nat.lt_irrefl _)
  ·exact⟨Heap.get?_push_of_some _ (D.cell p hp).1,(D.cell p hp).2⟩
 ·show (m.sz::m.cells.map (·.1)).Nodup
  refine List.nodup_cons.mpr ⟨fun hm=>?_,D.nodup⟩
  obtain⟨p,hp,e⟩:=List.mem_map.mp hm
  have:=Heap.lt_size (D.cell p hp).1
  rw [D.size,e] at this
  exact absurd this (Nat.lt_irrefl _)
theorem Rep.update {s:Shared} {m:SM} (D:Rep h₀ os s m) {j:Nat} {p:Nat×Obj} (e:m.cells[j]?=some p) {f:Obj→Obj} (hf:(f p.2).isFreed=false) :
  Rep h₀ os { s with heap:=s.heap.update p.1 f } ⟨m.cells.set j (p.1,f p.2),m.sz,m.tk⟩:=by
 obtain⟨ho,h0⟩:=D.at e
 have hs:Heap.SameBut p.1 s.heap (s.heap.update p.1 f):=Heap.SameBut.update ..
 have ge:(s.heap.update p.1 f).get? p.1=some (f p.2):=Heap.get?_update_self f ho hf
 have em:(m.cells.set j (p.1,f p.2)).map (·.1)=m.cells.map (·.1):=by
  rw [List.map_set]
  exact set_same (by rw [List.getElem?_map,e];rfl)
 refine⟨fun b o' e'=>?_,fun q hq=>?_,by rw [em];exact D.nodup,hs.1.trans D.size,D.toks,D.gens,D.os⟩
 ·have:b≠p.1:=by rintro rfl;rw [e'] at h0;cases h0
  exact (hs.2 b this).trans (D.keep b o' e')
 ·obtain⟨hl,he⟩:=List.getElem?_eq_some_iff.mp e
  rcases List.mem_or_eq_of_mem_set hq with hm | rfl
  ·by_cases hp:q.1=p.1
   ·have hx:(p.1,f p.2)∈m.cells.set j (p.1,f p.2):=List.mem_set hl _
    have:q=(p.1,f p.2):=key_unique (by rw [em];exact D.nodup) hq hx hp
    subst this
    exact⟨ge,h0⟩
   ·exact⟨(hs.2 _ hp).trans (D.cell q hm).1,(D.cell q hm).2⟩
  ·exact⟨ge,h0⟩
theorem Rep.fresh {s:Shared} {m:SM} (D:Rep h₀ os s m):Rep h₀ os { s with toks:=s.toks+1 } ⟨m.cells,m.sz,m.tk+1⟩ :=
 ⟨D.keep,D.cell,D.nodup,D.size,by show s.toks+1=_;rw [D.toks],D.gens,D.os⟩
noncomputable def EvOk (prog:Program) (w:World) (h₀:Heap) (os:OsState) (k:Nat) (e:Ev):Prop:=SpecE prog w h₀ os k e.c e.m e.r e.m'
noncomputable def Fine {α:Type} (prog:Program) (w:World) (h₀:Heap) (os:OsState) (k:Nat) (Q:α→Shared→Prop) (E:Value→Shared→Prop):RR α→Prop
 | .ok a s=>(AllRefl s.ps∧∀ e∈s.ev,EvOk prog w h₀ os k e)∧∀ s',Rep h₀ os s' s.m→Q a s'
 | .err e s=>(AllRefl s.ps∧∀ e∈s.ev,EvOk prog w h₀ os k e)∧∀ s',Rep h₀ os s' s.m→E e s'
 | .stop _=>False
structure CallOk (prog:Program) (w:World) (h₀:Heap) (os:OsState) (call:Code→SM→Ps→List Nat→RC):Prop where
 ok:∀ c m ps hs f m' ps' hs',call c m ps hs=.ok f m' ps' hs'→AllRefl ps'→AllRefl ps ∧
  ∀(A:Around) (s:Shared) (R:Result→Shared→Prop),A.handled=none→Rep h₀ os s m→(∀ s',Rep h₀ os s' m'→R (.ok f) s')→codeAny (model prog w) A c R s
 err:∀ c m ps hs e m' ps' hs',call c m ps hs=.err e m' ps' hs'→AllRefl ps'→AllRefl ps ∧
  ∀(A:Around) (s:Shared) (R:Result→Shared→Prop),A.handled=none→Rep h₀ os s m→(∀ s',Rep h₀ os s' m'→R (.error e) s')→codeAny (model prog w) A c R s
noncomputable def StOk (prog:Program) (w:World) (h₀:Heap) (os:OsState) (k:Nat) (s:St):Prop:=AllRefl s.ps∧∀ e∈s.ev,EvOk prog w h₀ os k e
structure CallHOk (prog:Program) (w:World) (h₀:Heap) (os:OsState) (k j:Nat) (callH:Code→St→RR Flow):Prop where
 ok:∀ c s f s',callH c s=.ok f s'→StOk prog w h₀ os k s'→StOk prog w h₀ os k s ∧
  ∀(A:Around) (sh:Shared) (R:Result→Shared→Prop),AOk j A→Rep h₀ os sh s.m→(∀ sh',Rep h₀ os sh' s'.m→R (.ok f) sh')→codeAny (model prog w) A c R sh
 err:∀ c s e s',callH c s=.err e s'→StOk prog w h₀ os k s'→StOk prog w h₀ os k s ∧
  ∀(A:Around) (sh:Shared) (R:Result→Shared→Prop),AOk j A→Rep h₀ os sh s.m→(∀ sh',Rep h₀ os sh' s'.m→R (.error e) sh')→codeAny (model prog w) A c R sh
theorem noCallH {k j:Nat}:CallHOk prog w h₀ os k j (fun _ _=>.stop 12) :=
 ⟨fun c s f s' e=>(by have e:(RR.stop 12:RR Flow)=.ok f s':=e;(cases e)),fun c s f s' e=>(by have e:(RR.stop 12:RR Flow)=.err f s':=e;(cases e))⟩
variable {call:Code→SM→Ps→List Nat→RC} {callH:Code→St→RR Flow} {α:Type} {Q:α→Shared→Prop} {E:Value→Shared→Prop} {k:Nat} {st:Setting}
theorem fine_mono {j:Nat} (H:CallOk prog w h₀ os call) (HH:CallHOk prog w h₀ os k j callH):∀(t:Sem α) (s:St),Fine prog w h₀ os k Q E (simT ⟨kt,st,ro⟩ call callH t s)→AllRefl s.ps∧∀ e∈s.ev,EvOk prog w h₀ os k e:=by
 intro t
 induction t with
 | pure a=>intro s h;exact h.1
 | raise e=>intro s h;exact h.1
 | rule _ k ih=>intro s h;exact ih () s h
 | «at» _ k ih=>intro s h;exact ih () s h
 | point _ k ih=>intro s h;exact ih () s h
 | ask k ih=>intro s h;exact ih _ s h
 | load a _ k ih =>
  intro s h
  rw [sT_load] at h
  split at h
  ·cases h
  ·split at h
   ·rename_i r e
    have:=ih _ _ h
    exact⟨look_refl e this.1,this.2⟩
   ·cases h
 | loadIfAlive a k ih =>
  intro s h
  rw [sT_lia] at h
  split at h
  ·cases h
  ·split at h
   ·rename_i r e
    have:=ih _ _ h
    exact⟨look_refl e this.1,this.2⟩
   ·cases h
 | alloc o k ih =>
  intro s h
  rw [sT_alloc] at h
  split at h
  ·cases h
  ·have:=ih _ _ h;exact⟨this.1,this.2⟩
 | update a _ f k ih =>
  intro s h
  rw [sT_upd] at h
  split at h
  ·cases h
  ·split at h
   ·cases h
   ·split at h
    ·split at h
     ·cases h
     ·have:=ih _ _ h
      exact⟨fun p hp=>this.1 p (.tail _ hp),this.2⟩
    ·cases h
 | fresh k ih=>intro s h;have:=ih _ _ h;exact⟨this.1,this.2⟩
 | handled own k ih =>
  intro s h
  rw [sT_hd] at h
  split at h
  ·exact ih _ _ h
  ·cases h
 | call c hd g l k ih =>
  intro s h
  rw [sT_call] at h
  split at h
  ·cases h
  ·split at h
   ·cases h
   ·split at h
    ·split at h
     ·rename_i f m ps hs e
      have:=ih _ _ h
      exact⟨(H.ok _ _ _ _ _ _ _ _ e this.1).1,this.2⟩
     ·rename_i f m ps hs e
      have:=ih _ _ h
      exact⟨(H.err _ _ _ _ _ _ _ _ e this.1).1,this.2⟩
     ·cases h
    ·split at h
     ·cases h
     ·have:=ih _ _ h
      exact⟨this.1,fun e he=>this.2 e (.tail _ he)⟩
    ·split at h
     ·rename_i f s' e
      exact (HH.ok _ _ _ _ e (ih _ _ h)).1
     ·rename_i f s' e
      exact (HH.err _ _ _ _ e (ih _ _ h)).1
     ·cases h
 | _=>intro s h;exact False.elim h
theorem simT_sound {A:Around} {j:Nat} (hk:kt.Holds h₀ 1 0∧Facts h₀ ro) (hA:A.handled=none) (H:CallOk prog w h₀ os call) (HH:CallHOk prog w h₀ os k j callH) (hAj:callH=(fun _ _=>.stop 12)∨(AOk j A∧AOk k A)) :
  ∀(t:Sem α) (s:St) (sh:Shared),Fine prog w h₀ os k Q E (simT ⟨kt,⟨prog,w.params⟩,ro⟩ call callH t s)→Rep h₀ os sh s.m→(s.an≠[]→AOk k A)→wpAny (model prog w) A t Q E sh:=by
 intro t
 induction t with
 | pure a=>intro s sh h D hev;exact x_pure (h.2 sh D)
 | raise e=>intro s sh h D hev;exact x_raise (h.2 sh D)
 | rule _ k ih=>intro s sh h D hev;exact x_rule (ih () s sh h D hev)
 | «at» _ k ih=>intro s sh h D hev;exact x_at (ih () s sh h D hev)
 | point _ k ih=>intro s sh h D hev;exact x_point (ih () s sh h D hev)
 | ask k ih=>intro s sh h D hev;exact x_ask (ih _ s sh h D hev)
 | load a _ k ih =>
  intro s sh h D hev
  rw [sT_load] at h
  split at h
  ·cases h
  ·split at h
   ·rename_i r e
    exact x_load (D.look hk e (fine_mono H HH _ _ h).1) (ih _ _ sh h D (fun z=>hev z))
   ·cases h
 | loadIfAlive a k ih =>
  intro s sh h D hev
  rw [sT_lia] at h
  split at h
  ·cases h
  ·split at h
   ·rename_i r e
    have q:=D.look hk e (fine_mono H HH _ _ h).1
    have z:=ih _ _ sh h D (fun z=>hev z)
    intro Γ p hΓ
    show Sem.wp _ Γ (k (sh.heap.get? a)) _ _ p sh
    rw [q]
    exact z Γ p hΓ
   ·cases h
 | alloc o k ih =>
  intro s sh h D hev
  rw [sT_alloc] at h
  split at h
  ·cases h
  ·rename_i hf
   refine wpAny_bind (m:=PySem.alloc o) (f:=k) (wpAny_alloc ?_)
   rw [D.size]
   exact ih _ _ _ h (D.alloc hf) (fun z=>hev z)
 | update a pt f k ih =>
  intro s sh h D hev
  rw [sT_upd] at h
  split at h
  ·cases h
  ·split at h
   ·cases h
   ·split at h
    ·rename_i p e
     split at h
     ·cases h
     ·rename_i hf
      have q:=(fine_mono H HH _ _ h).1 (a,p.1) (.head _)
      have q:a=p.1:=q
      subst q
      exact wpAny_bind (m:=updatePart p.1 pt f) (f:=k) (wpAny_updatePart (D.at e).1 (ih _ _ _ h (D.update e hf) (fun z=>hev z)))
    ·cases h
 | fresh k ih =>
  intro s sh h D hev
  refine x_fresh ?_
  rw [D.toks]
  have:=ih _ _ _ h D.fresh (fun z=>hev z)
  rw [D.toks] at this
  exact this
 | handled own k ih =>
  intro s sh h D hev
  rw [sT_hd] at h
  split at h
  ·refine x_handled ?_
   rw [hA]
   exact ih _ _ _ h D (fun z=>hev z)
  ·cases h
 | call c hd g l k' ih =>
  intro s sh h D hev
  rw [sT_call] at h
  split at h
  ·cases h
  ·split at h
   ·cases h
   ·split at h
    ·split at h
     ·rename_i f m ps hs e
      exact x_call ((H.ok _ _ _ _ _ _ _ _ e (fine_mono H HH _ _ h).1).2 _ _ _ hA D fun s' D'=>ih _ _ _ h D' (fun z=>hev z)) nofun
     ·rename_i f m ps hs e
      exact x_call ((H.err _ _ _ _ _ _ _ _ e (fine_mono H HH _ _ h).1).2 _ _ _ hA D fun s' D'=>ih _ _ _ h D' (fun z=>hev z)) nofun
     ·cases h
    ·split at h
     ·cases h
     ·rename_i g' an' ea
      have ok:=(fine_mono H HH _ _ h).2 _ (.head _)
      have hk':AOk k A:=hev (by rw [ea];exact fun z=>by cases z)
      refine x_call (ok (A.mark none) sh _ ⟨hk'.handled,hk'.depth,hk'.units⟩ D fun s' D'=>ih _ _ _ h D' (fun _=>hk')) nofun
    ·split at h
     ·rename_i f s' e
      rcases hAj with z | ⟨z,z'⟩
      ·rw [z] at e;cases e
      ·exact x_call ((HH.ok _ _ _ _ e (fine_mono H HH _ _ h)).2 (A.mark none) _ _ ⟨z.handled,z.depth,z.units⟩ D fun s' D'=>ih _ _ _ h D' (fun _=>z')) nofun
     ·rename_i f s' e
      rcases hAj with z | ⟨z,z'⟩
      ·rw [z] at e;cases e
      ·exact x_call ((HH.err _ _ _ _ e (fine_mono H HH _ _ h)).2 (A.mark none) _ _ ⟨z.handled,z.depth,z.units⟩ D fun s' D'=>ih _ _ _ h D' (fun _=>z')) nofun
     ·cases h
 | _=>intro s sh h D hev;exact False.elim h
noncomputable def evIs:RR α→Prop
 | .ok _ s=>s.ev=[]
 | .err _ s=>s.ev=[]
 | .stop _=>True
theorem evNil (C:Cx) (call:Code→SM→Ps→List Nat→RC):∀(t:Sem α) (s:St),s.an=[]→s.ev=[]→evIs (simT C call (fun _ _=>.stop 12) t s):=by
 intro t
 induction t with
 | pure a=>intro s h1 h2;exact h2
 | raise e=>intro s h1 h2;exact h2
 | rule _ k ih=>intro s h1 h2;exact ih () s h1 h2
 | «at» _ k ih=>intro s h1 h2;exact ih () s h1 h2
 | point _ k ih=>intro s h1 h2;exact ih () s h1 h2
 | ask k ih=>intro s h1 h2;exact ih _ s h1 h2
 | load a _ k ih=>intro s h1 h2;rw [sT_load];split;exact trivial;split;exact ih _ _ h1 h2;exact trivial
 | loadIfAlive a k ih=>intro s h1 h2;rw [sT_lia];split;exact trivial;split;exact ih _ _ h1 h2;exact trivial
 | alloc o k ih=>intro s h1 h2;rw [sT_alloc];split;exact trivial;exact ih _ _ h1 h2
 | update a _ f k ih=>intro s h1 h2;rw [sT_upd];split;exact trivial;split;exact trivial;split;split;exact trivial;exact ih _ _ h1 h2;exact trivial
 | fresh k ih=>intro s h1 h2;exact ih _ _ h1 h2
 | handled own k ih=>intro s h1 h2;rw [sT_hd];split;exact ih _ _ h1 h2;exact trivial
 | call c hd g l k ih =>
  intro s h1 h2
  rw [sT_call]
  split
  ·exact trivial
  ·split
   ·exact trivial
   ·split
    ·split
     ·exact ih _ _ h1 h2
     ·exact ih _ _ h1 h2
     ·exact trivial
    ·split
     ·exact trivial
     ·rename_i ea;rw [h1] at ea;cases ea
    ·exact trivial
 | _=>intro s h1 h2;exact trivial
theorem simC_ok (hk:kt.Holds h₀ 1 0∧Facts h₀ ro):∀ n,CallOk prog w h₀ os (simC ⟨kt,⟨prog,w.params⟩,ro⟩ n):=by
 intro n
 induction n with
 | zero =>
  constructor
  ·intro c m ps hs f m' ps' hs' e
   have e:RC.stop 9=_:=e;cases e
  ·intro c m ps hs f m' ps' hs' e
   have e:RC.stop 9=_:=e;cases e
 | succ n ih =>
  have key:∀ c m ps hs (res:Result) (m':SM) (ps':Ps) (hs':List Nat),simC ⟨kt,⟨prog,w.params⟩,ro⟩ (n+1) c m ps hs=(match res with | .ok f=>.ok f m' ps' hs' | .error e=>.err e m' ps' hs')→AllRefl ps'→AllRefl ps ∧
    ∀(A:Around) (s:Shared) (R:Result→Shared→Prop),A.handled=none→Rep h₀ os s m→(∀ s',Rep h₀ os s' m'→R res s')→codeAny (model prog w) A c R s:=by
   intro c m ps hs res m' ps' hs' e ha
   rw [sC_s] at e
   -- what the tree gives
   have tree:∀(A:Around) (s:Shared) (Q':PySem.Fin→Shared→Prop) (E':Value→Shared→Prop),A.handled=none→Rep h₀ os s m →
     Fine prog w h₀ os 0 Q' E' (simT ⟨kt,⟨prog,w.params⟩,ro⟩ (simC ⟨kt,⟨prog,w.params⟩,ro⟩ n) (fun _ _=>.stop 12) (dz c) ⟨m,ps,hs,[],[]⟩)→wpAny (model prog w) A (dz c) Q' E' s:=by
    intro A s Q' E' hA D h
    exact simT_sound (j:=0) hk hA ih noCallH (.inl rfl) _ _ _ h D (fun z=>absurd rfl z)
   cases q:simT ⟨kt,⟨prog,w.params⟩,ro⟩ (simC ⟨kt,⟨prog,w.params⟩,ro⟩ n) (fun _ _=>.stop 12) (dz c) ⟨m,ps,hs,[],[]⟩ with
   | stop k=>rw [q] at e;cases res<;>cases e
   | err v s₁ =>
    rw [q] at e tree
    have hn:=evNil ⟨kt,⟨prog,w.params⟩,ro⟩ (simC ⟨kt,⟨prog,w.params⟩,ro⟩ n) (dz c) ⟨m,ps,hs,[],[]⟩ rfl rfl
    rw [q] at hn
    dsimp only [evIs] at hn
    cases res with
    | ok f=>cases e
    | error v' =>
     cases e
     have mono:=fine_mono (Q:=fun _ _=>True) (E:=fun _ _=>True) (k:=0) (kt:=kt) (st:=⟨prog,w.params⟩) (ro:=ro) (j:=0) ih noCallH (dz c) ⟨m,ps,hs,[],[]⟩ (by rw [q];exact⟨⟨ha,fun e he=>by rw [hn] at he;cases he⟩,fun _ _=>trivial⟩)
     refine⟨mono.1,fun A s R hA D h=>x_code ?_⟩
     rw [dz_eq]
     exact tree _ s _ _ hA D ⟨⟨ha,fun e he=>by rw [hn] at he;cases he⟩,h⟩
   | ok fin s₁ =>
    rw [q] at e tree
    have hn:=evNil ⟨kt,⟨prog,w.params⟩,ro⟩ (simC ⟨kt,⟨prog,w.params⟩,ro⟩ n) (dz c) ⟨m,ps,hs,[],[]⟩ rfl rfl
    rw [q] at hn
    dsimp only [evIs] at hn
    have mono:AllRefl s₁.ps→AllRefl ps:=fun ha=>(fine_mono (Q:=fun _ _=>True) (E:=fun _ _=>True) (k:=0) (kt:=kt) (st:=⟨prog,w.params⟩) (ro:=ro) (j:=0) ih noCallH (dz c) ⟨m,ps,hs,[],[]⟩ (by rw [q];exact⟨⟨ha,fun e he=>by rw [hn] at he;cases he⟩,fun _ _=>trivial⟩)).1
    cases fin with
    | done f =>
     cases res with
     | error v'=>cases e
     | ok f' =>
      cases e
      refine⟨mono ha,fun A s R hA D h=>x_code ?_⟩
      rw [dz_eq]
      exact tree _ s _ _ hA D ⟨⟨ha,fun e he=>by rw [hn] at he;cases he⟩,h⟩
    | again c' =>
     dsimp only at e
     cases hq:c'.quiet with
     | false=>rw [hq] at e;cases res<;>cases e
     | true =>
      rw [hq] at e
      have next:AllRefl s₁.ps∧∀(A:Around) (s:Shared) (R:Result→Shared→Prop),A.handled=none→Rep h₀ os s s₁.m→(∀ s',Rep h₀ os s' m'→R res s')→codeAny (model prog w) A c' R s:=by
       cases res with
       | ok f'=>exact ih.ok _ _ _ _ _ _ _ _ e ha
       | error v'=>exact ih.err _ _ _ _ _ _ _ _ e ha
      refine⟨mono next.1,fun A s R hA D h=>x_code ?_⟩
      rw [dz_eq]
      exact tree _ s _ _ hA D ⟨⟨next.1,fun e he=>by rw [hn] at he;cases he⟩,fun s' D'=>⟨hq,next.2 A s' R hA D' h⟩⟩
  exact⟨fun c m ps hs f m' ps' hs' e ha=>key c m ps hs (.ok f) m' ps' hs' e ha,fun c m ps hs f m' ps' hs' e ha=>key c m ps hs (.error f) m' ps' hs' e ha⟩
theorem AOk.mono {k k':Nat} {A:Around} (h:AOk k A) (hk:k≤k'):AOk k' A:=by
 obtain⟨a,b,d⟩:=h
 exact⟨a,by omega,by omega⟩
theorem AOk.light {k:Nat} {A:Around} {c:Code} (h:AOk k A) (hl:lightB c=true):AOk (k+1) (A.under c):=by
 obtain⟨h1,h2⟩:=Bool.and_eq_true_iff.mp hl
 have h1:=Nat.le_of_ble_eq_true h1
 have h2:=Nat.le_of_ble_eq_true h2
 obtain⟨a,b,d⟩:=h
 refine⟨a,?_,?_⟩
 ·show A.depth+c.weight≤_;omega
 ·show A.units+c.cUnits≤_;omega
theorem simH_ok (hk:kt.Holds h₀ 1 0∧Facts h₀ ro) (H:CallOk prog w h₀ os call):∀ n j,j+n≤k→CallHOk prog w h₀ os k j (simH ⟨kt,⟨prog,w.params⟩,ro⟩ call n):=by
 intro n
 induction n with
 | zero =>
  intro j _
  constructor
  ·intro c s f s' e;have e:RR.stop 13=_:=e;cases e
  ·intro c s f s' e;have e:RR.stop 13=_:=e;cases e
 | succ n ih =>
  intro j hj
  have ih1:=ih (j+1) (by exact ox4 ‹_›)
  have key:∀ c s (res:Result) s',simH ⟨kt,⟨prog,w.params⟩,ro⟩ call (n+1) c s=(match res with | .ok f=>.ok f s' | .error e=>.err e s')→StOk prog w h₀ os k s'→StOk prog w h₀ os k s ∧
    ∀(A:Around) (sh:Shared) (R:Result→Shared→Prop),AOk j A→Rep h₀ os sh s.m→(∀ sh',Rep h₀ os sh' s'.m→R res sh')→codeAny (model prog w) A c R sh:=by
   intro c s res s' e ha
   rw [sH_s] at e
   cases hl:lightB c with
   | false=>rw [hl] at e;cases res<;>cases e
   | true =>
    rw [hl] at e
    dsimp only at e
    have tree:∀(A:Around) (sh:Shared) (Q':PySem.Fin→Shared→Prop) (E':Value→Shared→Prop),AOk j A→Rep h₀ os sh s.m →
      Fine prog w h₀ os k Q' E' (simT ⟨kt,⟨prog,w.params⟩,ro⟩ call (simH ⟨kt,⟨prog,w.params⟩,ro⟩ call n) (dz c) s)→wpAny (model prog w) (A.under c) (dz c) Q' E' sh:=by
     intro A sh Q' E' hA D h
     have hA':=hA.light hl
     have hA'':=hA'.mono (k':=k) (by omega)
     exact simT_sound hk hA'.handled H ih1 (.inr ⟨hA',hA''⟩) _ _ _ h D fun _=>hA''
    cases q:simT ⟨kt,⟨prog,w.params⟩,ro⟩ call (simH ⟨kt,⟨prog,w.params⟩,ro⟩ call n) (dz c) s with
    | stop m=>rw [q] at e;cases res<;>cases e
    | err v s₁ =>
     rw [q] at e tree
     cases res with
     | ok f=>cases e
     | error v' =>
      cases e
      have mono:=fine_mono (Q:=fun _ _=>True) (E:=fun _ _=>True) (k:=k) (kt:=kt) (st:=⟨prog,w.params⟩) (ro:=ro) H ih1 (dz c) s (by rw [q];exact⟨ha,fun _ _=>trivial⟩)
      refine⟨mono,fun A sh R hA D h=>x_code ?_⟩
      rw [dz_eq]
      exact tree A sh _ _ hA D ⟨ha,h⟩
    | ok fin s₁ =>
     rw [q] at e tree
     have mono:StOk prog w h₀ os k s₁→StOk prog w h₀ os k s:=fun ha=>fine_mono (Q:=fun _ _=>True) (E:=fun _ _=>True) (k:=k) (kt:=kt) (st:=⟨prog,w.params⟩) (ro:=ro) H ih1 (dz c) s (by rw [q];exact⟨ha,fun _ _=>trivial⟩)
     cases fin with
     | done f =>
      cases res with
      | error v'=>cases e
      | ok f' =>
       cases e
       refine⟨mono ha,fun A sh R hA D h=>x_code ?_⟩
       rw [dz_eq]
       exact tree A sh _ _ hA D ⟨ha,h⟩
     | again c' =>
      dsimp only at e
      cases hq:c'.quiet with
      | false=>rw [hq] at e;cases res<;>cases e
      | true =>
       rw [hq] at e
       have ih0:=ih j (by exact ox5 ‹_›)
       have next:StOk prog w h₀ os k s₁∧∀(A:Around) (sh:Shared) (R:Result→Shared→Prop),AOk j A→Rep h₀ os sh s₁.m→(∀ sh',Rep h₀ os sh' s'.m→R res sh')→codeAny (model prog w) A c' R sh:=by
        cases res with
        | ok f'=>exact ih0.ok _ _ _ _ e ha
        | error v'=>exact ih0.err _ _ _ _ e ha
       refine⟨mono next.1,fun A sh R hA D h=>x_code ?_⟩
       rw [dz_eq]
       exact tree A sh _ _ hA D ⟨next.1,fun sh' D'=>⟨hq,next.2 A sh' R hA D' h⟩⟩
  exact⟨fun c s f s' e ha=>key c s (.ok f) s' e ha,fun c s f s' e ha=>key c s (.error f) s' e ha⟩
end
noncomputable abbrev P₀:Program:=PySem.Challenge.rw_rl0095_01.prog
noncomputable abbrev sO:String→Str:=Str.ofString
noncomputable def en (P:Params) (s:Str) (t:Nat) (v:Value):DictEntry:=⟨PyData.keyHash P s,.str s t,v⟩
noncomputable def topSt (i:Nat):Stmt:=P₀.main.body.getD i (.Pass default)
noncomputable def clsSt (i j:Nat):Stmt:=match topSt i with
 | .ClassDef _ _ _ b _ _ _ _ _ _ _=>b.getD j (.Pass default)
 | s=>s
noncomputable def fnO (s:Stmt) (qual:Str) (dflt pm:Value) (code:Nat):Obj:=match s with
 | .FunctionDef name args body _ _ _ scope _ _ _=>{ cls:=.type "function",data:=.func { name:=name,qualname:=qual,params:=args,body:=.stmts body,scope:=scope,globals:=3,closure:=[],defaults:=dflt,kwdefaults:=.none,pyModule:=pm,code:=.ref code } }
 | _=>default
noncomputable def o1 (P:Params):Obj:={ cls:=(.type "dict"),data:=.dict #[en P (sO "builtins") 162 (.ref 4),en P (sO "__main__") 163 (.ref 5),en P (sO "_sre") 244 (.ref 12)] 3 }
noncomputable def o2 (P:Params):Obj:={ cls:=.none,data:=.dict #[en P (sO "imp\x6frt.loaded._sre") 183 (.bool true),en P (sO "class._frozen_imp\x6frtlib.BuiltinImporter") 185 (.ref 14),en P (sO "watched.imp\x6frt") 206 (.ref 18),en P (sO "class._frozen_imp\x6frtlib.ModuleSpec") 216 (.ref 22),en P (sO "sys.modules.booked-epoch") 245 (.int (3) 0),en P (sO "imp\x6frt.later-laid._sre") 270 (.bool true),en P (sO "watched.library") 272 (.ref 27),en P (sO "watched.library-objects") 0 (.str (sO "\x0c") 0),en P (sO "watched.library-deep._sre") 273 (.str (sO "\x04\x00\x00\x0b\x04\x00\x00\x0b\x04\x00\x00\x03\x04\x00\x00\x0b\x08\x04dict\x02") 0)] 9 }
noncomputable def o3 (P:Params):Obj:={ cls:=(.type "dict"),data:=.dict #[en P (sO "__name__") 165 (.str (sO "law_rl0095_01") 650),en P (sO "__doc__") 166 .none,en P (sO "__package__") 167 .none,en P (sO "__loader__") 168 (.builtin "__main__.__loader__#opaque"),en P (sO "__spec__") 169 .none,en P (sO "__annotations__") 170 (.ref 6),en P (sO "__builtins__") 171 (.ref 4),en P (sO "__file__") 173 (.str (sO "/claim/cut.py") 172),en P (sO "__cached__") 174 .none,en P (sO "_sre") 275 (.ref 12),en P (sO "_wall") 288 (.ref 38),en P (sO "TupleComp") 332 (.ref 62),en P (sO "add_func_stats") 350 (.ref 73),en P (sO "add_callers") 361 (.ref 80),en P (sO "_twin_re_1") 379 (.ref 85),en P (sO "_twin_re_2") 421 (.ref 90),en P (sO "CRLF") 423 (.str (sO "\x0d\n") 422),en P (sO "quotedata") 430 (.ref 97),en P (sO "_name_disallowed_re") 458 (.ref 102),en P (sO "_value_disallowed_re") 492 (.ref 107),en P (sO "Headers") 649 (.ref 230),en P (sO "_law_numbers") 657 (.ref 239),en P (sO "_law_lists") 667 (.ref 246),en P (sO "_law_run") 684 (.ref 253),en P (sO "_law_due") 690 (.ref 258),en P (sO "_law_seated") 705 (.ref 265),en P (sO "_law_joined") 717 (.ref 272),en P (sO "law") 723 (.ref 277)] 28 }
noncomputable def o51 (_:Params):Obj:={ cls:=(.type "code"),data:=.fields #[(.str (sO "__init__") 303),(.str (sO "TupleComp.__init__") 304),(.str (sO "/claim/cut.py") 305),(.int (8) 0),(.int (2) 0),(.int (0) 0),(.int (0) 0),(.int (3) 0),(.ref 46),(.bool true),(.int (276) 0),(.ref 47),.none,(.ref 48),(.ref 49),(.ref 50),(.int (308) 0),(.int (8) 0),(.str (sO "/claim/cut.py") 309)] }
noncomputable def o52 (_:Params):Obj:=fnO (clsSt 3 0) (sO "TupleComp.__init__") .none (.str (sO "cpy313.pstats") 289) 51
noncomputable def o58 (_:Params):Obj:={ cls:=(.type "code"),data:=.fields #[(.str (sO "compare") 311),(.str (sO "TupleComp.compare") 312),(.str (sO "/claim/cut.py") 313),(.int (11) 0),(.int (3) 0),(.int (0) 0),(.int (0) 0),(.int (3) 0),(.ref 53),(.bool true),(.int (276) 0),(.ref 54),.none,(.ref 55),(.ref 56),(.ref 57),(.int (321) 0),(.int (11) 0),(.str (sO "/claim/cut.py") 322)] }
noncomputable def o59 (_:Params):Obj:=fnO (clsSt 3 1) (sO "TupleComp.compare") .none (.str (sO "cpy313.pstats") 289) 58
noncomputable def o61 (P:Params):Obj:={ cls:=(.type "dict"),data:=.dict #[en P (sO "__module__") 298 (.str (sO "cpy313.pstats") 289),en P (sO "__firstlineno__") 302 (.int (6) 301),en P (sO "__init__") 310 (.ref 52),en P (sO "compare") 323 (.ref 59),en P (sO "__static_attributes__") 325 (.ref 60),en P (sO "__dict__") 327 (.ref 63),en P (sO "__weakref__") 329 (.ref 64),en P (sO "__doc__") 330 .none] 4 }
noncomputable def o62 (_:Params):Obj:={ cls:=(.type "type"),data:=.cls { name:=(sO "TupleComp"),bases:=[(.type "object")],mro:=[(.ref 62),(.type "object")],ns:=61,qualname:=(sO "TupleComp"),hasDict:=true,slotNames:=[],subclasses:=[],abstract:=false,collection:=none,hasDel:=false },slots:=#[none,none,some (.str (sO "TupleComp") 291),some (.str (sO "TupleComp") 299),some (.builtin "object.__new__"),some (.bool true)] }
noncomputable def o72 (_:Params):Obj:={ cls:=(.type "code"),data:=.fields #[(.str (sO "add_func_stats") 333),(.str (sO "add_func_stats") 334),(.str (sO "/claim/cut.py") 335),(.int (20) 0),(.int (2) 0),(.int (0) 0),(.int (0) 0),(.int (3) 0),(.ref 67),(.bool true),(.int (276) 0),(.ref 68),.none,(.ref 69),(.ref 70),(.ref 71),(.int (348) 0),(.int (20) 0),(.str (sO "/claim/cut.py") 349)] }
noncomputable def o73 (_:Params):Obj:=fnO (topSt 4) (sO "add_func_stats") .none (.str (sO "cpy313.pstats") 289) 72
noncomputable def o79 (_:Params):Obj:={ cls:=(.type "code"),data:=.fields #[(.str (sO "add_callers") 351),(.str (sO "add_callers") 352),(.str (sO "/claim/cut.py") 353),(.int (24) 0),(.int (2) 0),(.int (0) 0),(.int (0) 0),(.int (3) 0),(.ref 74),(.bool true),(.int (276) 0),(.ref 75),.none,(.ref 76),(.ref 77),(.ref 78),(.int (359) 0),(.int (24) 0),(.str (sO "/claim/cut.py") 360)] }
noncomputable def o80 (_:Params):Obj:=fnO (topSt 5) (sO "add_callers") .none (.str (sO "cpy313.pstats") 289) 79
noncomputable def o84 (_:Params):Obj:={ cls:=(.type "tuple"),data:=.seq #[(.int (14) 0),(.int (4) 0),(.int (0) 0),(.int (1) 0),(.int (1) 0),(.int (6) 0),(.int (1) 0),(.int (16) 0),(.int (46) 0),(.int (1) 0)] 0 }
noncomputable def o85 (_:Params):Obj:={ cls:=(.type "re.Pattern"),data:=.fields #[(.str (sO "(?m)^\\.") 365),(.int (40) 378),(.int (0) 0),.none,.none,(.ref 84),(.int (0) 0)] }
noncomputable def o89 (_:Params):Obj:={ cls:=(.type "tuple"),data:=.seq #[(.int (14) 0),(.int (9) 0),(.int (4) 0),(.int (1) 0),(.int (2) 0),(.int (16) 0),(.int (10) 0),(.int (16) 0),(.int (13) 0),(.int (0) 0),(.int (7) 0),(.int (7) 0),(.int (16) 0),(.int (13) 0),(.int (16) 0),(.int (10) 0),(.int (15) 0),(.int (18) 0),(.int (5) 0),(.int (16) 0),(.int (10) 0),(.int (15) 0),(.int (13) 0),(.int (11) 0),(.int (16) 0),(.int (13) 0),(.int (5) 0),(.int (5) 0),(.int (0) 0),(.int (16) 0),(.int (10) 0),(.int (1) 0),(.int (15) 0),(.int (2) 0),(.int (0) 0),(.int (1) 0)] 0 }
noncomputable def o90 (_:Params):Obj:={ cls:=(.type "re.Pattern"),data:=.fields #[(.str (sO "(?:\\r\\n|\\n|\\r(?!\\n))") 381),(.int (32) 420),(.int (0) 0),.none,.none,(.ref 89),(.int (0) 0)] }
noncomputable def o96 (_:Params):Obj:={ cls:=(.type "code"),data:=.fields #[(.str (sO "quotedata") 424),(.str (sO "quotedata") 425),(.str (sO "/claim/cut.py") 426),(.int (41) 0),(.int (1) 0),(.int (0) 0),(.int (0) 0),(.int (3) 0),(.ref 91),(.bool true),(.int (276) 0),(.ref 92),.none,(.ref 93),(.ref 94),(.ref 95),(.int (428) 0),(.int (41) 0),(.str (sO "/claim/cut.py") 429)] }
noncomputable def o97 (_:Params):Obj:=fnO (topSt 10) (sO "quotedata") .none (.str (sO "cpy313.smtplib") 362) 96
noncomputable def o101 (_:Params):Obj:={ cls:=(.type "tuple"),data:=.seq #[(.int (14) 0),(.int (10) 0),(.int (4) 0),(.int (1) 0),(.int (1) 0),(.int (22) 0),(.int (0) 0),(.int (31) 0),(.int (16) 0),(.int (127) 0),(.int (0) 0),(.int (13) 0),(.int (7) 0),(.int (22) 0),(.int (0) 0),(.int (31) 0),(.int (16) 0),(.int (127) 0),(.int (0) 0),(.int (1) 0)] 0 }
noncomputable def o102 (_:Params):Obj:={ cls:=(.type "re.Pattern"),data:=.fields #[(.str (sO "[\\x00-\\x1F\\x7F]") 434),(.int (32) 457),(.int (0) 0),.none,.none,(.ref 101),(.int (0) 0)] }
noncomputable def o106 (_:Params):Obj:={ cls:=(.type "tuple"),data:=.seq #[(.int (14) 0),(.int (14) 0),(.int (4) 0),(.int (1) 0),(.int (1) 0),(.int (9) 0),(.int (4294966783) 0),(.int (0) 0),(.int (0) 0),(.int (2147483648) 0),(.int (0) 0),(.int (0) 0),(.int (0) 0),(.int (0) 0),(.int (0) 0),(.int (13) 0),(.int (11) 0),(.int (9) 0),(.int (4294966783) 0),(.int (0) 0),(.int (0) 0),(.int (2147483648) 0),(.int (0) 0),(.int (0) 0),(.int (0) 0),(.int (0) 0),(.int (0) 0),(.int (1) 0)] 0 }
noncomputable def o107 (_:Params):Obj:={ cls:=(.type "re.Pattern"),data:=.fields #[(.str (sO "[\\x00-\\x08\\x0A-\\x1F\\x7F]") 460),(.int (32) 491),(.int (0) 0),.none,.none,(.ref 106),(.int (0) 0)] }
noncomputable def o115 (_:Params):Obj:={ cls:=(.type "tuple"),data:=.seq #[.none] 0 }
noncomputable def o121 (_:Params):Obj:={ cls:=(.type "code"),data:=.fields #[(.str (sO "__init__") 505),(.str (sO "Headers.__init__") 506),(.str (sO "/claim/cut.py") 507),(.int (48) 0),(.int (2) 0),(.int (0) 0),(.int (0) 0),(.int (3) 0),(.ref 116),(.bool true),(.int (276) 0),(.ref 117),.none,(.ref 118),(.ref 119),(.ref 120),(.int (512) 0),(.int (48) 0),(.str (sO "/claim/cut.py") 513)] }
noncomputable def o122 (_:Params):Obj:=fnO (clsSt 14 0) (sO "Headers.__init__") (.ref 115) (.str (sO "cpy313.wsgiref.headers") 431) 121
noncomputable def o128 (_:Params):Obj:={ cls:=(.type "code"),data:=.fields #[(.str (sO "_convert_string_type") 515),(.str (sO "Headers._convert_string_type") 516),(.str (sO "/claim/cut.py") 517),(.int (58) 0),(.int (2) 0),(.int (0) 0),(.int (1) 0),(.int (3) 0),(.ref 123),(.bool true),(.int (276) 0),(.ref 124),.none,(.ref 125),(.ref 126),(.ref 127),(.int (522) 0),(.int (58) 0),(.str (sO "/claim/cut.py") 523)] }
noncomputable def o129 (_:Params):Obj:=fnO (clsSt 14 1) (sO "Headers._convert_string_type") .none (.str (sO "cpy313.wsgiref.headers") 431) 128
noncomputable def o142 (_:Params):Obj:={ cls:=(.type "code"),data:=.fields #[(.str (sO "__setitem__") 532),(.str (sO "Headers.__setitem__") 533),(.str (sO "/claim/cut.py") 534),(.int (69) 0),(.int (3) 0),(.int (0) 0),(.int (0) 0),(.int (3) 0),(.ref 137),(.bool true),(.int (276) 0),(.ref 138),.none,(.ref 139),(.ref 140),(.ref 141),(.int (538) 0),(.int (69) 0),(.str (sO "/claim/cut.py") 539)] }
noncomputable def o143 (_:Params):Obj:=fnO (clsSt 14 3) (sO "Headers.__setitem__") .none (.str (sO "cpy313.wsgiref.headers") 431) 142
noncomputable def o147 (_:Params):Obj:={ cls:=(.type "code"),data:=.fields #[(.str (sO "__delitem__") 541),(.str (sO "Headers.__delitem__") 542),(.str (sO "/claim/cut.py") 543),(.int (73) 0),(.int (2) 0),(.int (0) 0),(.int (0) 0),(.int (3) 0),(.ref 144),(.bool true),(.int (276) 0),(.ref 145),.none,.none,.none,(.ref 146),(.int (544) 0),(.int (73) 0),(.str (sO "/claim/cut.py") 545)] }
noncomputable def o148 (_:Params):Obj:=fnO (clsSt 14 4) (sO "Headers.__delitem__") .none (.str (sO "cpy313.wsgiref.headers") 431) 147
noncomputable def o170 (_:Params):Obj:={ cls:=(.type "tuple"),data:=.seq #[.none] 0 }
noncomputable def o176 (_:Params):Obj:={ cls:=(.type "code"),data:=.fields #[(.str (sO "get") 571),(.str (sO "Headers.get") 572),(.str (sO "/claim/cut.py") 573),(.int (86) 0),(.int (3) 0),(.int (0) 0),(.int (0) 0),(.int (3) 0),(.ref 171),(.bool true),(.int (276) 0),(.ref 172),.none,(.ref 173),(.ref 174),(.ref 175),(.int (579) 0),(.int (86) 0),(.str (sO "/claim/cut.py") 580)] }
noncomputable def o177 (_:Params):Obj:=fnO (clsSt 14 8) (sO "Headers.get") (.ref 170) (.str (sO "cpy313.wsgiref.headers") 431) 176
noncomputable def o193 (_:Params):Obj:={ cls:=(.type "code"),data:=.fields #[(.str (sO "items") 594),(.str (sO "Headers.items") 595),(.str (sO "/claim/cut.py") 596),(.int (99) 0),(.int (1) 0),(.int (0) 0),(.int (0) 0),(.int (3) 0),(.ref 188),(.bool true),(.int (276) 0),(.ref 189),.none,(.ref 190),(.ref 191),(.ref 192),(.int (598) 0),(.int (99) 0),(.str (sO "/claim/cut.py") 599)] }
noncomputable def o194 (_:Params):Obj:=fnO (clsSt 14 11) (sO "Headers.items") .none (.str (sO "cpy313.wsgiref.headers") 431) 193
noncomputable def o219 (_:Params):Obj:={ cls:=(.type "code"),data:=.fields #[(.str (sO "setdefault") 621),(.str (sO "Headers.setdefault") 622),(.str (sO "/claim/cut.py") 623),(.int (111) 0),(.int (3) 0),(.int (0) 0),(.int (0) 0),(.int (3) 0),(.ref 214),(.bool true),(.int (276) 0),(.ref 215),.none,(.ref 216),(.ref 217),(.ref 218),(.int (628) 0),(.int (111) 0),(.str (sO "/claim/cut.py") 629)] }
noncomputable def o220 (_:Params):Obj:=fnO (clsSt 14 15) (sO "Headers.setdefault") .none (.str (sO "cpy313.wsgiref.headers") 431) 219
noncomputable def o229 (P:Params):Obj:={ cls:=(.type "dict"),data:=.dict #[en P (sO "__module__") 500 (.str (sO "cpy313.wsgiref.headers") 431),en P (sO "__firstlineno__") 504 (.int (46) 503),en P (sO "__init__") 514 (.ref 122),en P (sO "_convert_string_type") 524 (.ref 129),en P (sO "__len__") 531 (.ref 136),en P (sO "__setitem__") 540 (.ref 143),en P (sO "__delitem__") 546 (.ref 148),en P (sO "__getitem__") 554 (.ref 155),en P (sO "__contains__") 562 (.ref 162),en P (sO "get_all") 570 (.ref 169),en P (sO "get") 581 (.ref 177),en P (sO "keys") 587 (.ref 182),en P (sO "values") 593 (.ref 187),en P (sO "items") 600 (.ref 194),en P (sO "__repr__") 607 (.ref 201),en P (sO "__str__") 613 (.ref 206),en P (sO "__bytes__") 620 (.ref 213),en P (sO "setdefault") 630 (.ref 220),en P (sO "add_header") 640 (.ref 227),en P (sO "__static_attributes__") 642 (.ref 228),en P (sO "__dict__") 644 (.ref 231),en P (sO "__weakref__") 646 (.ref 232),en P (sO "__doc__") 647 .none] 4 }
noncomputable def o230 (_:Params):Obj:={ cls:=(.type "type"),data:=.cls { name:=(sO "Headers"),bases:=[(.type "object")],mro:=[(.ref 230),(.type "object")],ns:=229,qualname:=(sO "Headers"),hasDict:=true,slotNames:=[],subclasses:=[],abstract:=false,collection:=none,hasDel:=false },slots:=#[none,none,some (.str (sO "Headers") 493),some (.str (sO "Headers") 501),some (.builtin "object.__new__"),some (.bool true)] }
noncomputable def o238 (_:Params):Obj:={ cls:=(.type "code"),data:=.fields #[(.str (sO "_law_numbers") 652),(.str (sO "_law_numbers") 653),(.str (sO "/claim/cut.py") 654),(.int (122) 0),(.int (1) 0),(.int (0) 0),(.int (0) 0),(.int (3) 0),(.ref 235),(.bool true),(.int (276) 0),(.ref 236),.none,.none,.none,(.ref 237),(.int (655) 0),(.int (122) 0),(.str (sO "/claim/cut.py") 656)] }
noncomputable def o239 (_:Params):Obj:=fnO (topSt 16) (sO "_law_numbers") .none (.str (sO "law_rl0095_01") 650) 238
noncomputable def o245 (_:Params):Obj:={ cls:=(.type "code"),data:=.fields #[(.str (sO "_law_lists") 658),(.str (sO "_law_lists") 659),(.str (sO "/claim/cut.py") 660),(.int (125) 0),(.int (1) 0),(.int (0) 0),(.int (0) 0),(.int (3) 0),(.ref 240),(.bool true),(.int (276) 0),(.ref 241),.none,(.ref 242),(.ref 243),(.ref 244),(.int (665) 0),(.int (125) 0),(.str (sO "/claim/cut.py") 666)] }
noncomputable def o246 (_:Params):Obj:=fnO (topSt 17) (sO "_law_lists") .none (.str (sO "law_rl0095_01") 650) 245
noncomputable def o252 (_:Params):Obj:={ cls:=(.type "code"),data:=.fields #[(.str (sO "_law_run") 668),(.str (sO "_law_run") 669),(.str (sO "/claim/cut.py") 670),(.int (131) 0),(.int (2) 0),(.int (0) 0),(.int (0) 0),(.int (3) 0),(.ref 247),(.bool true),(.int (276) 0),(.ref 248),.none,(.ref 249),(.ref 250),(.ref 251),(.int (682) 0),(.int (131) 0),(.str (sO "/claim/cut.py") 683)] }
noncomputable def o253 (_:Params):Obj:=fnO (topSt 18) (sO "_law_run") .none (.str (sO "law_rl0095_01") 650) 252
noncomputable def o257 (_:Params):Obj:={ cls:=(.type "code"),data:=.fields #[(.str (sO "_law_due") 685),(.str (sO "_law_due") 686),(.str (sO "/claim/cut.py") 687),(.int (145) 0),(.int (2) 0),(.int (0) 0),(.int (0) 0),(.int (3) 0),(.ref 254),(.bool true),(.int (276) 0),(.ref 255),.none,.none,.none,(.ref 256),(.int (688) 0),(.int (145) 0),(.str (sO "/claim/cut.py") 689)] }
noncomputable def o258 (_:Params):Obj:=fnO (topSt 19) (sO "_law_due") .none (.str (sO "law_rl0095_01") 650) 257
noncomputable def o264 (_:Params):Obj:={ cls:=(.type "code"),data:=.fields #[(.str (sO "_law_seated") 691),(.str (sO "_law_seated") 692),(.str (sO "/claim/cut.py") 693),(.int (156) 0),(.int (4) 0),(.int (0) 0),(.int (0) 0),(.int (3) 0),(.ref 259),(.bool true),(.int (276) 0),(.ref 260),.none,(.ref 261),(.ref 262),(.ref 263),(.int (703) 0),(.int (156) 0),(.str (sO "/claim/cut.py") 704)] }
noncomputable def o265 (_:Params):Obj:=fnO (topSt 20) (sO "_law_seated") .none (.str (sO "law_rl0095_01") 650) 264
noncomputable def o271 (_:Params):Obj:={ cls:=(.type "code"),data:=.fields #[(.str (sO "_law_joined") 706),(.str (sO "_law_joined") 707),(.str (sO "/claim/cut.py") 708),(.int (162) 0),(.int (3) 0),(.int (0) 0),(.int (0) 0),(.int (3) 0),(.ref 266),(.bool true),(.int (276) 0),(.ref 267),.none,(.ref 268),(.ref 269),(.ref 270),(.int (715) 0),(.int (162) 0),(.str (sO "/claim/cut.py") 716)] }
noncomputable def o272 (_:Params):Obj:=fnO (topSt 21) (sO "_law_joined") .none (.str (sO "law_rl0095_01") 650) 271
noncomputable def o276 (_:Params):Obj:={ cls:=(.type "code"),data:=.fields #[(.str (sO "law") 718),(.str (sO "law") 719),(.str (sO "/claim/cut.py") 720),(.int (165) 0),(.int (1) 0),(.int (0) 0),(.int (0) 0),(.int (3) 0),(.ref 273),(.bool true),(.int (276) 0),(.ref 274),.none,.none,.none,(.ref 275),(.int (721) 0),(.int (165) 0),(.str (sO "/claim/cut.py") 722)] }
noncomputable def o277 (_:Params):Obj:=fnO (topSt 22) (sO "law") .none (.str (sO "law_rl0095_01") 650) 276
noncomputable abbrev e:KT:=.nil
noncomputable abbrev n (v:Option Obj) (l r:KT):KT:=.node v l r
noncomputable def ktop (P:Params):KT:=(n (some (boot_o_0 P)) (n (some (o1 P)) (n (some (o3 P)) (n none (n none e (n none (n (some (o79 P)) (n (some (o143 P)) (n (some (o271 P)) e e) e) e) (n none e (n (some (o239 P)) e e)))) e) (n none (n none e (n (some (o51 P)) (n none (n (some (o147 P)) e e) e) (n (some (o115 P)) e e))) (n none (n none e (n (some (o107 P)) e e)) (n (some (o59 P)) (n none e (n (some (o219 P)) e e)) e)))) (n none (n none (n none (n none (n none (n (some (o129 P)) (n (some (o257 P)) e e) e) (n (some (o193 P)) e e)) (n (some (o97 P)) e e)) (n none e (n none (n (some (o177 P)) e e) e))) (n none (n none (n (some (o73 P)) (n none (n (some (o265 P)) e e) e) e) e) (n none (n (some (o89 P)) e e) (n (some (o121 P)) e e)))) (n none (n none (n none e (n (some (o101 P)) e (n (some (o229 P)) e e))) (n none (n (some (o85 P)) (n none (n (some (o277 P)) e e) e) e) (n none e (n (some (o245 P)) e e)))) (n none e (n (some (o61 P)) e (n none e (n (some (o253 P)) e e))))))) (n (some (o2 P)) (n none (n none (n none (n none (n none (n (some (o128 P)) e e) e) (n (some (o96 P)) e e)) (n none (n (some (o80 P)) (n none (n (some (o272 P)) e e) e) e) (n none (n (some (o176 P)) e e) e))) (n none (n none (n (some (o72 P)) (n none (n (some (o264 P)) e e) e) e) e) e)) (n none (n none e (n (some (o52 P)) (n (some (o84 P)) (n (some (o148 P)) (n (some (o276 P)) e e) e) e) e)) (n none e (n none (n none e (n (some (o220 P)) e e)) (n none e (n (some (o252 P)) e e)))))) (n none (n none (n none (n none (n none (n none (n (some (o258 P)) e e) e) (n (some (o194 P)) e e)) e) e) (n none (n none e (n (some (o106 P)) (n (some (o170 P)) e e) e)) (n (some (o58 P)) (n (some (o90 P)) e e) (n (some (o122 P)) e e)))) (n none (n none (n none e (n (some (o102 P)) e (n (some (o230 P)) e e))) (n none e (n none e (n (some (o246 P)) e e)))) (n none (n none (n none (n (some (o142 P)) e e) e) (n none e (n (some (o238 P)) e e))) (n (some (o62 P)) e e))))))
noncomputable def topK (P:Params):Frag:=[(0,boot_o_0 P),(1,o1 P),(2,o2 P),(3,o3 P),(51,o51 P),(52,o52 P),(58,o58 P),(59,o59 P),(61,o61 P),(62,o62 P),(72,o72 P),(73,o73 P),(79,o79 P),(80,o80 P),(84,o84 P),(85,o85 P),(89,o89 P),(90,o90 P),(96,o96 P),(97,o97 P),(101,o101 P),(102,o102 P),(106,o106 P),(107,o107 P),(115,o115 P),(121,o121 P),(122,o122 P),(128,o128 P),(129,o129 P),(142,o142 P),(143,o143 P),(147,o147 P),(148,o148 P),(170,o170 P),(176,o176 P),(177,o177 P),(193,o193 P),(194,o194 P),(219,o219 P),(220,o220 P),(229,o229 P),(230,o230 P),(238,o238 P),(239,o239 P),(245,o245 P),(246,o246 P),(252,o252 P),(253,o253 P),(257,o257 P),(258,o258 P),(264,o264 P),(265,o265 P),(271,o271 P),(272,o272 P),(276,o276 P),(277,o277 P)]
noncomputable def qv:Program:={ P₀ with main:={ P₀.main with body:=[topSt 22] } }
noncomputable def asT:List Nat:=[0,1,2,3,51,52,58,59,61,62,72,73,79,80,84,85,89,90,96,97,101,102,106,107,115,121,122,128,129,142,143,147,148,170,176,177,193,194,219,220,229,230,238,239,245,246,252,253,257,258,264,265,271,272,276,277]
noncomputable def lsT:List Str:=[sO "_sre",sO "_wall",sO "TupleComp",sO "add_func_stats",sO "add_callers",sO "_twin_re_1",sO "_twin_re_2",sO "CRLF",sO "quotedata",sO "_name_disallowed_re",sO "_value_disallowed_re",sO "Headers",sO "_law_numbers",sO "_law_lists",sO "_law_run",sO "_law_due",sO "_law_seated",sO "_law_joined"]
theorem asT_is (P:Params):asT=(topK P).map (·.1):=by kernel_rfl
theorem top_kt (P:Params):KT.of (topK P)=ktop P:=by kernel_rfl
theorem left_top:LeftO P₀ qv lsT (fun s=>xlAt qv [] s&&recOk [] s) (obsZ asT) (valZ topK 278 724) 4000:=fun w=>by
 show (openEnds treeTable P₀ w 4000).map _=_
 unfold openEnds fencedOpening topFrom
 rw [PySem.W.Fast.te14364793385576792824,PySem.W.Fast.te10274390034422433532,PySem.W.Fast.te14082659384304107361,PySem.W.Fast.te4187177175401517315]
 kernel_rfl
theorem said:PySem.Challenge.rw_rl0095_01.wellSaid=true:=(congrFun PySem.W.Fast.te9446332074065402090 _).trans (by kernel_rfl)
noncomputable abbrev cx (w:World) (ro:List (Nat×Obj)):Cx:=⟨ktop w.params,⟨P₀,w.params⟩,ro⟩
theorem facts_nil {h:Heap}:Facts h []:=fun _ hp=>nomatch hp
noncomputable def runC (w:World) (c:Code) (m:SM) (hs:List Nat) (an:List (SM→Result×SM)) (ro:List (Nat×Obj):=[]):RR Fin:=simT (cx w ro) (simC (cx w ro) 30) (simH (cx w ro) (simC (cx w ro) 30) 20) (dz c) ⟨m,[],hs,an,[]⟩
noncomputable def psOf {α:Type}:RR α→Ps
 | .ok _ s=>s.ps
 | .err _ s=>s.ps
 | .stop _=>[]
noncomputable def dup (ps:Ps):Ps:=ps.map fun p=>(p.2,p.2)
noncomputable def mOf {α:Type}:RR α→SM
 | .ok _ s=>s.m
 | .err _ s=>s.m
 | .stop _=>⟨[],0,0⟩
noncomputable def evOf {α:Type}:RR α→List Ev
 | .ok _ s=>s.ev
 | .err _ s=>s.ev
 | .stop _=>[]
noncomputable def valOf {α:Type}:RR α→Option (Except Value α)
 | .ok a _=>some (.ok a)
 | .err e _=>some (.error e)
 | .stop _=>none
noncomputable def pick (cells:List (Nat×Obj)):List Nat→List (Nat×Obj)
 | []=>[]
 | j::l=>match cells[j]? with
  | some p=>p::pick cells l
  | none=>pick cells l
noncomputable def keepC (is:List Nat) (k:Nat) (m:SM):SM:=⟨pick m.cells is++m.cells.drop k,m.sz,m.tk⟩
noncomputable def rises:Nat→List Nat→Nat→Bool
 | _,[],_=>true
 | lo,i::l,k=>Nat.ble lo i&&(Nat.blt i k&&rises (i+1) l k)
theorem refl_of_dup {ps:Ps} (h:ps=dup ps):AllRefl ps:=by
 intro p hp
 rw [h] at hp
 obtain⟨q,_,rfl⟩:=List.mem_map.mp hp
 rfl
structure Base (w:World) (h₀:Heap):Prop where
 kt:(ktop w.params).Holds h₀ 1 0
 nolimit:h₀.NoLimit
section
variable {w:World} {h₀:Heap} {os:OsState}
variable (w h₀ os) in
abbrev Spec (k:Nat) (c:Code) (m:SM) (r:Result) (m':SM):Prop:=SpecE P₀ w h₀ os k c m r m'
theorem pick_sub (cells:List (Nat×Obj)) (k:Nat):∀(is:List Nat) (lo:Nat),rises lo is k=true→(pick cells is++cells.drop k).Sublist (cells.drop (min lo k))
 | [],lo,_=>by
  show (cells.drop k).Sublist _
  exact List.drop_sublist_drop_left cells (Nat.min_le_right _ _)
 | i::l,lo,h=>by
  simp only [rises,Bool.and_eq_true] at h
  obtain⟨h1,h2,h3⟩:=h
  have h1:=Nat.le_of_ble_eq_true h1
  have h2:i < k:=blt_true h2
  have ih:=pick_sub cells k l (i+1) h3
  rw [Nat.min_eq_left (show i+1≤k from h2)] at ih
  have hlo:min lo k≤i:=Nat.le_trans (Nat.min_le_left _ _) h1
  unfold pick
  cases q:cells[i]? with
  | none=>exact ih.trans (List.drop_sublist_drop_left cells (Nat.le_succ_of_le hlo))
  | some p =>
   obtain⟨hl,he⟩:=List.getElem?_eq_some_iff.mp q
   have:(p::(pick cells l++cells.drop k)).Sublist (cells.drop i):=by
    rw [List.drop_eq_getElem_cons hl,he]
    exact ih.cons₂ p
   exact this.trans (List.drop_sublist_drop_left cells hlo)
theorem Rep.sub {s:Shared} {m m':SM} (D:Rep h₀ os s m) (h:m'.cells.Sublist m.cells) (h1:m'.sz=m.sz) (h2:m'.tk=m.tk):Rep h₀ os s m' :=
 ⟨D.keep,fun p hp=>D.cell p (h.subset hp),D.nodup.sublist (h.map _),D.size.trans h1.symm,D.toks.trans h2.symm,D.gens,D.os⟩
theorem Rep.kept {s:Shared} {m:SM} {is:List Nat} {k:Nat} (D:Rep h₀ os s m) (h:rises 0 is k=true):Rep h₀ os s (keepC is k m) :=
 D.sub (by have:=pick_sub m.cells k is 0 h;rwa [Nat.zero_min,List.drop_zero] at this) rfl rfl
theorem Rep.perm {s:Shared} {m m':SM} (D:Rep h₀ os s m) (h:m.cells.Perm m'.cells) (h1:m'.sz=m.sz) (h2:m'.tk=m.tk):Rep h₀ os s m' :=
 ⟨D.keep,fun p hp=>D.cell p (h.mem_iff.mpr hp),((h.map (·.1)).nodup_iff).mp D.nodup,D.size.trans h1.symm,D.toks.trans h2.symm,D.gens,D.os⟩
theorem SpecE.pre {k:Nat} {c:Code} {m m1 m':SM} {r:Result} (h:Spec w h₀ os k c m r m') (hp:m1.cells.Perm m.cells) (h1:m1.sz=m.sz) (h2:m1.tk=m.tk):Spec w h₀ os k c m1 r m' :=
 fun A s R hA D q=>h A s R hA (D.perm hp h1.symm h2.symm) q
theorem SpecE.post {k:Nat} {c:Code} {m m1 m':SM} {r:Result} (h:Spec w h₀ os k c m r m') (hp:m'.cells.Perm m1.cells) (h1:m1.sz=m'.sz) (h2:m1.tk=m'.tk):Spec w h₀ os k c m r m1 :=
 fun A s R hA D q=>h A s R hA D fun s' D'=>q s' (D'.perm hp h1 h2)
theorem SpecE.less {k:Nat} {c:Code} {m m1 m':SM} {r:Result} (h:Spec w h₀ os k c m r m') (hp:m1.cells.Sublist m'.cells) (h1:m1.sz=m'.sz) (h2:m1.tk=m'.tk):Spec w h₀ os k c m r m1 :=
 fun A s R hA D q=>h A s R hA D fun s' D'=>q s' (D'.sub hp h1 h2)
theorem spec_done (B:Base w h₀) {k:Nat} {c:Code} {m m':SM} {hs:List Nat} {an:List (SM→Result×SM)} {f:Flow} {is:List Nat} {kk:Nat} {ro:List (Nat×Obj)}
  (e:valOf (runC w c m hs an ro)=some (.ok (.done f))∧psOf (runC w c m hs an ro)=dup (psOf (runC w c m hs an ro))∧keepC is kk (mOf (runC w c m hs an ro))=m')
  (hev:∀ x∈evOf (runC w c m hs an ro),EvOk P₀ w h₀ os (k+21) x)
  (hi:rises 0 is kk=true:=by rfl) (hl:lightB c=true:=by rfl) (hF:Facts h₀ ro:=by first | exact facts_nil | assumption):Spec w h₀ os k c m (.ok f) m':=by
 obtain⟨e1,e2,e3⟩:=e
 intro A s R hA D q
 refine x_code ?_
 rw [dz_eq]
 have hA1:=hA.light hl
 have hA2:=hA1.mono (k':=k+21) (by omega)
 refine simT_sound (k:=k+21) (A:=A.under c) ⟨B.kt,hF⟩ hA.handled (simC_ok ⟨B.kt,hF⟩ 30) (simH_ok ⟨B.kt,hF⟩ (simC_ok ⟨B.kt,hF⟩ 30) 20 (k+1) (by exact Nat.le_refl _)) (.inr ⟨hA1,hA2⟩) (dz c) ⟨m,[],hs,an,[]⟩ s ?_ D fun _=>hA2
 change Fine P₀ w h₀ os (k+21) _ _ (runC w c m hs an ro)
 cases z:runC w c m hs an ro with
 | stop n=>rw [z] at e1;cases e1
 | err v st=>rw [z] at e1;cases e1
 | ok fin st =>
  rw [z] at e1 e2 e3 hev
  obtain rfl:fin=.done f:=by simpa [valOf] using e1
  subst e3
  exact⟨⟨refl_of_dup e2,hev⟩,fun s' D'=>q s' (D'.kept hi)⟩
theorem spec_again (B:Base w h₀) {k:Nat} {c c':Code} {m m' m'':SM} {hs:List Nat} {an:List (SM→Result×SM)} {r:Result} {is:List Nat} {kk:Nat} {ro:List (Nat×Obj)}
  (e:valOf (runC w c m hs an ro)=some (.ok (.again c'))∧psOf (runC w c m hs an ro)=dup (psOf (runC w c m hs an ro))∧keepC is kk (mOf (runC w c m hs an ro))=m')
  (hev:∀ x∈evOf (runC w c m hs an ro),EvOk P₀ w h₀ os (k+21) x) (hq:c'.quiet=true) (h:Spec w h₀ os k c' m' r m'')
  (hi:rises 0 is kk=true:=by rfl) (hl:lightB c=true:=by rfl) (hF:Facts h₀ ro:=by first | exact facts_nil | assumption):Spec w h₀ os k c m r m'':=by
 obtain⟨e1,e2,e3⟩:=e
 intro A s R hA D q
 refine x_code ?_
 rw [dz_eq]
 have hA1:=hA.light hl
 have hA2:=hA1.mono (k':=k+21) (by omega)
 refine simT_sound (k:=k+21) (A:=A.under c) ⟨B.kt,hF⟩ hA.handled (simC_ok ⟨B.kt,hF⟩ 30) (simH_ok ⟨B.kt,hF⟩ (simC_ok ⟨B.kt,hF⟩ 30) 20 (k+1) (by exact Nat.le_refl _)) (.inr ⟨hA1,hA2⟩) (dz c) ⟨m,[],hs,an,[]⟩ s ?_ D fun _=>hA2
 change Fine P₀ w h₀ os (k+21) _ _ (runC w c m hs an ro)
 cases z:runC w c m hs an ro with
 | stop n=>rw [z] at e1;cases e1
 | err v st=>rw [z] at e1;cases e1
 | ok fin st =>
  rw [z] at e1 e2 e3 hev
  obtain rfl:fin=.again c':=by simpa [valOf] using e1
  subst e3
  exact⟨⟨refl_of_dup e2,hev⟩,fun s' D'=>⟨hq,h A s' R hA (D'.kept hi) q⟩⟩
noncomputable abbrev bindZ:FuncData→Args→Sem (List (Str×Value)):=PySem.W.ZFast.zw9782568553167038054
noncomputable abbrev envZ (scope:Scope) (globals:Addr) (closure:List (Str×Addr)) (binds:List (Str×Value)) (qual:Str) (func:Option Addr) (code:Value) (around:Option Env) (builtins:Addr):Sem Env:=PySem.W.ZFast.zw11113344188204177931 scope globals closure binds qual func code around builtins
noncomputable def runT (w:World) {α:Type} (t:Sem α) (m:SM) (hs:List Nat):RR α:=simT (cx w []) (simC (cx w []) 30) (fun _ _=>.stop 12) t ⟨m,[],hs,[],[]⟩
theorem runT_wp (B:Base w h₀) {α:Type} {t:Sem α} {m m':SM} {hs:List Nat} {a:α} {A:Around} {s:Shared} {Q:α→Shared→Prop} {E:Value→Shared→Prop}
  (e:valOf (runT w t m hs)=some (.ok a)∧psOf (runT w t m hs)=dup (psOf (runT w t m hs))∧mOf (runT w t m hs)=m') (hA:A.handled=none) (D:Rep h₀ os s m) (q:∀ s',Rep h₀ os s' m'→Q a s') :
  wpAny (model P₀ w) A t Q E s:=by
 obtain⟨e1,e2,e3⟩:=e
 refine simT_sound (k:=0) (j:=0) ⟨B.kt,facts_nil⟩ hA (simC_ok ⟨B.kt,facts_nil⟩ 30) noCallH (.inl rfl) t ⟨m,[],hs,[],[]⟩ s ?_ D fun z=>absurd rfl z
 change Fine P₀ w h₀ os 0 _ _ (runT w t m hs)
 have hn:=evNil (cx w []) (simC (cx w []) 30) t ⟨m,[],hs,[],[]⟩ rfl rfl
 change evIs (runT w t m hs) at hn
 cases z:runT w t m hs with
 | stop n=>rw [z] at e1;cases e1
 | err v st=>rw [z] at e1;cases e1
 | ok b st =>
  rw [z] at e1 e2 e3 hn
  obtain rfl:b=a:=by simpa [valOf] using e1
  subst e3
  dsimp only [evIs] at hn
  exact⟨⟨refl_of_dup e2,fun x hx=>by rw [hn] at hx;cases hx⟩,q⟩
end
noncomputable def fdAt (w:World) (a:Nat):FuncData:=match (ktop w.params).get a with
 | some ⟨_,_,.func fd,_⟩=>fd
 | _=>default
noncomputable def bodyOf (fd:FuncData):List Stmt:=match fd.body with
 | .stmts b=>b
 | _=>[]
noncomputable def codeRecOk (w:World) (fd:FuncData):Bool:=match fd.code with
 | .ref c=>match (ktop w.params).get c with
  | some ⟨_,_,.fields vs,_⟩=>match vs[1]? with
   | some (Value.str q _)=>decide (q=fd.qualname)
   | _=>false
  | _=>false
 | _=>false
noncomputable def fnOk (w:World) (a:Nat):Bool:=match (ktop w.params).get a with
 | some ⟨_,_,.func fd,_⟩=>!fd.scope.isCoroutine&&(!fd.scope.isGenerator&&((match fd.body with | .stmts _=>true | _=>false)&&codeRecOk w fd))
 | _=>false
noncomputable abbrev envAt (w:World) (a L:Nat):Env :=
 { scope:=(fdAt w a).scope,locals:=L,globals:=3,cells:=[],qual:=(fdAt w a).qualname++sO ".<locals>.",func:=some a,code:=(fdAt w a).code,frame:=some L,builtins:=0 }
noncomputable def kz (P:Params) (s:Str):Int:=PySem.W.ZFast.zw12210062019545310541 (P.strHash s.cps)
noncomputable def ez (P:Params) (s:Str) (t:Nat) (v:Value):DictEntry:=⟨kz P s,.str s t,v⟩
noncomputable def ents (P:Params):Nat→List (Str×Value)→List DictEntry
 | _,[]=>[]
 | t,(x,v)::r=>ez P x t v::ents P (t+1) r
noncomputable def frO (P:Params) (t:Nat) (binds:List (Str×Value)):Obj:={ cls:=.type "frame",data:=.dict (ents P t binds).toArray binds.length }
section
variable {w:World} {h₀:Heap} {os:OsState}
theorem spec_fn (B:Base w h₀) {k a:Nat} {args:Args} {m m1 m2 m':SM} {r:Result} {hs1 hs2:List Nat} {binds:List (Str×Value)} {env:Env}
  (hf:fnOk w a=true)
  (e1:valOf (runT w (bindZ (fdAt w a) args) m hs1)=some (.ok binds)∧psOf (runT w (bindZ (fdAt w a) args) m hs1)=dup (psOf (runT w (bindZ (fdAt w a) args) m hs1))∧mOf (runT w (bindZ (fdAt w a) args) m hs1)=m1)
  (e2:valOf (runT w (envZ (fdAt w a).scope (fdAt w a).globals (fdAt w a).closure binds ((fdAt w a).qualname++sO ".<locals>.") (some a) (fdAt w a).code none (fdAt w a).builtins) m1 hs2)=some (.ok env) ∧
   psOf (runT w (envZ (fdAt w a).scope (fdAt w a).globals (fdAt w a).closure binds ((fdAt w a).qualname++sO ".<locals>.") (some a) (fdAt w a).code none (fdAt w a).builtins) m1 hs2) =
    dup (psOf (runT w (envZ (fdAt w a).scope (fdAt w a).globals (fdAt w a).closure binds ((fdAt w a).qualname++sO ".<locals>.") (some a) (fdAt w a).code none (fdAt w a).builtins) m1 hs2)) ∧
   mOf (runT w (envZ (fdAt w a).scope (fdAt w a).globals (fdAt w a).closure binds ((fdAt w a).qualname++sO ".<locals>.") (some a) (fdAt w a).code none (fdAt w a).builtins) m1 hs2)=m2)
  (h:Spec w h₀ os k (.func (bodyOf (fdAt w a)) env) m2 r m') (hk:k≤200:=by decide):Spec w h₀ os k (.call (.ref a) args) m r m':=by
 intro A s R hA D q
 unfold fnOk at hf
 split at hf
 ·rename_i oc od fd sl hkt
  have hfd:fdAt w a=fd:=by unfold fdAt;rw [hkt]
  rw [hfd] at e1 e2 h
  simp only [Bool.and_eq_true,Bool.not_eq_true'] at hf
  obtain⟨f1,f2,f3,f4⟩:=hf
  have hb:fd.body=.stmts (bodyOf fd):=by
   unfold bodyOf
   cases hq:fd.body with
   | stmts b=>rfl
   | expr b=>rw [hq] at f3;cases f3
  have hcd:s.heap.CodeRec fd.code fd.qualname:=by
   unfold codeRecOk at f4
   split at f4
   ·rename_i c hc
    split at f4
    ·rename_i vs _ hkc
     split at f4
     ·rename_i q' tq hv
      have:q'=fd.qualname:=of_decide_eq_true f4
      subst this
      exact⟨c,_,vs,tq,hc,D.keep _ _ (kt_at B.kt hkc),rfl,hv⟩
     ·cases f4
    ·cases f4
   ·cases f4
  refine codeAny_call_function (by have:=hA.depth;show A.depth < 1000;omega) (D.keep _ _ (kt_at B.kt hkt)) rfl f1 f2 hb hcd ?_
  have hA1:A.in1.handled=none:=hA.handled
  rw [PySem.W.ZFast.ze9782568553167038054,PySem.W.ZFast.ze11113344188204177931]
  refine runT_wp B e1 hA1 D fun s1 D1=>?_
  refine runT_wp B e2 hA1 D1 fun s2 D2=>⟨B.nolimit.keeps D2.keep,h A s2 R hA D2 q⟩
 ·cases hf
end
noncomputable def tupO (vs:List Value):Obj:={ cls:=.type "tuple",data:=.seq vs.toArray }
noncomputable def lstO (vs:List Value) (n:Nat):Obj:={ cls:=.type "list",data:=.seq vs.toArray n }
noncomputable def dctO (es:List DictEntry) (n:Nat):Obj:={ cls:=.type "dict",data:=.dict es.toArray n }
noncomputable def frD (es:List DictEntry) (n:Nat):Obj:={ cls:=.type "frame",data:=.dict es.toArray n }
noncomputable def fldO (c:String) (vs:List Value):Obj:={ cls:=.type c,data:=.fields vs.toArray }
noncomputable def insO (c d:Nat):Obj:={ cls:=.ref c,dict:=some d,data:=.plain }
noncomputable abbrev Ans:=SM→Result×SM
noncomputable def aStr (s:Str):Ans:=fun m=>(.ok (.ret (.str s m.tk)),⟨m.cells,m.sz,m.tk+1⟩)
noncomputable def aInt (i:Int):Ans:=fun m=>(.ok (.ret (.int i m.tk)),⟨m.cells,m.sz,m.tk+1⟩)
noncomputable def aVal (v:Value) (dz dt:Nat):Ans:=fun m=>(.ok (.ret v),⟨m.cells,m.sz+dz,m.tk+dt⟩)
noncomputable def mkEv (c:Code) (g:Ans) (m:SM):Ev:=⟨c,m,(g m).1,(g m).2⟩
noncomputable def mE {α:Type} (R:RR α) (i:Nat):SM:=match (evOf R).reverse[i]? with
 | some e=>e.m
 | none=>⟨[],0,0⟩
noncomputable def evsIs {α:Type} (R:RR α):Nat→List (Code×Ans)→List Ev
 | _,[]=>[]
 | i,(c,g)::l=>mkEv c g (mE R i)::evsIs R (i+1) l
noncomputable def sep:List Nat→List (Nat×Obj)→List (Nat×Obj)×List (Nat×Obj)
 | [],cells=>([],cells)
 | g::gs,cells=>match cells.drop g with
  | []=>([],cells)
  | p::l=>(p::(sep gs l).1,cells.take g++(sep gs l).2)
theorem sep_perm:∀(gs:List Nat) (cells:List (Nat×Obj)),cells.Perm ((sep gs cells).1++(sep gs cells).2)
 | [],cells=>by simp only [sep];exact List.Perm.refl _
 | g::gs,cells=>by
  unfold sep
  split
  ·exact List.Perm.refl _
  ·rename_i p l e
   have h:=sep_perm gs l
   have:cells=cells.take g++p::l:=by rw [← e,List.take_append_drop]
   show cells.Perm (p::((sep gs l).1++(cells.take g++(sep gs l).2)))
   have h2:(cells.take g++l).Perm ((sep gs l).1++(cells.take g++(sep gs l).2)):=by
    refine (List.Perm.append_left _ h).trans ?_
    rw [← List.append_assoc,← List.append_assoc]
    exact List.Perm.append_right _ List.perm_append_comm
   have h3:cells.Perm (p::(cells.take g++l)):=(List.Perm.of_eq this).trans List.perm_middle
   exact h3.trans (h2.cons p)
noncomputable def aFr (r:Result) (T':List (Nat×Obj)) (is:List Nat) (sz tk:Nat):Ans:=fun m=>(r,⟨T'++(sep is m.cells).2,sz,tk⟩)
noncomputable def EvAll (w:World) (h₀:Heap) (os:OsState) (k:Nat) {α:Type} (R:RR α):Nat→List (Code×Ans)→Prop
 | _,[]=>True
 | i,(c,g)::l=>Spec w h₀ os k c (mE R i) (g (mE R i)).1 (g (mE R i)).2∧EvAll w h₀ os k R (i+1) l
section
variable {w:World} {h₀:Heap} {os:OsState}
theorem ev_all {k:Nat} {α:Type} {R:RR α}:∀(l:List (Code×Ans)) (i:Nat),EvAll w h₀ os k R i l→∀ x∈evsIs R i l,EvOk P₀ w h₀ os k x
 | [],_,_,_,hx=>nomatch hx
 | (c,g)::l,i,h,x,hx=>by
  rcases List.mem_cons.mp hx with rfl | hx
  ·exact h.1
  ·exact ev_all l (i+1) h.2 x hx
theorem ev_of {k:Nat} {α:Type} {R:RR α} {l:List (Code×Ans)} (e:(evOf R).reverse=evsIs R 0 l) (h:EvAll w h₀ os k R 0 l):∀ x∈evOf R,EvOk P₀ w h₀ os k x :=
 fun x hx=>ev_all l 0 h x (by rw [← e];exact List.mem_reverse.mpr hx)
theorem spec_frame {k:Nat} {c:Code} {r:Result} {T T':List (Nat×Obj)} {m:SM} {is:List Nat} {sz tk:Nat} (h:Spec w h₀ os k c ⟨T++(sep is m.cells).2,m.sz,m.tk⟩ r ⟨T'++(sep is m.cells).2,sz,tk⟩) (e:(sep is m.cells).1=T) :
  Spec w h₀ os k c m (aFr r T' is sz tk m).1 (aFr r T' is sz tk m).2 :=
 h.pre (by have:=sep_perm is m.cells;rw [e] at this;exact this) rfl rfl
end
noncomputable def runP (w:World) (c:Code) (m:SM) (hs:List Nat) (ro:List (Nat×Obj):=[]):RC:=simC (cx w ro) 30 c m [] hs
noncomputable def psC:RC→Ps
 | .ok _ _ ps _=>ps
 | .err _ _ ps _=>ps
 | .stop _=>[]
noncomputable def mC:RC→SM
 | .ok _ m _ _=>m
 | .err _ m _ _=>m
 | .stop _=>⟨[],0,0⟩
noncomputable def valC:RC→Option Result
 | .ok f _ _ _=>some (.ok f)
 | .err e _ _ _=>some (.error e)
 | .stop _=>none
theorem spec_plain {w:World} {h₀:Heap} {os:OsState} (B:Base w h₀) {k:Nat} {c:Code} {m m':SM} {hs:List Nat} {r:Result} {is:List Nat} {kk:Nat} {ro:List (Nat×Obj)}
  (e:valC (runP w c m hs ro)=some r∧psC (runP w c m hs ro)=dup (psC (runP w c m hs ro))∧keepC is kk (mC (runP w c m hs ro))=m') (hi:rises 0 is kk=true:=by rfl) (hF:Facts h₀ ro:=by first | exact facts_nil | assumption):Spec w h₀ os k c m r m':=by
 obtain⟨e1,e2,e3⟩:=e
 intro A s R hA D q
 have H:=simC_ok (prog:=P₀) (w:=w) (os:=os) ⟨B.kt,hF⟩ 30
 cases z:runP w c m hs ro with
 | stop n=>rw [z] at e1;cases e1
 | ok f m1 ps hs' =>
  rw [z] at e1 e2 e3
  obtain rfl:(Except.ok f:Result)=r:=by simpa [valC] using e1
  subst e3
  exact (H.ok _ _ _ _ _ _ _ _ z (refl_of_dup e2)).2 A s R hA.handled D fun s' D'=>q s' (D'.kept hi)
 | err v m1 ps hs' =>
  rw [z] at e1 e2 e3
  obtain rfl:(Except.error v:Result)=r:=by simpa [valC] using e1
  subst e3
  exact (H.err _ _ _ _ _ _ _ _ z (refl_of_dup e2)).2 A s R hA.handled D fun s' D'=>q s' (D'.kept hi)
structure Hd where
 a:Nat
 k:Str
 u:Nat
 v:Str
 z:Nat
noncomputable def Hd.cell (h:Hd):Nat×Obj:=(h.a,tupO [.str h.k h.u,.str h.v h.z])
noncomputable def tabC (w:World) (x dx th l ep:Nat) (hs:List Hd):List (Nat×Obj) :=
 (x,insO 230 dx)::(dx,dctO [ez w.params (sO "_headers") th (.ref l)] 1)::(l,lstO (hs.map fun h=>.ref h.a) ep)::hs.map Hd.cell
noncomputable def runH (w:World) (c:Code) (m:SM) (hs:List Nat) (an:List Ans) (ro:List (Nat×Obj):=[]):RR Flow:=simH (cx w ro) (simC (cx w ro) 30) 20 c ⟨m,[],hs,an,[]⟩
theorem spec_h {w:World} {h₀:Heap} {os:OsState} (B:Base w h₀) {k:Nat} {c:Code} {m m':SM} {hs:List Nat} {an:List Ans} {f:Flow} {is:List Nat} {kk:Nat} {ro:List (Nat×Obj)}
  (e:valOf (runH w c m hs an ro)=some (.ok f)∧psOf (runH w c m hs an ro)=dup (psOf (runH w c m hs an ro))∧keepC is kk (mOf (runH w c m hs an ro))=m')
  (hev:∀ x∈evOf (runH w c m hs an ro),EvOk P₀ w h₀ os (k+20) x) (hi:rises 0 is kk=true:=by rfl) (hF:Facts h₀ ro:=by first | exact facts_nil | assumption):Spec w h₀ os k c m (.ok f) m':=by
 obtain⟨e1,e2,e3⟩:=e
 intro A s R hA D q
 have H:=simH_ok (k:=k+20) (prog:=P₀) (w:=w) (os:=os) ⟨B.kt,hF⟩ (simC_ok ⟨B.kt,hF⟩ 30) 20 k (Nat.le_refl _)
 cases z:runH w c m hs an ro with
 | stop n=>rw [z] at e1;cases e1
 | err v st=>rw [z] at e1;cases e1
 | ok f' st =>
  rw [z] at e1 e2 e3 hev
  obtain rfl:f'=f:=by simpa [valOf] using e1
  subst e3
  exact (H.ok _ _ _ _ z ⟨refl_of_dup e2,hev⟩).2 A s R hA D fun s' D'=>q s' (D'.kept hi)
noncomputable def celO (v:Option Value):Obj:={ cls:=.type "cell",data:=.cell v }
noncomputable abbrev envC (w:World) (a L:Nat) (cells:List (Str×Nat)):Env:={ envAt w a L with cells:=cells }
noncomputable def twice (w:World) (h1 h2:List Nat):List Nat:=match w.params.followText "comprehension-iter-twice" with
 | true=>h1
 | false=>h2
theorem spec_fr {w:World} {h₀:Heap} {os:OsState} {k:Nat} {c:Code} {r:Result} {T T':List (Nat×Obj)} {m:SM} {is:List Nat} {sz tk n1 t1:Nat} (hz:m.sz=n1) (ht:m.tk=t1) (e:(sep is m.cells).1=T)
  (h:Spec w h₀ os k c ⟨T++(sep is m.cells).2,n1,t1⟩ r ⟨T'++(sep is m.cells).2,sz,tk⟩):Spec w h₀ os k c m (aFr r T' is sz tk m).1 (aFr r T' is sz tk m).2:=by
 subst hz ht
 exact spec_frame h e
noncomputable def stAt (b:List Stmt) (i:Nat):Stmt:=match b[i]? with
 | some s=>s
 | none=>.Pass default
noncomputable def forB:Stmt→List Stmt
 | .For _ _ b _ _=>b
 | _=>[]
noncomputable def loopC (s:Stmt) (it:Value) (env:Env):Code:=match s with
 | .For t _ b o _=>.forLoop t it b o env
 | _=>.block [] env
noncomputable def compX:Stmt→Expr
 | .Assign _ e _=>e
 | _=>.Name (sO "") default
noncomputable def scopeX:Expr→Scope
 | .ListComp _ _ s _=>s
 | .DictComp _ _ _ s _=>s
 | _=>default
noncomputable def envQ (w:World) (a L:Nat) (e:Expr) (F:Nat) (cells:List (Str×Nat)):Env :=
 { scope:={ scopeX e with names:=(scopeX e).names.map fun x=>match x.2 with
   | .free=>(x.1,.cell)
   | k=>(x.1,k) },locals:=F,globals:=3,cells,qual:=(fdAt w a).qualname++sO ".<locals>.",func:=none,code:=(fdAt w a).code,frame:=some L,builtins:=0 }
noncomputable def compS (e:Expr) (it acc:Value) (env:Env):Code:=.compStart e 0 it acc env
noncomputable def compL (e:Expr) (it acc:Value) (env:Env):Code:=.compLoop e 0 it acc env
abbrev RT3 {α:Type} (X:RR α) (r:Except Value α) (m:SM):Prop:=valOf X=some r∧psOf X=dup (psOf X)∧mOf X=m
local macro_rules | `(tactic| walk_at "r")=>`(tactic| (refine byRow2 "special-get-raises" ?_ ?_<;>(intros;exact⟨by kernel_rfl,by kernel_rfl,by kernel_rfl,by kernel_rfl⟩)))
theorem up {k a b:Nat} (h:k≤a) (e:a+21≤b:=by decide):k+21≤b:=Nat.le_trans (Nat.add_le_add_right h 21) e
theorem conv_inT {w:World} {h₀:Heap} {os:OsState} (B:Base w h₀) {k:Nat} (hk:k≤200) (x tv:Nat) (s:Str) (n t:Nat) (rest:List (Nat×Obj)) {r:Result} {m':SM}
  (h:Spec w h₀ os k (.func (bodyOf (fdAt w 129)) (envAt w 129 n)) ⟨(n,frO w.params t [((sO "self"),(.ref x)),((sO "value"),(.str s tv)),((sO "name"),(.bool true))])::rest,n+1,t+3⟩ r m') :
  Spec w h₀ os k (.call (.ref 129) ⟨[.ref x,.str s tv],[(sO "name",.bool true)]⟩) ⟨rest,n,t⟩ r m' :=
 spec_fn B (by kernel_rfl) (show RT3 (runT w (bindZ (fdAt w 129) ⟨[.ref x,.str s tv],[(sO "name",.bool true)]⟩) ⟨rest,n,t⟩ []) (.ok [((sO "self"),(.ref x)),((sO "value"),(.str s tv)),((sO "name"),(.bool true))]) ⟨rest,n,t⟩ from⟨by kernel_rfl,by kernel_rfl,by kernel_rfl⟩)
  (show RT3 (runT w (envZ (fdAt w 129).scope (fdAt w 129).globals (fdAt w 129).closure [((sO "self"),(.ref x)),((sO "value"),(.str s tv)),((sO "name"),(.bool true))] ((fdAt w 129).qualname++sO ".<locals>.") (some 129) (fdAt w 129).code none (fdAt w 129).builtins) ⟨rest,n,t⟩ [1,1,1,1,1,1]) (.ok (envAt w 129 n)) ⟨(n,frO w.params t [((sO "self"),(.ref x)),((sO "value"),(.str s tv)),((sO "name"),(.bool true))])::rest,n+1,t+3⟩ from⟨by kernel_rfl,by kernel_rfl,by kernel_rfl⟩) h hk
theorem conv_inF {w:World} {h₀:Heap} {os:OsState} (B:Base w h₀) {k:Nat} (hk:k≤200) (x tv:Nat) (s:Str) (n t:Nat) (rest:List (Nat×Obj)) {r:Result} {m':SM}
  (h:Spec w h₀ os k (.func (bodyOf (fdAt w 129)) (envAt w 129 n)) ⟨(n,frO w.params t [((sO "self"),(.ref x)),((sO "value"),(.str s tv)),((sO "name"),(.bool false))])::rest,n+1,t+3⟩ r m') :
  Spec w h₀ os k (.call (.ref 129) ⟨[.ref x,.str s tv],[(sO "name",.bool false)]⟩) ⟨rest,n,t⟩ r m' :=
 spec_fn B (by kernel_rfl) (show RT3 (runT w (bindZ (fdAt w 129) ⟨[.ref x,.str s tv],[(sO "name",.bool false)]⟩) ⟨rest,n,t⟩ []) (.ok [((sO "self"),(.ref x)),((sO "value"),(.str s tv)),((sO "name"),(.bool false))]) ⟨rest,n,t⟩ from⟨by kernel_rfl,by kernel_rfl,by kernel_rfl⟩)
  (show RT3 (runT w (envZ (fdAt w 129).scope (fdAt w 129).globals (fdAt w 129).closure [((sO "self"),(.ref x)),((sO "value"),(.str s tv)),((sO "name"),(.bool false))] ((fdAt w 129).qualname++sO ".<locals>.") (some 129) (fdAt w 129).code none (fdAt w 129).builtins) ⟨rest,n,t⟩ [1,1,1,1,1,1]) (.ok (envAt w 129 n)) ⟨(n,frO w.params t [((sO "self"),(.ref x)),((sO "value"),(.str s tv)),((sO "name"),(.bool false))])::rest,n+1,t+3⟩ from⟨by kernel_rfl,by kernel_rfl,by kernel_rfl⟩) h hk
noncomputable def R_conv_a (w:World) (n t x tv:Nat) (rest:List (Nat×Obj)):RR Fin :=
 runC w (.func (bodyOf (fdAt w 129)) (envAt w 129 n))
  ⟨(n,frO w.params t [(sO "self",.ref x),(sO "value",.str (sO "a") tv),(sO "name",.bool true)])::rest,n+1,t+3⟩
  [0,0,1,0,0,0,1,0,1,1,1,0,0,0,0,1,0,0,0,0,1]
  []
theorem conv_a:∀(w:World) (n t x tv:Nat) (rest:List (Nat×Obj)),
 valOf (R_conv_a w n t x tv rest)=some (.ok (.done (.ret (.str (sO "a") tv)))) ∧
 psOf (R_conv_a w n t x tv rest)=dup (psOf (R_conv_a w n t x tv rest)) ∧
 keepC [] 1 (mOf (R_conv_a w n t x tv rest))=⟨rest,(n+1),(t+4)⟩ ∧
 (evOf (R_conv_a w n t x tv rest)).reverse=evsIs (R_conv_a w n t x tv rest) 0 []:=by
 (intros;exact⟨by kernel_rfl,by kernel_rfl,by kernel_rfl,by kernel_rfl⟩)
noncomputable def R_conv_b (w:World) (n t x tv:Nat) (rest:List (Nat×Obj)):RR Fin :=
 runC w (.func (bodyOf (fdAt w 129)) (envAt w 129 n))
  ⟨(n,frO w.params t [(sO "self",.ref x),(sO "value",.str (sO "b") tv),(sO "name",.bool true)])::rest,n+1,t+3⟩
  [0,0,1,0,0,0,1,0,1,1,1,0,0,0,0,1,0,0,0,0,1]
  []
theorem conv_b:∀(w:World) (n t x tv:Nat) (rest:List (Nat×Obj)),
 valOf (R_conv_b w n t x tv rest)=some (.ok (.done (.ret (.str (sO "b") tv)))) ∧
 psOf (R_conv_b w n t x tv rest)=dup (psOf (R_conv_b w n t x tv rest)) ∧
 keepC [] 1 (mOf (R_conv_b w n t x tv rest))=⟨rest,(n+1),(t+4)⟩ ∧
 (evOf (R_conv_b w n t x tv rest)).reverse=evsIs (R_conv_b w n t x tv rest) 0 []:=by
 (intros;exact⟨by kernel_rfl,by kernel_rfl,by kernel_rfl,by kernel_rfl⟩)
noncomputable def R_conv_c (w:World) (n t x tv:Nat) (rest:List (Nat×Obj)):RR Fin :=
 runC w (.func (bodyOf (fdAt w 129)) (envAt w 129 n))
  ⟨(n,frO w.params t [(sO "self",.ref x),(sO "value",.str (sO "c") tv),(sO "name",.bool true)])::rest,n+1,t+3⟩
  [0,0,1,0,0,0,1,0,1,1,1,0,0,0,0,1,0,0,0,0,1]
  []
theorem conv_c:∀(w:World) (n t x tv:Nat) (rest:List (Nat×Obj)),
 valOf (R_conv_c w n t x tv rest)=some (.ok (.done (.ret (.str (sO "c") tv)))) ∧
 psOf (R_conv_c w n t x tv rest)=dup (psOf (R_conv_c w n t x tv rest)) ∧
 keepC [] 1 (mOf (R_conv_c w n t x tv rest))=⟨rest,(n+1),(t+4)⟩ ∧
 (evOf (R_conv_c w n t x tv rest)).reverse=evsIs (R_conv_c w n t x tv rest) 0 []:=by
 (intros;exact⟨by kernel_rfl,by kernel_rfl,by kernel_rfl,by kernel_rfl⟩)
noncomputable def R_conv_d (w:World) (n t x tv:Nat) (rest:List (Nat×Obj)):RR Fin :=
 runC w (.func (bodyOf (fdAt w 129)) (envAt w 129 n))
  ⟨(n,frO w.params t [(sO "self",.ref x),(sO "value",.str (sO "d") tv),(sO "name",.bool true)])::rest,n+1,t+3⟩
  [0,0,1,0,0,0,1,0,1,1,1,0,0,0,0,1,0,0,0,0,1]
  []
theorem conv_d:∀(w:World) (n t x tv:Nat) (rest:List (Nat×Obj)),
 valOf (R_conv_d w n t x tv rest)=some (.ok (.done (.ret (.str (sO "d") tv)))) ∧
 psOf (R_conv_d w n t x tv rest)=dup (psOf (R_conv_d w n t x tv rest)) ∧
 keepC [] 1 (mOf (R_conv_d w n t x tv rest))=⟨rest,(n+1),(t+4)⟩ ∧
 (evOf (R_conv_d w n t x tv rest)).reverse=evsIs (R_conv_d w n t x tv rest) 0 []:=by
 (intros;exact⟨by kernel_rfl,by kernel_rfl,by kernel_rfl,by kernel_rfl⟩)
noncomputable def R_conv_A (w:World) (n t x tv:Nat) (rest:List (Nat×Obj)):RR Fin :=
 runC w (.func (bodyOf (fdAt w 129)) (envAt w 129 n))
  ⟨(n,frO w.params t [(sO "self",.ref x),(sO "value",.str (sO "A") tv),(sO "name",.bool true)])::rest,n+1,t+3⟩
  [0,0,1,0,0,0,1,0,1,1,1,0,0,0,0,1,0,0,0,0,1]
  []
theorem conv_A:∀(w:World) (n t x tv:Nat) (rest:List (Nat×Obj)),
 valOf (R_conv_A w n t x tv rest)=some (.ok (.done (.ret (.str (sO "A") tv)))) ∧
 psOf (R_conv_A w n t x tv rest)=dup (psOf (R_conv_A w n t x tv rest)) ∧
 keepC [] 1 (mOf (R_conv_A w n t x tv rest))=⟨rest,(n+1),(t+4)⟩ ∧
 (evOf (R_conv_A w n t x tv rest)).reverse=evsIs (R_conv_A w n t x tv rest) 0 []:=by
 (intros;exact⟨by kernel_rfl,by kernel_rfl,by kernel_rfl,by kernel_rfl⟩)
noncomputable def R_conv_B (w:World) (n t x tv:Nat) (rest:List (Nat×Obj)):RR Fin :=
 runC w (.func (bodyOf (fdAt w 129)) (envAt w 129 n))
  ⟨(n,frO w.params t [(sO "self",.ref x),(sO "value",.str (sO "B") tv),(sO "name",.bool true)])::rest,n+1,t+3⟩
  [0,0,1,0,0,0,1,0,1,1,1,0,0,0,0,1,0,0,0,0,1]
  []
theorem conv_B:∀(w:World) (n t x tv:Nat) (rest:List (Nat×Obj)),
 valOf (R_conv_B w n t x tv rest)=some (.ok (.done (.ret (.str (sO "B") tv)))) ∧
 psOf (R_conv_B w n t x tv rest)=dup (psOf (R_conv_B w n t x tv rest)) ∧
 keepC [] 1 (mOf (R_conv_B w n t x tv rest))=⟨rest,(n+1),(t+4)⟩ ∧
 (evOf (R_conv_B w n t x tv rest)).reverse=evsIs (R_conv_B w n t x tv rest) 0 []:=by
 (intros;exact⟨by kernel_rfl,by kernel_rfl,by kernel_rfl,by kernel_rfl⟩)
noncomputable def R_conv_C (w:World) (n t x tv:Nat) (rest:List (Nat×Obj)):RR Fin :=
 runC w (.func (bodyOf (fdAt w 129)) (envAt w 129 n))
  ⟨(n,frO w.params t [(sO "self",.ref x),(sO "value",.str (sO "C") tv),(sO "name",.bool true)])::rest,n+1,t+3⟩
  [0,0,1,0,0,0,1,0,1,1,1,0,0,0,0,1,0,0,0,0,1]
  []
theorem conv_C:∀(w:World) (n t x tv:Nat) (rest:List (Nat×Obj)),
 valOf (R_conv_C w n t x tv rest)=some (.ok (.done (.ret (.str (sO "C") tv)))) ∧
 psOf (R_conv_C w n t x tv rest)=dup (psOf (R_conv_C w n t x tv rest)) ∧
 keepC [] 1 (mOf (R_conv_C w n t x tv rest))=⟨rest,(n+1),(t+4)⟩ ∧
 (evOf (R_conv_C w n t x tv rest)).reverse=evsIs (R_conv_C w n t x tv rest) 0 []:=by
 (intros;exact⟨by kernel_rfl,by kernel_rfl,by kernel_rfl,by kernel_rfl⟩)
noncomputable def R_conv_D (w:World) (n t x tv:Nat) (rest:List (Nat×Obj)):RR Fin :=
 runC w (.func (bodyOf (fdAt w 129)) (envAt w 129 n))
  ⟨(n,frO w.params t [(sO "self",.ref x),(sO "value",.str (sO "D") tv),(sO "name",.bool true)])::rest,n+1,t+3⟩
  [0,0,1,0,0,0,1,0,1,1,1,0,0,0,0,1,0,0,0,0,1]
  []
theorem conv_D:∀(w:World) (n t x tv:Nat) (rest:List (Nat×Obj)),
 valOf (R_conv_D w n t x tv rest)=some (.ok (.done (.ret (.str (sO "D") tv)))) ∧
 psOf (R_conv_D w n t x tv rest)=dup (psOf (R_conv_D w n t x tv rest)) ∧
 keepC [] 1 (mOf (R_conv_D w n t x tv rest))=⟨rest,(n+1),(t+4)⟩ ∧
 (evOf (R_conv_D w n t x tv rest)).reverse=evsIs (R_conv_D w n t x tv rest) 0 []:=by
 (intros;exact⟨by kernel_rfl,by kernel_rfl,by kernel_rfl,by kernel_rfl⟩)
noncomputable def R_conv_1 (w:World) (n t x tv:Nat) (rest:List (Nat×Obj)):RR Fin :=
 runC w (.func (bodyOf (fdAt w 129)) (envAt w 129 n))
  ⟨(n,frO w.params t [(sO "self",.ref x),(sO "value",.str (sO ".") tv),(sO "name",.bool false)])::rest,n+1,t+3⟩
  [0,0,1,0,0,0,1,0,1,1,1,0,0,0,0,1,0,0,0,0,1]
  []
theorem conv_1:∀(w:World) (n t x tv:Nat) (rest:List (Nat×Obj)),
 valOf (R_conv_1 w n t x tv rest)=some (.ok (.done (.ret (.str (sO ".") tv)))) ∧
 psOf (R_conv_1 w n t x tv rest)=dup (psOf (R_conv_1 w n t x tv rest)) ∧
 keepC [] 1 (mOf (R_conv_1 w n t x tv rest))=⟨rest,(n+1),(t+4)⟩ ∧
 (evOf (R_conv_1 w n t x tv rest)).reverse=evsIs (R_conv_1 w n t x tv rest) 0 []:=by
 (intros;exact⟨by kernel_rfl,by kernel_rfl,by kernel_rfl,by kernel_rfl⟩)
noncomputable def R_conv_2 (w:World) (n t x tv:Nat) (rest:List (Nat×Obj)):RR Fin :=
 runC w (.func (bodyOf (fdAt w 129)) (envAt w 129 n))
  ⟨(n,frO w.params t [(sO "self",.ref x),(sO "value",.str (sO "..") tv),(sO "name",.bool false)])::rest,n+1,t+3⟩
  [0,0,1,0,0,0,1,0,1,1,1,0,0,0,0,1,0,0,0,0,1]
  []
theorem conv_2:∀(w:World) (n t x tv:Nat) (rest:List (Nat×Obj)),
 valOf (R_conv_2 w n t x tv rest)=some (.ok (.done (.ret (.str (sO "..") tv)))) ∧
 psOf (R_conv_2 w n t x tv rest)=dup (psOf (R_conv_2 w n t x tv rest)) ∧
 keepC [] 1 (mOf (R_conv_2 w n t x tv rest))=⟨rest,(n+1),(t+4)⟩ ∧
 (evOf (R_conv_2 w n t x tv rest)).reverse=evsIs (R_conv_2 w n t x tv rest) 0 []:=by
 (intros;exact⟨by kernel_rfl,by kernel_rfl,by kernel_rfl,by kernel_rfl⟩)
noncomputable def R_conv_3 (w:World) (n t x tv:Nat) (rest:List (Nat×Obj)):RR Fin :=
 runC w (.func (bodyOf (fdAt w 129)) (envAt w 129 n))
  ⟨(n,frO w.params t [(sO "self",.ref x),(sO "value",.str (sO "...") tv),(sO "name",.bool false)])::rest,n+1,t+3⟩
  [0,0,1,0,0,0,1,0,1,1,1,0,0,0,0,1,0,0,0,0,1]
  []
theorem conv_3:∀(w:World) (n t x tv:Nat) (rest:List (Nat×Obj)),
 valOf (R_conv_3 w n t x tv rest)=some (.ok (.done (.ret (.str (sO "...") tv)))) ∧
 psOf (R_conv_3 w n t x tv rest)=dup (psOf (R_conv_3 w n t x tv rest)) ∧
 keepC [] 1 (mOf (R_conv_3 w n t x tv rest))=⟨rest,(n+1),(t+4)⟩ ∧
 (evOf (R_conv_3 w n t x tv rest)).reverse=evsIs (R_conv_3 w n t x tv rest) 0 []:=by
 (intros;exact⟨by kernel_rfl,by kernel_rfl,by kernel_rfl,by kernel_rfl⟩)
noncomputable def R_conv_4 (w:World) (n t x tv:Nat) (rest:List (Nat×Obj)):RR Fin :=
 runC w (.func (bodyOf (fdAt w 129)) (envAt w 129 n))
  ⟨(n,frO w.params t [(sO "self",.ref x),(sO "value",.str (sO "....") tv),(sO "name",.bool false)])::rest,n+1,t+3⟩
  [0,0,1,0,0,0,1,0,1,1,1,0,0,0,0,1,0,0,0,0,1]
  []
theorem conv_4:∀(w:World) (n t x tv:Nat) (rest:List (Nat×Obj)),
 valOf (R_conv_4 w n t x tv rest)=some (.ok (.done (.ret (.str (sO "....") tv)))) ∧
 psOf (R_conv_4 w n t x tv rest)=dup (psOf (R_conv_4 w n t x tv rest)) ∧
 keepC [] 1 (mOf (R_conv_4 w n t x tv rest))=⟨rest,(n+1),(t+4)⟩ ∧
 (evOf (R_conv_4 w n t x tv rest)).reverse=evsIs (R_conv_4 w n t x tv rest) 0 []:=by
 (intros;exact⟨by kernel_rfl,by kernel_rfl,by kernel_rfl,by kernel_rfl⟩)
noncomputable def R_conv_5 (w:World) (n t x tv:Nat) (rest:List (Nat×Obj)):RR Fin :=
 runC w (.func (bodyOf (fdAt w 129)) (envAt w 129 n))
  ⟨(n,frO w.params t [(sO "self",.ref x),(sO "value",.str (sO ".....") tv),(sO "name",.bool false)])::rest,n+1,t+3⟩
  [0,0,1,0,0,0,1,0,1,1,1,0,0,0,0,1,0,0,0,0,1]
  []
theorem conv_5:∀(w:World) (n t x tv:Nat) (rest:List (Nat×Obj)),
 valOf (R_conv_5 w n t x tv rest)=some (.ok (.done (.ret (.str (sO ".....") tv)))) ∧
 psOf (R_conv_5 w n t x tv rest)=dup (psOf (R_conv_5 w n t x tv rest)) ∧
 keepC [] 1 (mOf (R_conv_5 w n t x tv rest))=⟨rest,(n+1),(t+4)⟩ ∧
 (evOf (R_conv_5 w n t x tv rest)).reverse=evsIs (R_conv_5 w n t x tv rest) 0 []:=by
 (intros;exact⟨by kernel_rfl,by kernel_rfl,by kernel_rfl,by kernel_rfl⟩)
noncomputable def R_conv_6 (w:World) (n t x tv:Nat) (rest:List (Nat×Obj)):RR Fin :=
 runC w (.func (bodyOf (fdAt w 129)) (envAt w 129 n))
  ⟨(n,frO w.params t [(sO "self",.ref x),(sO "value",.str (sO "......") tv),(sO "name",.bool false)])::rest,n+1,t+3⟩
  [0,0,1,0,0,0,1,0,1,1,1,0,0,0,0,1,0,0,0,0,1]
  []
theorem conv_6:∀(w:World) (n t x tv:Nat) (rest:List (Nat×Obj)),
 valOf (R_conv_6 w n t x tv rest)=some (.ok (.done (.ret (.str (sO "......") tv)))) ∧
 psOf (R_conv_6 w n t x tv rest)=dup (psOf (R_conv_6 w n t x tv rest)) ∧
 keepC [] 1 (mOf (R_conv_6 w n t x tv rest))=⟨rest,(n+1),(t+4)⟩ ∧
 (evOf (R_conv_6 w n t x tv rest)).reverse=evsIs (R_conv_6 w n t x tv rest) 0 []:=by
 (intros;exact⟨by kernel_rfl,by kernel_rfl,by kernel_rfl,by kernel_rfl⟩)
noncomputable def R_conv_7 (w:World) (n t x tv:Nat) (rest:List (Nat×Obj)):RR Fin :=
 runC w (.func (bodyOf (fdAt w 129)) (envAt w 129 n))
  ⟨(n,frO w.params t [(sO "self",.ref x),(sO "value",.str (sO ".......") tv),(sO "name",.bool false)])::rest,n+1,t+3⟩
  [0,0,1,0,0,0,1,0,1,1,1,0,0,0,0,1,0,0,0,0,1]
  []
theorem conv_7:∀(w:World) (n t x tv:Nat) (rest:List (Nat×Obj)),
 valOf (R_conv_7 w n t x tv rest)=some (.ok (.done (.ret (.str (sO ".......") tv)))) ∧
 psOf (R_conv_7 w n t x tv rest)=dup (psOf (R_conv_7 w n t x tv rest)) ∧
 keepC [] 1 (mOf (R_conv_7 w n t x tv rest))=⟨rest,(n+1),(t+4)⟩ ∧
 (evOf (R_conv_7 w n t x tv rest)).reverse=evsIs (R_conv_7 w n t x tv rest) 0 []:=by
 (intros;exact⟨by kernel_rfl,by kernel_rfl,by kernel_rfl,by kernel_rfl⟩)
theorem low_a_e:∀(w:World) (n t tv:Nat) (rest:List (Nat×Obj)),
 valC (runP w (.call (.builtin "str.lower") ⟨[.str (sO "a") tv],[]⟩) ⟨rest,n,t⟩ [])=some (.ok (.ret (.str (sO "a") t)))∧psC (runP w (.call (.builtin "str.lower") ⟨[.str (sO "a") tv],[]⟩) ⟨rest,n,t⟩ [])=dup (psC (runP w (.call (.builtin "str.lower") ⟨[.str (sO "a") tv],[]⟩) ⟨rest,n,t⟩ []))∧keepC [] 0 (mC (runP w (.call (.builtin "str.lower") ⟨[.str (sO "a") tv],[]⟩) ⟨rest,n,t⟩ []))=⟨rest,n,(t+1)⟩:=by
 (intros;exact⟨by kernel_rfl,by kernel_rfl,by kernel_rfl⟩)
theorem low_b_e:∀(w:World) (n t tv:Nat) (rest:List (Nat×Obj)),
 valC (runP w (.call (.builtin "str.lower") ⟨[.str (sO "b") tv],[]⟩) ⟨rest,n,t⟩ [])=some (.ok (.ret (.str (sO "b") t)))∧psC (runP w (.call (.builtin "str.lower") ⟨[.str (sO "b") tv],[]⟩) ⟨rest,n,t⟩ [])=dup (psC (runP w (.call (.builtin "str.lower") ⟨[.str (sO "b") tv],[]⟩) ⟨rest,n,t⟩ []))∧keepC [] 0 (mC (runP w (.call (.builtin "str.lower") ⟨[.str (sO "b") tv],[]⟩) ⟨rest,n,t⟩ []))=⟨rest,n,(t+1)⟩:=by
 (intros;exact⟨by kernel_rfl,by kernel_rfl,by kernel_rfl⟩)
theorem low_c_e:∀(w:World) (n t tv:Nat) (rest:List (Nat×Obj)),
 valC (runP w (.call (.builtin "str.lower") ⟨[.str (sO "c") tv],[]⟩) ⟨rest,n,t⟩ [])=some (.ok (.ret (.str (sO "c") t)))∧psC (runP w (.call (.builtin "str.lower") ⟨[.str (sO "c") tv],[]⟩) ⟨rest,n,t⟩ [])=dup (psC (runP w (.call (.builtin "str.lower") ⟨[.str (sO "c") tv],[]⟩) ⟨rest,n,t⟩ []))∧keepC [] 0 (mC (runP w (.call (.builtin "str.lower") ⟨[.str (sO "c") tv],[]⟩) ⟨rest,n,t⟩ []))=⟨rest,n,(t+1)⟩:=by
 (intros;exact⟨by kernel_rfl,by kernel_rfl,by kernel_rfl⟩)
theorem low_d_e:∀(w:World) (n t tv:Nat) (rest:List (Nat×Obj)),
 valC (runP w (.call (.builtin "str.lower") ⟨[.str (sO "d") tv],[]⟩) ⟨rest,n,t⟩ [])=some (.ok (.ret (.str (sO "d") t)))∧psC (runP w (.call (.builtin "str.lower") ⟨[.str (sO "d") tv],[]⟩) ⟨rest,n,t⟩ [])=dup (psC (runP w (.call (.builtin "str.lower") ⟨[.str (sO "d") tv],[]⟩) ⟨rest,n,t⟩ []))∧keepC [] 0 (mC (runP w (.call (.builtin "str.lower") ⟨[.str (sO "d") tv],[]⟩) ⟨rest,n,t⟩ []))=⟨rest,n,(t+1)⟩:=by
 (intros;exact⟨by kernel_rfl,by kernel_rfl,by kernel_rfl⟩)
theorem low_A_e:∀(w:World) (n t tv:Nat) (rest:List (Nat×Obj)),
 valC (runP w (.call (.builtin "str.lower") ⟨[.str (sO "A") tv],[]⟩) ⟨rest,n,t⟩ [])=some (.ok (.ret (.str (sO "a") t)))∧psC (runP w (.call (.builtin "str.lower") ⟨[.str (sO "A") tv],[]⟩) ⟨rest,n,t⟩ [])=dup (psC (runP w (.call (.builtin "str.lower") ⟨[.str (sO "A") tv],[]⟩) ⟨rest,n,t⟩ []))∧keepC [] 0 (mC (runP w (.call (.builtin "str.lower") ⟨[.str (sO "A") tv],[]⟩) ⟨rest,n,t⟩ []))=⟨rest,n,(t+1)⟩:=by
 (intros;exact⟨by kernel_rfl,by kernel_rfl,by kernel_rfl⟩)
theorem low_B_e:∀(w:World) (n t tv:Nat) (rest:List (Nat×Obj)),
 valC (runP w (.call (.builtin "str.lower") ⟨[.str (sO "B") tv],[]⟩) ⟨rest,n,t⟩ [])=some (.ok (.ret (.str (sO "b") t)))∧psC (runP w (.call (.builtin "str.lower") ⟨[.str (sO "B") tv],[]⟩) ⟨rest,n,t⟩ [])=dup (psC (runP w (.call (.builtin "str.lower") ⟨[.str (sO "B") tv],[]⟩) ⟨rest,n,t⟩ []))∧keepC [] 0 (mC (runP w (.call (.builtin "str.lower") ⟨[.str (sO "B") tv],[]⟩) ⟨rest,n,t⟩ []))=⟨rest,n,(t+1)⟩:=by
 (intros;exact⟨by kernel_rfl,by kernel_rfl,by kernel_rfl⟩)
theorem low_C_e:∀(w:World) (n t tv:Nat) (rest:List (Nat×Obj)),
 valC (runP w (.call (.builtin "str.lower") ⟨[.str (sO "C") tv],[]⟩) ⟨rest,n,t⟩ [])=some (.ok (.ret (.str (sO "c") t)))∧psC (runP w (.call (.builtin "str.lower") ⟨[.str (sO "C") tv],[]⟩) ⟨rest,n,t⟩ [])=dup (psC (runP w (.call (.builtin "str.lower") ⟨[.str (sO "C") tv],[]⟩) ⟨rest,n,t⟩ []))∧keepC [] 0 (mC (runP w (.call (.builtin "str.lower") ⟨[.str (sO "C") tv],[]⟩) ⟨rest,n,t⟩ []))=⟨rest,n,(t+1)⟩:=by
 (intros;exact⟨by kernel_rfl,by kernel_rfl,by kernel_rfl⟩)
theorem low_D_e:∀(w:World) (n t tv:Nat) (rest:List (Nat×Obj)),
 valC (runP w (.call (.builtin "str.lower") ⟨[.str (sO "D") tv],[]⟩) ⟨rest,n,t⟩ [])=some (.ok (.ret (.str (sO "d") t)))∧psC (runP w (.call (.builtin "str.lower") ⟨[.str (sO "D") tv],[]⟩) ⟨rest,n,t⟩ [])=dup (psC (runP w (.call (.builtin "str.lower") ⟨[.str (sO "D") tv],[]⟩) ⟨rest,n,t⟩ []))∧keepC [] 0 (mC (runP w (.call (.builtin "str.lower") ⟨[.str (sO "D") tv],[]⟩) ⟨rest,n,t⟩ []))=⟨rest,n,(t+1)⟩:=by
 (intros;exact⟨by kernel_rfl,by kernel_rfl,by kernel_rfl⟩)
theorem up_a_e:∀(w:World) (n t tv:Nat) (rest:List (Nat×Obj)),
 valC (runP w (.call (.builtin "str.upper") ⟨[.str (sO "a") tv],[]⟩) ⟨rest,n,t⟩ [])=some (.ok (.ret (.str (sO "A") t)))∧psC (runP w (.call (.builtin "str.upper") ⟨[.str (sO "a") tv],[]⟩) ⟨rest,n,t⟩ [])=dup (psC (runP w (.call (.builtin "str.upper") ⟨[.str (sO "a") tv],[]⟩) ⟨rest,n,t⟩ []))∧keepC [] 0 (mC (runP w (.call (.builtin "str.upper") ⟨[.str (sO "a") tv],[]⟩) ⟨rest,n,t⟩ []))=⟨rest,n,(t+1)⟩:=by
 (intros;exact⟨by kernel_rfl,by kernel_rfl,by kernel_rfl⟩)
theorem up_b_e:∀(w:World) (n t tv:Nat) (rest:List (Nat×Obj)),
 valC (runP w (.call (.builtin "str.upper") ⟨[.str (sO "b") tv],[]⟩) ⟨rest,n,t⟩ [])=some (.ok (.ret (.str (sO "B") t)))∧psC (runP w (.call (.builtin "str.upper") ⟨[.str (sO "b") tv],[]⟩) ⟨rest,n,t⟩ [])=dup (psC (runP w (.call (.builtin "str.upper") ⟨[.str (sO "b") tv],[]⟩) ⟨rest,n,t⟩ []))∧keepC [] 0 (mC (runP w (.call (.builtin "str.upper") ⟨[.str (sO "b") tv],[]⟩) ⟨rest,n,t⟩ []))=⟨rest,n,(t+1)⟩:=by
 (intros;exact⟨by kernel_rfl,by kernel_rfl,by kernel_rfl⟩)
theorem up_c_e:∀(w:World) (n t tv:Nat) (rest:List (Nat×Obj)),
 valC (runP w (.call (.builtin "str.upper") ⟨[.str (sO "c") tv],[]⟩) ⟨rest,n,t⟩ [])=some (.ok (.ret (.str (sO "C") t)))∧psC (runP w (.call (.builtin "str.upper") ⟨[.str (sO "c") tv],[]⟩) ⟨rest,n,t⟩ [])=dup (psC (runP w (.call (.builtin "str.upper") ⟨[.str (sO "c") tv],[]⟩) ⟨rest,n,t⟩ []))∧keepC [] 0 (mC (runP w (.call (.builtin "str.upper") ⟨[.str (sO "c") tv],[]⟩) ⟨rest,n,t⟩ []))=⟨rest,n,(t+1)⟩:=by
 (intros;exact⟨by kernel_rfl,by kernel_rfl,by kernel_rfl⟩)
theorem up_d_e:∀(w:World) (n t tv:Nat) (rest:List (Nat×Obj)),
 valC (runP w (.call (.builtin "str.upper") ⟨[.str (sO "d") tv],[]⟩) ⟨rest,n,t⟩ [])=some (.ok (.ret (.str (sO "D") t)))∧psC (runP w (.call (.builtin "str.upper") ⟨[.str (sO "d") tv],[]⟩) ⟨rest,n,t⟩ [])=dup (psC (runP w (.call (.builtin "str.upper") ⟨[.str (sO "d") tv],[]⟩) ⟨rest,n,t⟩ []))∧keepC [] 0 (mC (runP w (.call (.builtin "str.upper") ⟨[.str (sO "d") tv],[]⟩) ⟨rest,n,t⟩ []))=⟨rest,n,(t+1)⟩:=by
 (intros;exact⟨by kernel_rfl,by kernel_rfl,by kernel_rfl⟩)
theorem get_in {w:World} {h₀:Heap} {os:OsState} (B:Base w h₀) {k:Nat} (hk:k≤200) (x tn:Nat) (nm:Str) (n t:Nat) (rest:List (Nat×Obj)) {r:Result} {m':SM}
  (h:Spec w h₀ os k (.func (bodyOf (fdAt w 177)) (envAt w 177 n)) ⟨(n,frO w.params t [((sO "self"),(.ref x)),((sO "name"),(.str nm tn)),((sO "default"),.none)])::rest,n+1,t+3⟩ r m') :
  Spec w h₀ os k (.call (.ref 177) ⟨[.ref x,.str nm tn],[]⟩) ⟨rest,n,t⟩ r m' :=
 spec_fn B (by kernel_rfl) (show RT3 (runT w (bindZ (fdAt w 177) ⟨[.ref x,.str nm tn],[]⟩) ⟨rest,n,t⟩ [0]) (.ok [((sO "self"),(.ref x)),((sO "name"),(.str nm tn)),((sO "default"),.none)]) ⟨rest,n,t⟩ from⟨by kernel_rfl,by kernel_rfl,by kernel_rfl⟩)
  (show RT3 (runT w (envZ (fdAt w 177).scope (fdAt w 177).globals (fdAt w 177).closure [((sO "self"),(.ref x)),((sO "name"),(.str nm tn)),((sO "default"),.none)] ((fdAt w 177).qualname++sO ".<locals>.") (some 177) (fdAt w 177).code none (fdAt w 177).builtins) ⟨rest,n,t⟩ [1,1,1,1,1,1]) (.ok (envAt w 177 n)) ⟨(n,frO w.params t [((sO "self"),(.ref x)),((sO "name"),(.str nm tn)),((sO "default"),.none)])::rest,n+1,t+3⟩ from⟨by kernel_rfl,by kernel_rfl,by kernel_rfl⟩) h hk
noncomputable def R_get_0_N (w:World) (n t x dx th l ep tn:Nat) (nm lnm:Str) (rest:List (Nat×Obj)):RR Fin :=
 runC w (.func (bodyOf (fdAt w 177)) (envAt w 177 n))
  ⟨(n,frO w.params t [(sO "self",.ref x),(sO "name",.str nm tn),(sO "default",.none)])::(tabC w x dx th l ep []++rest),n+1,t+3⟩
  [1,2,0,0,0,2,0,0,0,2,0,0,0,0,2,3,1,1,0,1,1,1,1,2,0,0,0,0,2,0,0,0,2,2,0,3,4,4,0,4,1,2,1,0,1,1,1,5,1,1,1,4]
  [aStr lnm,aVal (.str lnm (t+3)) 1 4]
theorem get_0_N:∀(w:World) (n t x dx th l ep tn:Nat) (nm lnm:Str) (rest:List (Nat×Obj)),(fun(A:RR Fin)=>valOf A=some (.ok (.done (.ret .none)))∧psOf A=dup (psOf A)∧keepC [4,5,6] 7 (mOf A)=⟨tabC w x dx th l ep []++rest,(n+5),(t+10)⟩∧(evOf A).reverse=evsIs A 0 [(.call (.builtin "str.lower") ⟨[(.str nm tn)],[]⟩,aStr lnm),(.call (.ref 129) ⟨[(.ref x),(.str lnm (t+3))],[((sO "name"),(.bool true))]⟩,aVal (.str lnm (t+3)) 1 4)]) (R_get_0_N w n t x dx th l ep tn nm lnm rest):=by walk_at "r"
noncomputable def R_get_1_N (w:World) (n t x dx th l ep tn:Nat) (nm lnm:Str) (h0:Hd) (g0:Str) (rest:List (Nat×Obj)):RR Fin :=
 runC w (.func (bodyOf (fdAt w 177)) (envAt w 177 n))
  ⟨(n,frO w.params t [(sO "self",.ref x),(sO "name",.str nm tn),(sO "default",.none)])::(tabC w x dx th l ep [h0]++rest),n+1,t+3⟩
  [1,2,0,0,0,2,0,0,0,2,0,0,0,0,2,3,1,1,0,1,1,1,1,2,0,0,0,0,2,0,0,0,2,2,0,3,4,4,0,4,1,2,1,0,1,1,1,5,1,1,1,6,6,6,0,6,1,1,0,1,1,1,7,1,1,1,0,1,1,1,7,1,1,1,0,1,1,1,7,1,1,1,5,5,5,5,5,1,5,1,4,0,4,4,4,8,4,4,1,7]
  [aStr lnm,aVal (.str lnm (t+3)) 1 4,aStr g0,aVal (.bool false) 0 0]
theorem get_1_N:∀(w:World) (n t x dx th l ep tn:Nat) (nm lnm:Str) (h0:Hd) (g0:Str) (rest:List (Nat×Obj)),(fun(A:RR Fin)=>valOf A=some (.ok (.done (.ret .none)))∧psOf A=dup (psOf A)∧keepC [7,8,9,10] 11 (mOf A)=⟨tabC w x dx th l ep [h0]++rest,(n+8),(t+13)⟩∧(evOf A).reverse=evsIs A 0 [(.call (.builtin "str.lower") ⟨[(.str nm tn)],[]⟩,aStr lnm),(.call (.ref 129) ⟨[(.ref x),(.str lnm (t+3))],[((sO "name"),(.bool true))]⟩,aVal (.str lnm (t+3)) 1 4),(.call (.builtin "str.lower") ⟨[(.str h0.k h0.u)],[]⟩,aStr g0),(.call (.builtin "str.__eq__") ⟨[(.str g0 (t+12)),(.str lnm (t+3))],[]⟩,aVal (.bool false) 0 0)]) (R_get_1_N w n t x dx th l ep tn nm lnm h0 g0 rest):=by walk_at "r"
noncomputable def R_get_2_N (w:World) (n t x dx th l ep tn:Nat) (nm lnm:Str) (h0:Hd) (g0:Str) (h1:Hd) (g1:Str) (rest:List (Nat×Obj)):RR Fin :=
 runC w (.func (bodyOf (fdAt w 177)) (envAt w 177 n))
  ⟨(n,frO w.params t [(sO "self",.ref x),(sO "name",.str nm tn),(sO "default",.none)])::(tabC w x dx th l ep [h0,h1]++rest),n+1,t+3⟩
  [1,2,0,0,0,2,0,0,0,2,0,0,0,0,2,3,1,1,0,1,1,1,1,2,0,0,0,0,2,0,0,0,2,2,0,3,4,4,0,4,1,2,1,0,1,1,1,5,1,1,1,6,6,6,0,6,1,1,0,1,1,1,7,1,1,1,0,1,1,1,7,1,1,1,0,1,1,1,7,1,1,1,5,5,5,5,5,1,5,1,4,0,4,4,4,8,4,4,4,10,10,10,0,10,1,1,0,1,1,1,11,1,1,1,0,1,1,1,11,1,1,1,0,1,1,1,11,1,1,1,8,8,8,8,8,1,8,1,7,0,7,7,7,11,7,7,1,10]
  [aStr lnm,aVal (.str lnm (t+3)) 1 4,aStr g0,aVal (.bool false) 0 0,aStr g1,aVal (.bool false) 0 0]
theorem get_2_N:∀(w:World) (n t x dx th l ep tn:Nat) (nm lnm:Str) (h0:Hd) (g0:Str) (h1:Hd) (g1:Str) (rest:List (Nat×Obj)),(fun(A:RR Fin)=>valOf A=some (.ok (.done (.ret .none)))∧psOf A=dup (psOf A)∧keepC [10,11,12,13,14] 15 (mOf A)=⟨tabC w x dx th l ep [h0,h1]++rest,(n+11),(t+16)⟩∧(evOf A).reverse=evsIs A 0 [(.call (.builtin "str.lower") ⟨[(.str nm tn)],[]⟩,aStr lnm),(.call (.ref 129) ⟨[(.ref x),(.str lnm (t+3))],[((sO "name"),(.bool true))]⟩,aVal (.str lnm (t+3)) 1 4),(.call (.builtin "str.lower") ⟨[(.str h0.k h0.u)],[]⟩,aStr g0),(.call (.builtin "str.__eq__") ⟨[(.str g0 (t+12)),(.str lnm (t+3))],[]⟩,aVal (.bool false) 0 0),(.call (.builtin "str.lower") ⟨[(.str h1.k h1.u)],[]⟩,aStr g1),(.call (.builtin "str.__eq__") ⟨[(.str g1 (t+15)),(.str lnm (t+3))],[]⟩,aVal (.bool false) 0 0)]) (R_get_2_N w n t x dx th l ep tn nm lnm h0 g0 h1 g1 rest):=by walk_at "r"
noncomputable def R_get_2_0 (w:World) (n t x dx th l ep tn:Nat) (nm lnm:Str) (h0:Hd) (g0:Str) (h1:Hd) (g1:Str) (rest:List (Nat×Obj)):RR Fin :=
 runC w (.func (bodyOf (fdAt w 177)) (envAt w 177 n))
  ⟨(n,frO w.params t [(sO "self",.ref x),(sO "name",.str nm tn),(sO "default",.none)])::(tabC w x dx th l ep [h0,h1]++rest),n+1,t+3⟩
  [1,2,0,0,0,2,0,0,0,2,0,0,0,0,2,3,1,1,0,1,1,1,1,2,0,0,0,0,2,0,0,0,2,2,0,3,4,4,0,4,1,2,1,0,1,1,1,5,1,1,1,6,6,6,0,6,1,1,0,1,1,1,7,1,1,1,0,1,1,1,7,1,1,1,0,1,1,1,7,1,1,1,5,5,5,5,5,1,5,1,5]
  [aStr lnm,aVal (.str lnm (t+3)) 1 4,aStr g0,aVal (.bool true) 0 0]
theorem get_2_0:∀(w:World) (n t x dx th l ep tn:Nat) (nm lnm:Str) (h0:Hd) (g0:Str) (h1:Hd) (g1:Str) (rest:List (Nat×Obj)),(fun(A:RR Fin)=>valOf A=some (.ok (.done (.ret (.str h0.v h0.z))))∧psOf A=dup (psOf A)∧keepC [5,6,7,8,9] 10 (mOf A)=⟨tabC w x dx th l ep [h0,h1]++rest,(n+6),(t+13)⟩∧(evOf A).reverse=evsIs A 0 [(.call (.builtin "str.lower") ⟨[(.str nm tn)],[]⟩,aStr lnm),(.call (.ref 129) ⟨[(.ref x),(.str lnm (t+3))],[((sO "name"),(.bool true))]⟩,aVal (.str lnm (t+3)) 1 4),(.call (.builtin "str.lower") ⟨[(.str h0.k h0.u)],[]⟩,aStr g0),(.call (.builtin "str.__eq__") ⟨[(.str g0 (t+12)),(.str lnm (t+3))],[]⟩,aVal (.bool true) 0 0)]) (R_get_2_0 w n t x dx th l ep tn nm lnm h0 g0 h1 g1 rest):=by walk_at "r"
noncomputable def R_get_2_1 (w:World) (n t x dx th l ep tn:Nat) (nm lnm:Str) (h0:Hd) (g0:Str) (h1:Hd) (g1:Str) (rest:List (Nat×Obj)):RR Fin :=
 runC w (.func (bodyOf (fdAt w 177)) (envAt w 177 n))
  ⟨(n,frO w.params t [(sO "self",.ref x),(sO "name",.str nm tn),(sO "default",.none)])::(tabC w x dx th l ep [h0,h1]++rest),n+1,t+3⟩
  [1,2,0,0,0,2,0,0,0,2,0,0,0,0,2,3,1,1,0,1,1,1,1,2,0,0,0,0,2,0,0,0,2,2,0,3,4,4,0,4,1,2,1,0,1,1,1,5,1,1,1,6,6,6,0,6,1,1,0,1,1,1,7,1,1,1,0,1,1,1,7,1,1,1,0,1,1,1,7,1,1,1,5,5,5,5,5,1,5,1,4,0,4,4,4,8,4,4,4,10,10,10,0,10,1,1,0,1,1,1,11,1,1,1,0,1,1,1,11,1,1,1,0,1,1,1,11,1,1,1,8,8,8,8,8,1,8,1,8]
  [aStr lnm,aVal (.str lnm (t+3)) 1 4,aStr g0,aVal (.bool false) 0 0,aStr g1,aVal (.bool true) 0 0]
theorem get_2_1:∀(w:World) (n t x dx th l ep tn:Nat) (nm lnm:Str) (h0:Hd) (g0:Str) (h1:Hd) (g1:Str) (rest:List (Nat×Obj)),(fun(A:RR Fin)=>valOf A=some (.ok (.done (.ret (.str h1.v h1.z))))∧psOf A=dup (psOf A)∧keepC [8,9,10,11,12] 13 (mOf A)=⟨tabC w x dx th l ep [h0,h1]++rest,(n+9),(t+16)⟩∧(evOf A).reverse=evsIs A 0 [(.call (.builtin "str.lower") ⟨[(.str nm tn)],[]⟩,aStr lnm),(.call (.ref 129) ⟨[(.ref x),(.str lnm (t+3))],[((sO "name"),(.bool true))]⟩,aVal (.str lnm (t+3)) 1 4),(.call (.builtin "str.lower") ⟨[(.str h0.k h0.u)],[]⟩,aStr g0),(.call (.builtin "str.__eq__") ⟨[(.str g0 (t+12)),(.str lnm (t+3))],[]⟩,aVal (.bool false) 0 0),(.call (.builtin "str.lower") ⟨[(.str h1.k h1.u)],[]⟩,aStr g1),(.call (.builtin "str.__eq__") ⟨[(.str g1 (t+15)),(.str lnm (t+3))],[]⟩,aVal (.bool true) 0 0)]) (R_get_2_1 w n t x dx th l ep tn nm lnm h0 g0 h1 g1 rest):=by walk_at "r"
noncomputable def R_get_3_N (w:World) (n t x dx th l ep tn:Nat) (nm lnm:Str) (h0:Hd) (g0:Str) (h1:Hd) (g1:Str) (h2:Hd) (g2:Str) (rest:List (Nat×Obj)):RR Fin :=
 runC w (.func (bodyOf (fdAt w 177)) (envAt w 177 n))
  ⟨(n,frO w.params t [(sO "self",.ref x),(sO "name",.str nm tn),(sO "default",.none)])::(tabC w x dx th l ep [h0,h1,h2]++rest),n+1,t+3⟩
  [1,2,0,0,0,2,0,0,0,2,0,0,0,0,2,3,1,1,0,1,1,1,1,2,0,0,0,0,2,0,0,0,2,2,0,3,4,4,0,4,1,2,1,0,1,1,1,5,1,1,1,6,6,6,0,6,1,1,0,1,1,1,7,1,1,1,0,1,1,1,7,1,1,1,0,1,1,1,7,1,1,1,5,5,5,5,5,1,5,1,4,0,4,4,4,8,4,4,4,10,10,10,0,10,1,1,0,1,1,1,11,1,1,1,0,1,1,1,11,1,1,1,0,1,1,1,11,1,1,1,8,8,8,8,8,1,8,1,7,0,7,7,7,11,7,7,7,14,14,14,0,14,1,1,0,1,1,1,15,1,1,1,0,1,1,1,15,1,1,1,0,1,1,1,15,1,1,1,11,11,11,11,11,1,11,1,10,0,10,10,10,14,10,10,1,13]
  [aStr lnm,aVal (.str lnm (t+3)) 1 4,aStr g0,aVal (.bool false) 0 0,aStr g1,aVal (.bool false) 0 0,aStr g2,aVal (.bool false) 0 0]
theorem get_3_N:∀(w:World) (n t x dx th l ep tn:Nat) (nm lnm:Str) (h0:Hd) (g0:Str) (h1:Hd) (g1:Str) (h2:Hd) (g2:Str) (rest:List (Nat×Obj)),(fun(A:RR Fin)=>valOf A=some (.ok (.done (.ret .none)))∧psOf A=dup (psOf A)∧keepC [13,14,15,16,17,18] 19 (mOf A)=⟨tabC w x dx th l ep [h0,h1,h2]++rest,(n+14),(t+19)⟩∧(evOf A).reverse=evsIs A 0 [(.call (.builtin "str.lower") ⟨[(.str nm tn)],[]⟩,aStr lnm),(.call (.ref 129) ⟨[(.ref x),(.str lnm (t+3))],[((sO "name"),(.bool true))]⟩,aVal (.str lnm (t+3)) 1 4),(.call (.builtin "str.lower") ⟨[(.str h0.k h0.u)],[]⟩,aStr g0),(.call (.builtin "str.__eq__") ⟨[(.str g0 (t+12)),(.str lnm (t+3))],[]⟩,aVal (.bool false) 0 0),(.call (.builtin "str.lower") ⟨[(.str h1.k h1.u)],[]⟩,aStr g1),(.call (.builtin "str.__eq__") ⟨[(.str g1 (t+15)),(.str lnm (t+3))],[]⟩,aVal (.bool false) 0 0),(.call (.builtin "str.lower") ⟨[(.str h2.k h2.u)],[]⟩,aStr g2),(.call (.builtin "str.__eq__") ⟨[(.str g2 (t+18)),(.str lnm (t+3))],[]⟩,aVal (.bool false) 0 0)]) (R_get_3_N w n t x dx th l ep tn nm lnm h0 g0 h1 g1 h2 g2 rest):=by walk_at "r"
noncomputable def R_get_3_0 (w:World) (n t x dx th l ep tn:Nat) (nm lnm:Str) (h0:Hd) (g0:Str) (h1:Hd) (g1:Str) (h2:Hd) (g2:Str) (rest:List (Nat×Obj)):RR Fin :=
 runC w (.func (bodyOf (fdAt w 177)) (envAt w 177 n))
  ⟨(n,frO w.params t [(sO "self",.ref x),(sO "name",.str nm tn),(sO "default",.none)])::(tabC w x dx th l ep [h0,h1,h2]++rest),n+1,t+3⟩
  [1,2,0,0,0,2,0,0,0,2,0,0,0,0,2,3,1,1,0,1,1,1,1,2,0,0,0,0,2,0,0,0,2,2,0,3,4,4,0,4,1,2,1,0,1,1,1,5,1,1,1,6,6,6,0,6,1,1,0,1,1,1,7,1,1,1,0,1,1,1,7,1,1,1,0,1,1,1,7,1,1,1,5,5,5,5,5,1,5,1,5]
  [aStr lnm,aVal (.str lnm (t+3)) 1 4,aStr g0,aVal (.bool true) 0 0]
theorem get_3_0:∀(w:World) (n t x dx th l ep tn:Nat) (nm lnm:Str) (h0:Hd) (g0:Str) (h1:Hd) (g1:Str) (h2:Hd) (g2:Str) (rest:List (Nat×Obj)),(fun(A:RR Fin)=>valOf A=some (.ok (.done (.ret (.str h0.v h0.z))))∧psOf A=dup (psOf A)∧keepC [5,6,7,8,9,10] 11 (mOf A)=⟨tabC w x dx th l ep [h0,h1,h2]++rest,(n+6),(t+13)⟩∧(evOf A).reverse=evsIs A 0 [(.call (.builtin "str.lower") ⟨[(.str nm tn)],[]⟩,aStr lnm),(.call (.ref 129) ⟨[(.ref x),(.str lnm (t+3))],[((sO "name"),(.bool true))]⟩,aVal (.str lnm (t+3)) 1 4),(.call (.builtin "str.lower") ⟨[(.str h0.k h0.u)],[]⟩,aStr g0),(.call (.builtin "str.__eq__") ⟨[(.str g0 (t+12)),(.str lnm (t+3))],[]⟩,aVal (.bool true) 0 0)]) (R_get_3_0 w n t x dx th l ep tn nm lnm h0 g0 h1 g1 h2 g2 rest):=by walk_at "r"
noncomputable def R_get_3_1 (w:World) (n t x dx th l ep tn:Nat) (nm lnm:Str) (h0:Hd) (g0:Str) (h1:Hd) (g1:Str) (h2:Hd) (g2:Str) (rest:List (Nat×Obj)):RR Fin :=
 runC w (.func (bodyOf (fdAt w 177)) (envAt w 177 n))
  ⟨(n,frO w.params t [(sO "self",.ref x),(sO "name",.str nm tn),(sO "default",.none)])::(tabC w x dx th l ep [h0,h1,h2]++rest),n+1,t+3⟩
  [1,2,0,0,0,2,0,0,0,2,0,0,0,0,2,3,1,1,0,1,1,1,1,2,0,0,0,0,2,0,0,0,2,2,0,3,4,4,0,4,1,2,1,0,1,1,1,5,1,1,1,6,6,6,0,6,1,1,0,1,1,1,7,1,1,1,0,1,1,1,7,1,1,1,0,1,1,1,7,1,1,1,5,5,5,5,5,1,5,1,4,0,4,4,4,8,4,4,4,10,10,10,0,10,1,1,0,1,1,1,11,1,1,1,0,1,1,1,11,1,1,1,0,1,1,1,11,1,1,1,8,8,8,8,8,1,8,1,8]
  [aStr lnm,aVal (.str lnm (t+3)) 1 4,aStr g0,aVal (.bool false) 0 0,aStr g1,aVal (.bool true) 0 0]
theorem get_3_1:∀(w:World) (n t x dx th l ep tn:Nat) (nm lnm:Str) (h0:Hd) (g0:Str) (h1:Hd) (g1:Str) (h2:Hd) (g2:Str) (rest:List (Nat×Obj)),(fun(A:RR Fin)=>valOf A=some (.ok (.done (.ret (.str h1.v h1.z))))∧psOf A=dup (psOf A)∧keepC [8,9,10,11,12,13] 14 (mOf A)=⟨tabC w x dx th l ep [h0,h1,h2]++rest,(n+9),(t+16)⟩∧(evOf A).reverse=evsIs A 0 [(.call (.builtin "str.lower") ⟨[(.str nm tn)],[]⟩,aStr lnm),(.call (.ref 129) ⟨[(.ref x),(.str lnm (t+3))],[((sO "name"),(.bool true))]⟩,aVal (.str lnm (t+3)) 1 4),(.call (.builtin "str.lower") ⟨[(.str h0.k h0.u)],[]⟩,aStr g0),(.call (.builtin "str.__eq__") ⟨[(.str g0 (t+12)),(.str lnm (t+3))],[]⟩,aVal (.bool false) 0 0),(.call (.builtin "str.lower") ⟨[(.str h1.k h1.u)],[]⟩,aStr g1),(.call (.builtin "str.__eq__") ⟨[(.str g1 (t+15)),(.str lnm (t+3))],[]⟩,aVal (.bool true) 0 0)]) (R_get_3_1 w n t x dx th l ep tn nm lnm h0 g0 h1 g1 h2 g2 rest):=by walk_at "r"
noncomputable def R_get_3_2 (w:World) (n t x dx th l ep tn:Nat) (nm lnm:Str) (h0:Hd) (g0:Str) (h1:Hd) (g1:Str) (h2:Hd) (g2:Str) (rest:List (Nat×Obj)):RR Fin :=
 runC w (.func (bodyOf (fdAt w 177)) (envAt w 177 n))
  ⟨(n,frO w.params t [(sO "self",.ref x),(sO "name",.str nm tn),(sO "default",.none)])::(tabC w x dx th l ep [h0,h1,h2]++rest),n+1,t+3⟩
  [1,2,0,0,0,2,0,0,0,2,0,0,0,0,2,3,1,1,0,1,1,1,1,2,0,0,0,0,2,0,0,0,2,2,0,3,4,4,0,4,1,2,1,0,1,1,1,5,1,1,1,6,6,6,0,6,1,1,0,1,1,1,7,1,1,1,0,1,1,1,7,1,1,1,0,1,1,1,7,1,1,1,5,5,5,5,5,1,5,1,4,0,4,4,4,8,4,4,4,10,10,10,0,10,1,1,0,1,1,1,11,1,1,1,0,1,1,1,11,1,1,1,0,1,1,1,11,1,1,1,8,8,8,8,8,1,8,1,7,0,7,7,7,11,7,7,7,14,14,14,0,14,1,1,0,1,1,1,15,1,1,1,0,1,1,1,15,1,1,1,0,1,1,1,15,1,1,1,11,11,11,11,11,1,11,1,11]
  [aStr lnm,aVal (.str lnm (t+3)) 1 4,aStr g0,aVal (.bool false) 0 0,aStr g1,aVal (.bool false) 0 0,aStr g2,aVal (.bool true) 0 0]
theorem get_3_2:∀(w:World) (n t x dx th l ep tn:Nat) (nm lnm:Str) (h0:Hd) (g0:Str) (h1:Hd) (g1:Str) (h2:Hd) (g2:Str) (rest:List (Nat×Obj)),(fun(A:RR Fin)=>valOf A=some (.ok (.done (.ret (.str h2.v h2.z))))∧psOf A=dup (psOf A)∧keepC [11,12,13,14,15,16] 17 (mOf A)=⟨tabC w x dx th l ep [h0,h1,h2]++rest,(n+12),(t+19)⟩∧(evOf A).reverse=evsIs A 0 [(.call (.builtin "str.lower") ⟨[(.str nm tn)],[]⟩,aStr lnm),(.call (.ref 129) ⟨[(.ref x),(.str lnm (t+3))],[((sO "name"),(.bool true))]⟩,aVal (.str lnm (t+3)) 1 4),(.call (.builtin "str.lower") ⟨[(.str h0.k h0.u)],[]⟩,aStr g0),(.call (.builtin "str.__eq__") ⟨[(.str g0 (t+12)),(.str lnm (t+3))],[]⟩,aVal (.bool false) 0 0),(.call (.builtin "str.lower") ⟨[(.str h1.k h1.u)],[]⟩,aStr g1),(.call (.builtin "str.__eq__") ⟨[(.str g1 (t+15)),(.str lnm (t+3))],[]⟩,aVal (.bool false) 0 0),(.call (.builtin "str.lower") ⟨[(.str h2.k h2.u)],[]⟩,aStr g2),(.call (.builtin "str.__eq__") ⟨[(.str g2 (t+18)),(.str lnm (t+3))],[]⟩,aVal (.bool true) 0 0)]) (R_get_3_2 w n t x dx th l ep tn nm lnm h0 g0 h1 g1 h2 g2 rest):=by walk_at "r"
noncomputable def R_get_4_0 (w:World) (n t x dx th l ep tn:Nat) (nm lnm:Str) (h0:Hd) (g0:Str) (h1:Hd) (g1:Str) (h2:Hd) (g2:Str) (h3:Hd) (g3:Str) (rest:List (Nat×Obj)):RR Fin :=
 runC w (.func (bodyOf (fdAt w 177)) (envAt w 177 n))
  ⟨(n,frO w.params t [(sO "self",.ref x),(sO "name",.str nm tn),(sO "default",.none)])::(tabC w x dx th l ep [h0,h1,h2,h3]++rest),n+1,t+3⟩
  [1,2,0,0,0,2,0,0,0,2,0,0,0,0,2,3,1,1,0,1,1,1,1,2,0,0,0,0,2,0,0,0,2,2,0,3,4,4,0,4,1,2,1,0,1,1,1,5,1,1,1,6,6,6,0,6,1,1,0,1,1,1,7,1,1,1,0,1,1,1,7,1,1,1,0,1,1,1,7,1,1,1,5,5,5,5,5,1,5,1,5]
  [aStr lnm,aVal (.str lnm (t+3)) 1 4,aStr g0,aVal (.bool true) 0 0]
theorem get_4_0:∀(w:World) (n t x dx th l ep tn:Nat) (nm lnm:Str) (h0:Hd) (g0:Str) (h1:Hd) (g1:Str) (h2:Hd) (g2:Str) (h3:Hd) (g3:Str) (rest:List (Nat×Obj)),(fun(A:RR Fin)=>valOf A=some (.ok (.done (.ret (.str h0.v h0.z))))∧psOf A=dup (psOf A)∧keepC [5,6,7,8,9,10,11] 12 (mOf A)=⟨tabC w x dx th l ep [h0,h1,h2,h3]++rest,(n+6),(t+13)⟩∧(evOf A).reverse=evsIs A 0 [(.call (.builtin "str.lower") ⟨[(.str nm tn)],[]⟩,aStr lnm),(.call (.ref 129) ⟨[(.ref x),(.str lnm (t+3))],[((sO "name"),(.bool true))]⟩,aVal (.str lnm (t+3)) 1 4),(.call (.builtin "str.lower") ⟨[(.str h0.k h0.u)],[]⟩,aStr g0),(.call (.builtin "str.__eq__") ⟨[(.str g0 (t+12)),(.str lnm (t+3))],[]⟩,aVal (.bool true) 0 0)]) (R_get_4_0 w n t x dx th l ep tn nm lnm h0 g0 h1 g1 h2 g2 h3 g3 rest):=by walk_at "r"
noncomputable def R_get_4_1 (w:World) (n t x dx th l ep tn:Nat) (nm lnm:Str) (h0:Hd) (g0:Str) (h1:Hd) (g1:Str) (h2:Hd) (g2:Str) (h3:Hd) (g3:Str) (rest:List (Nat×Obj)):RR Fin :=
 runC w (.func (bodyOf (fdAt w 177)) (envAt w 177 n))
  ⟨(n,frO w.params t [(sO "self",.ref x),(sO "name",.str nm tn),(sO "default",.none)])::(tabC w x dx th l ep [h0,h1,h2,h3]++rest),n+1,t+3⟩
  [1,2,0,0,0,2,0,0,0,2,0,0,0,0,2,3,1,1,0,1,1,1,1,2,0,0,0,0,2,0,0,0,2,2,0,3,4,4,0,4,1,2,1,0,1,1,1,5,1,1,1,6,6,6,0,6,1,1,0,1,1,1,7,1,1,1,0,1,1,1,7,1,1,1,0,1,1,1,7,1,1,1,5,5,5,5,5,1,5,1,4,0,4,4,4,8,4,4,4,10,10,10,0,10,1,1,0,1,1,1,11,1,1,1,0,1,1,1,11,1,1,1,0,1,1,1,11,1,1,1,8,8,8,8,8,1,8,1,8]
  [aStr lnm,aVal (.str lnm (t+3)) 1 4,aStr g0,aVal (.bool false) 0 0,aStr g1,aVal (.bool true) 0 0]
theorem get_4_1:∀(w:World) (n t x dx th l ep tn:Nat) (nm lnm:Str) (h0:Hd) (g0:Str) (h1:Hd) (g1:Str) (h2:Hd) (g2:Str) (h3:Hd) (g3:Str) (rest:List (Nat×Obj)),(fun(A:RR Fin)=>valOf A=some (.ok (.done (.ret (.str h1.v h1.z))))∧psOf A=dup (psOf A)∧keepC [8,9,10,11,12,13,14] 15 (mOf A)=⟨tabC w x dx th l ep [h0,h1,h2,h3]++rest,(n+9),(t+16)⟩∧(evOf A).reverse=evsIs A 0 [(.call (.builtin "str.lower") ⟨[(.str nm tn)],[]⟩,aStr lnm),(.call (.ref 129) ⟨[(.ref x),(.str lnm (t+3))],[((sO "name"),(.bool true))]⟩,aVal (.str lnm (t+3)) 1 4),(.call (.builtin "str.lower") ⟨[(.str h0.k h0.u)],[]⟩,aStr g0),(.call (.builtin "str.__eq__") ⟨[(.str g0 (t+12)),(.str lnm (t+3))],[]⟩,aVal (.bool false) 0 0),(.call (.builtin "str.lower") ⟨[(.str h1.k h1.u)],[]⟩,aStr g1),(.call (.builtin "str.__eq__") ⟨[(.str g1 (t+15)),(.str lnm (t+3))],[]⟩,aVal (.bool true) 0 0)]) (R_get_4_1 w n t x dx th l ep tn nm lnm h0 g0 h1 g1 h2 g2 h3 g3 rest):=by walk_at "r"
noncomputable def R_get_4_2 (w:World) (n t x dx th l ep tn:Nat) (nm lnm:Str) (h0:Hd) (g0:Str) (h1:Hd) (g1:Str) (h2:Hd) (g2:Str) (h3:Hd) (g3:Str) (rest:List (Nat×Obj)):RR Fin :=
 runC w (.func (bodyOf (fdAt w 177)) (envAt w 177 n))
  ⟨(n,frO w.params t [(sO "self",.ref x),(sO "name",.str nm tn),(sO "default",.none)])::(tabC w x dx th l ep [h0,h1,h2,h3]++rest),n+1,t+3⟩
  [1,2,0,0,0,2,0,0,0,2,0,0,0,0,2,3,1,1,0,1,1,1,1,2,0,0,0,0,2,0,0,0,2,2,0,3,4,4,0,4,1,2,1,0,1,1,1,5,1,1,1,6,6,6,0,6,1,1,0,1,1,1,7,1,1,1,0,1,1,1,7,1,1,1,0,1,1,1,7,1,1,1,5,5,5,5,5,1,5,1,4,0,4,4,4,8,4,4,4,10,10,10,0,10,1,1,0,1,1,1,11,1,1,1,0,1,1,1,11,1,1,1,0,1,1,1,11,1,1,1,8,8,8,8,8,1,8,1,7,0,7,7,7,11,7,7,7,14,14,14,0,14,1,1,0,1,1,1,15,1,1,1,0,1,1,1,15,1,1,1,0,1,1,1,15,1,1,1,11,11,11,11,11,1,11,1,11]
  [aStr lnm,aVal (.str lnm (t+3)) 1 4,aStr g0,aVal (.bool false) 0 0,aStr g1,aVal (.bool false) 0 0,aStr g2,aVal (.bool true) 0 0]
theorem get_4_2:∀(w:World) (n t x dx th l ep tn:Nat) (nm lnm:Str) (h0:Hd) (g0:Str) (h1:Hd) (g1:Str) (h2:Hd) (g2:Str) (h3:Hd) (g3:Str) (rest:List (Nat×Obj)),(fun(A:RR Fin)=>valOf A=some (.ok (.done (.ret (.str h2.v h2.z))))∧psOf A=dup (psOf A)∧keepC [11,12,13,14,15,16,17] 18 (mOf A)=⟨tabC w x dx th l ep [h0,h1,h2,h3]++rest,(n+12),(t+19)⟩∧(evOf A).reverse=evsIs A 0 [(.call (.builtin "str.lower") ⟨[(.str nm tn)],[]⟩,aStr lnm),(.call (.ref 129) ⟨[(.ref x),(.str lnm (t+3))],[((sO "name"),(.bool true))]⟩,aVal (.str lnm (t+3)) 1 4),(.call (.builtin "str.lower") ⟨[(.str h0.k h0.u)],[]⟩,aStr g0),(.call (.builtin "str.__eq__") ⟨[(.str g0 (t+12)),(.str lnm (t+3))],[]⟩,aVal (.bool false) 0 0),(.call (.builtin "str.lower") ⟨[(.str h1.k h1.u)],[]⟩,aStr g1),(.call (.builtin "str.__eq__") ⟨[(.str g1 (t+15)),(.str lnm (t+3))],[]⟩,aVal (.bool false) 0 0),(.call (.builtin "str.lower") ⟨[(.str h2.k h2.u)],[]⟩,aStr g2),(.call (.builtin "str.__eq__") ⟨[(.str g2 (t+18)),(.str lnm (t+3))],[]⟩,aVal (.bool true) 0 0)]) (R_get_4_2 w n t x dx th l ep tn nm lnm h0 g0 h1 g1 h2 g2 h3 g3 rest):=by walk_at "r"
noncomputable def R_get_4_3 (w:World) (n t x dx th l ep tn:Nat) (nm lnm:Str) (h0:Hd) (g0:Str) (h1:Hd) (g1:Str) (h2:Hd) (g2:Str) (h3:Hd) (g3:Str) (rest:List (Nat×Obj)):RR Fin :=
 runC w (.func (bodyOf (fdAt w 177)) (envAt w 177 n))
  ⟨(n,frO w.params t [(sO "self",.ref x),(sO "name",.str nm tn),(sO "default",.none)])::(tabC w x dx th l ep [h0,h1,h2,h3]++rest),n+1,t+3⟩
  [1,2,0,0,0,2,0,0,0,2,0,0,0,0,2,3,1,1,0,1,1,1,1,2,0,0,0,0,2,0,0,0,2,2,0,3,4,4,0,4,1,2,1,0,1,1,1,5,1,1,1,6,6,6,0,6,1,1,0,1,1,1,7,1,1,1,0,1,1,1,7,1,1,1,0,1,1,1,7,1,1,1,5,5,5,5,5,1,5,1,4,0,4,4,4,8,4,4,4,10,10,10,0,10,1,1,0,1,1,1,11,1,1,1,0,1,1,1,11,1,1,1,0,1,1,1,11,1,1,1,8,8,8,8,8,1,8,1,7,0,7,7,7,11,7,7,7,14,14,14,0,14,1,1,0,1,1,1,15,1,1,1,0,1,1,1,15,1,1,1,0,1,1,1,15,1,1,1,11,11,11,11,11,1,11,1,10,0,10,10,10,14,10,10,10,18,18,18,0,18,1,1,0,1,1,1,19,1,1,1,0,1,1,1,19,1,1,1,0,1,1,1,19,1,1,1,14,14,14,14,14,1,14,1,14]
  [aStr lnm,aVal (.str lnm (t+3)) 1 4,aStr g0,aVal (.bool false) 0 0,aStr g1,aVal (.bool false) 0 0,aStr g2,aVal (.bool false) 0 0,aStr g3,aVal (.bool true) 0 0]
theorem get_4_3:∀(w:World) (n t x dx th l ep tn:Nat) (nm lnm:Str) (h0:Hd) (g0:Str) (h1:Hd) (g1:Str) (h2:Hd) (g2:Str) (h3:Hd) (g3:Str) (rest:List (Nat×Obj)),(fun(A:RR Fin)=>valOf A=some (.ok (.done (.ret (.str h3.v h3.z))))∧psOf A=dup (psOf A)∧keepC [14,15,16,17,18,19,20] 21 (mOf A)=⟨tabC w x dx th l ep [h0,h1,h2,h3]++rest,(n+15),(t+22)⟩∧(evOf A).reverse=evsIs A 0 [(.call (.builtin "str.lower") ⟨[(.str nm tn)],[]⟩,aStr lnm),(.call (.ref 129) ⟨[(.ref x),(.str lnm (t+3))],[((sO "name"),(.bool true))]⟩,aVal (.str lnm (t+3)) 1 4),(.call (.builtin "str.lower") ⟨[(.str h0.k h0.u)],[]⟩,aStr g0),(.call (.builtin "str.__eq__") ⟨[(.str g0 (t+12)),(.str lnm (t+3))],[]⟩,aVal (.bool false) 0 0),(.call (.builtin "str.lower") ⟨[(.str h1.k h1.u)],[]⟩,aStr g1),(.call (.builtin "str.__eq__") ⟨[(.str g1 (t+15)),(.str lnm (t+3))],[]⟩,aVal (.bool false) 0 0),(.call (.builtin "str.lower") ⟨[(.str h2.k h2.u)],[]⟩,aStr g2),(.call (.builtin "str.__eq__") ⟨[(.str g2 (t+18)),(.str lnm (t+3))],[]⟩,aVal (.bool false) 0 0),(.call (.builtin "str.lower") ⟨[(.str h3.k h3.u)],[]⟩,aStr g3),(.call (.builtin "str.__eq__") ⟨[(.str g3 (t+21)),(.str lnm (t+3))],[]⟩,aVal (.bool true) 0 0)]) (R_get_4_3 w n t x dx th l ep tn nm lnm h0 g0 h1 g1 h2 g2 h3 g3 rest):=by walk_at "r"
theorem quo_in {w:World} {h₀:Heap} {os:OsState} (B:Base w h₀) {k:Nat} (hk:k≤200) (tv:Nat) (s:Str) (n t:Nat) (rest:List (Nat×Obj)) {r:Result} {m':SM}
  (h:Spec w h₀ os k (.func (bodyOf (fdAt w 97)) (envAt w 97 n)) ⟨(n,frO w.params t [((sO "data"),(.str s tv))])::rest,n+1,t+1⟩ r m') :
  Spec w h₀ os k (.call (.ref 97) ⟨[.str s tv],[]⟩) ⟨rest,n,t⟩ r m' :=
 spec_fn B (by kernel_rfl) (show RT3 (runT w (bindZ (fdAt w 97) ⟨[.str s tv],[]⟩) ⟨rest,n,t⟩ []) (.ok [((sO "data"),(.str s tv))]) ⟨rest,n,t⟩ from⟨by kernel_rfl,by kernel_rfl,by kernel_rfl⟩)
  (show RT3 (runT w (envZ (fdAt w 97).scope (fdAt w 97).globals (fdAt w 97).closure [((sO "data"),(.str s tv))] ((fdAt w 97).qualname++sO ".<locals>.") (some 97) (fdAt w 97).code none (fdAt w 97).builtins) ⟨rest,n,t⟩ [1,1]) (.ok (envAt w 97 n)) ⟨(n,frO w.params t [((sO "data"),(.str s tv))])::rest,n+1,t+1⟩ from⟨by kernel_rfl,by kernel_rfl,by kernel_rfl⟩) h hk
noncomputable def R_quo_n1 (w:World) (n t tv:Nat) (rest:List (Nat×Obj)):RR Fin :=
 runC w (.func (bodyOf (fdAt w 97)) (envAt w 97 n))
  ⟨(n,frO w.params t [(sO "data",.str (sO ".\n") tv)])::rest,n+1,t+1⟩
  [0,0,0,0,0,0,0,0,0,0,0,1,0,0,0,0,0,0,1,1,1,1,1,1,0,0,1,0,1,1,0,0,0,0,0,0,1,1,1,0,0,1,1,1,1,0,1,1]
  []
theorem quo_n1:∀(w:World) (n t tv:Nat) (rest:List (Nat×Obj)),
 valOf (R_quo_n1 w n t tv rest)=some (.ok (.done (.ret (.str (sO "..\x0d\n") (t+7))))) ∧
 psOf (R_quo_n1 w n t tv rest)=dup (psOf (R_quo_n1 w n t tv rest)) ∧
 keepC [] 3 (mOf (R_quo_n1 w n t tv rest))=⟨rest,(n+3),(t+8)⟩ ∧
 (evOf (R_quo_n1 w n t tv rest)).reverse=evsIs (R_quo_n1 w n t tv rest) 0 []:=by
 (intros;exact⟨by kernel_rfl,by kernel_rfl,by kernel_rfl,by kernel_rfl⟩)
noncomputable def R_quo_n2 (w:World) (n t tv:Nat) (rest:List (Nat×Obj)):RR Fin :=
 runC w (.func (bodyOf (fdAt w 97)) (envAt w 97 n))
  ⟨(n,frO w.params t [(sO "data",.str (sO "..\n") tv)])::rest,n+1,t+1⟩
  [0,0,0,0,0,0,0,0,0,0,0,1,0,0,0,0,0,0,1,1,1,1,1,1,0,0,1,0,1,1,0,0,0,0,0,0,1,1,1,0,0,1,1,1,1,0,1,1]
  []
theorem quo_n2:∀(w:World) (n t tv:Nat) (rest:List (Nat×Obj)),
 valOf (R_quo_n2 w n t tv rest)=some (.ok (.done (.ret (.str (sO "...\x0d\n") (t+7))))) ∧
 psOf (R_quo_n2 w n t tv rest)=dup (psOf (R_quo_n2 w n t tv rest)) ∧
 keepC [] 3 (mOf (R_quo_n2 w n t tv rest))=⟨rest,(n+3),(t+8)⟩ ∧
 (evOf (R_quo_n2 w n t tv rest)).reverse=evsIs (R_quo_n2 w n t tv rest) 0 []:=by
 (intros;exact⟨by kernel_rfl,by kernel_rfl,by kernel_rfl,by kernel_rfl⟩)
noncomputable def R_quo_n3 (w:World) (n t tv:Nat) (rest:List (Nat×Obj)):RR Fin :=
 runC w (.func (bodyOf (fdAt w 97)) (envAt w 97 n))
  ⟨(n,frO w.params t [(sO "data",.str (sO "...\n") tv)])::rest,n+1,t+1⟩
  [0,0,0,0,0,0,0,0,0,0,0,1,0,0,0,0,0,0,1,1,1,1,1,1,0,0,1,0,1,1,0,0,0,0,0,0,1,1,1,0,0,1,1,1,1,0,1,1]
  []
theorem quo_n3:∀(w:World) (n t tv:Nat) (rest:List (Nat×Obj)),
 valOf (R_quo_n3 w n t tv rest)=some (.ok (.done (.ret (.str (sO "....\x0d\n") (t+7))))) ∧
 psOf (R_quo_n3 w n t tv rest)=dup (psOf (R_quo_n3 w n t tv rest)) ∧
 keepC [] 3 (mOf (R_quo_n3 w n t tv rest))=⟨rest,(n+3),(t+8)⟩ ∧
 (evOf (R_quo_n3 w n t tv rest)).reverse=evsIs (R_quo_n3 w n t tv rest) 0 []:=by
 (intros;exact⟨by kernel_rfl,by kernel_rfl,by kernel_rfl,by kernel_rfl⟩)
noncomputable def R_quo_n4 (w:World) (n t tv:Nat) (rest:List (Nat×Obj)):RR Fin :=
 runC w (.func (bodyOf (fdAt w 97)) (envAt w 97 n))
  ⟨(n,frO w.params t [(sO "data",.str (sO "....\n") tv)])::rest,n+1,t+1⟩
  [0,0,0,0,0,0,0,0,0,0,0,1,0,0,0,0,0,0,1,1,1,1,1,1,0,0,1,0,1,1,0,0,0,0,0,0,1,1,1,0,0,1,1,1,1,0,1,1]
  []
theorem quo_n4:∀(w:World) (n t tv:Nat) (rest:List (Nat×Obj)),
 valOf (R_quo_n4 w n t tv rest)=some (.ok (.done (.ret (.str (sO ".....\x0d\n") (t+7))))) ∧
 psOf (R_quo_n4 w n t tv rest)=dup (psOf (R_quo_n4 w n t tv rest)) ∧
 keepC [] 3 (mOf (R_quo_n4 w n t tv rest))=⟨rest,(n+3),(t+8)⟩ ∧
 (evOf (R_quo_n4 w n t tv rest)).reverse=evsIs (R_quo_n4 w n t tv rest) 0 []:=by
 (intros;exact⟨by kernel_rfl,by kernel_rfl,by kernel_rfl,by kernel_rfl⟩)
noncomputable def R_quo_n5 (w:World) (n t tv:Nat) (rest:List (Nat×Obj)):RR Fin :=
 runC w (.func (bodyOf (fdAt w 97)) (envAt w 97 n))
  ⟨(n,frO w.params t [(sO "data",.str (sO ".....\n") tv)])::rest,n+1,t+1⟩
  [0,0,0,0,0,0,0,0,0,0,0,1,0,0,0,0,0,0,1,1,1,1,1,1,0,0,1,0,1,1,0,0,0,0,0,0,1,1,1,0,0,1,1,1,1,0,1,1]
  []
theorem quo_n5:∀(w:World) (n t tv:Nat) (rest:List (Nat×Obj)),
 valOf (R_quo_n5 w n t tv rest)=some (.ok (.done (.ret (.str (sO "......\x0d\n") (t+7))))) ∧
 psOf (R_quo_n5 w n t tv rest)=dup (psOf (R_quo_n5 w n t tv rest)) ∧
 keepC [] 3 (mOf (R_quo_n5 w n t tv rest))=⟨rest,(n+3),(t+8)⟩ ∧
 (evOf (R_quo_n5 w n t tv rest)).reverse=evsIs (R_quo_n5 w n t tv rest) 0 []:=by
 (intros;exact⟨by kernel_rfl,by kernel_rfl,by kernel_rfl,by kernel_rfl⟩)
noncomputable def R_quo_n6 (w:World) (n t tv:Nat) (rest:List (Nat×Obj)):RR Fin :=
 runC w (.func (bodyOf (fdAt w 97)) (envAt w 97 n))
  ⟨(n,frO w.params t [(sO "data",.str (sO "......\n") tv)])::rest,n+1,t+1⟩
  [0,0,0,0,0,0,0,0,0,0,0,1,0,0,0,0,0,0,1,1,1,1,1,1,0,0,1,0,1,1,0,0,0,0,0,0,1,1,1,0,0,1,1,1,1,0,1,1]
  []
theorem quo_n6:∀(w:World) (n t tv:Nat) (rest:List (Nat×Obj)),
 valOf (R_quo_n6 w n t tv rest)=some (.ok (.done (.ret (.str (sO ".......\x0d\n") (t+7))))) ∧
 psOf (R_quo_n6 w n t tv rest)=dup (psOf (R_quo_n6 w n t tv rest)) ∧
 keepC [] 3 (mOf (R_quo_n6 w n t tv rest))=⟨rest,(n+3),(t+8)⟩ ∧
 (evOf (R_quo_n6 w n t tv rest)).reverse=evsIs (R_quo_n6 w n t tv rest) 0 []:=by
 (intros;exact⟨by kernel_rfl,by kernel_rfl,by kernel_rfl,by kernel_rfl⟩)
noncomputable def R_quo_r1 (w:World) (n t tv:Nat) (rest:List (Nat×Obj)):RR Fin :=
 runC w (.func (bodyOf (fdAt w 97)) (envAt w 97 n))
  ⟨(n,frO w.params t [(sO "data",.str (sO ".\x0d") tv)])::rest,n+1,t+1⟩
  [0,0,0,0,0,0,0,0,0,0,0,1,0,0,0,0,0,0,1,1,1,1,1,1,0,0,1,0,1,1,0,0,0,0,0,0,1,1,1,0,0,1,1,1,1,0,1,1]
  []
theorem quo_r1:∀(w:World) (n t tv:Nat) (rest:List (Nat×Obj)),
 valOf (R_quo_r1 w n t tv rest)=some (.ok (.done (.ret (.str (sO "..\x0d\n") (t+7))))) ∧
 psOf (R_quo_r1 w n t tv rest)=dup (psOf (R_quo_r1 w n t tv rest)) ∧
 keepC [] 3 (mOf (R_quo_r1 w n t tv rest))=⟨rest,(n+3),(t+8)⟩ ∧
 (evOf (R_quo_r1 w n t tv rest)).reverse=evsIs (R_quo_r1 w n t tv rest) 0 []:=by
 (intros;exact⟨by kernel_rfl,by kernel_rfl,by kernel_rfl,by kernel_rfl⟩)
noncomputable def R_quo_r2 (w:World) (n t tv:Nat) (rest:List (Nat×Obj)):RR Fin :=
 runC w (.func (bodyOf (fdAt w 97)) (envAt w 97 n))
  ⟨(n,frO w.params t [(sO "data",.str (sO "..\x0d") tv)])::rest,n+1,t+1⟩
  [0,0,0,0,0,0,0,0,0,0,0,1,0,0,0,0,0,0,1,1,1,1,1,1,0,0,1,0,1,1,0,0,0,0,0,0,1,1,1,0,0,1,1,1,1,0,1,1]
  []
theorem quo_r2:∀(w:World) (n t tv:Nat) (rest:List (Nat×Obj)),
 valOf (R_quo_r2 w n t tv rest)=some (.ok (.done (.ret (.str (sO "...\x0d\n") (t+7))))) ∧
 psOf (R_quo_r2 w n t tv rest)=dup (psOf (R_quo_r2 w n t tv rest)) ∧
 keepC [] 3 (mOf (R_quo_r2 w n t tv rest))=⟨rest,(n+3),(t+8)⟩ ∧
 (evOf (R_quo_r2 w n t tv rest)).reverse=evsIs (R_quo_r2 w n t tv rest) 0 []:=by
 (intros;exact⟨by kernel_rfl,by kernel_rfl,by kernel_rfl,by kernel_rfl⟩)
noncomputable def R_quo_r3 (w:World) (n t tv:Nat) (rest:List (Nat×Obj)):RR Fin :=
 runC w (.func (bodyOf (fdAt w 97)) (envAt w 97 n))
  ⟨(n,frO w.params t [(sO "data",.str (sO "...\x0d") tv)])::rest,n+1,t+1⟩
  [0,0,0,0,0,0,0,0,0,0,0,1,0,0,0,0,0,0,1,1,1,1,1,1,0,0,1,0,1,1,0,0,0,0,0,0,1,1,1,0,0,1,1,1,1,0,1,1]
  []
theorem quo_r3:∀(w:World) (n t tv:Nat) (rest:List (Nat×Obj)),
 valOf (R_quo_r3 w n t tv rest)=some (.ok (.done (.ret (.str (sO "....\x0d\n") (t+7))))) ∧
 psOf (R_quo_r3 w n t tv rest)=dup (psOf (R_quo_r3 w n t tv rest)) ∧
 keepC [] 3 (mOf (R_quo_r3 w n t tv rest))=⟨rest,(n+3),(t+8)⟩ ∧
 (evOf (R_quo_r3 w n t tv rest)).reverse=evsIs (R_quo_r3 w n t tv rest) 0 []:=by
 (intros;exact⟨by kernel_rfl,by kernel_rfl,by kernel_rfl,by kernel_rfl⟩)
noncomputable def R_quo_r4 (w:World) (n t tv:Nat) (rest:List (Nat×Obj)):RR Fin :=
 runC w (.func (bodyOf (fdAt w 97)) (envAt w 97 n))
  ⟨(n,frO w.params t [(sO "data",.str (sO "....\x0d") tv)])::rest,n+1,t+1⟩
  [0,0,0,0,0,0,0,0,0,0,0,1,0,0,0,0,0,0,1,1,1,1,1,1,0,0,1,0,1,1,0,0,0,0,0,0,1,1,1,0,0,1,1,1,1,0,1,1]
  []
theorem quo_r4:∀(w:World) (n t tv:Nat) (rest:List (Nat×Obj)),
 valOf (R_quo_r4 w n t tv rest)=some (.ok (.done (.ret (.str (sO ".....\x0d\n") (t+7))))) ∧
 psOf (R_quo_r4 w n t tv rest)=dup (psOf (R_quo_r4 w n t tv rest)) ∧
 keepC [] 3 (mOf (R_quo_r4 w n t tv rest))=⟨rest,(n+3),(t+8)⟩ ∧
 (evOf (R_quo_r4 w n t tv rest)).reverse=evsIs (R_quo_r4 w n t tv rest) 0 []:=by
 (intros;exact⟨by kernel_rfl,by kernel_rfl,by kernel_rfl,by kernel_rfl⟩)
noncomputable def R_quo_r5 (w:World) (n t tv:Nat) (rest:List (Nat×Obj)):RR Fin :=
 runC w (.func (bodyOf (fdAt w 97)) (envAt w 97 n))
  ⟨(n,frO w.params t [(sO "data",.str (sO ".....\x0d") tv)])::rest,n+1,t+1⟩
  [0,0,0,0,0,0,0,0,0,0,0,1,0,0,0,0,0,0,1,1,1,1,1,1,0,0,1,0,1,1,0,0,0,0,0,0,1,1,1,0,0,1,1,1,1,0,1,1]
  []
theorem quo_r5:∀(w:World) (n t tv:Nat) (rest:List (Nat×Obj)),
 valOf (R_quo_r5 w n t tv rest)=some (.ok (.done (.ret (.str (sO "......\x0d\n") (t+7))))) ∧
 psOf (R_quo_r5 w n t tv rest)=dup (psOf (R_quo_r5 w n t tv rest)) ∧
 keepC [] 3 (mOf (R_quo_r5 w n t tv rest))=⟨rest,(n+3),(t+8)⟩ ∧
 (evOf (R_quo_r5 w n t tv rest)).reverse=evsIs (R_quo_r5 w n t tv rest) 0 []:=by
 (intros;exact⟨by kernel_rfl,by kernel_rfl,by kernel_rfl,by kernel_rfl⟩)
noncomputable def R_quo_r6 (w:World) (n t tv:Nat) (rest:List (Nat×Obj)):RR Fin :=
 runC w (.func (bodyOf (fdAt w 97)) (envAt w 97 n))
  ⟨(n,frO w.params t [(sO "data",.str (sO "......\x0d") tv)])::rest,n+1,t+1⟩
  [0,0,0,0,0,0,0,0,0,0,0,1,0,0,0,0,0,0,1,1,1,1,1,1,0,0,1,0,1,1,0,0,0,0,0,0,1,1,1,0,0,1,1,1,1,0,1,1]
  []
theorem quo_r6:∀(w:World) (n t tv:Nat) (rest:List (Nat×Obj)),
 valOf (R_quo_r6 w n t tv rest)=some (.ok (.done (.ret (.str (sO ".......\x0d\n") (t+7))))) ∧
 psOf (R_quo_r6 w n t tv rest)=dup (psOf (R_quo_r6 w n t tv rest)) ∧
 keepC [] 3 (mOf (R_quo_r6 w n t tv rest))=⟨rest,(n+3),(t+8)⟩ ∧
 (evOf (R_quo_r6 w n t tv rest)).reverse=evsIs (R_quo_r6 w n t tv rest) 0 []:=by
 (intros;exact⟨by kernel_rfl,by kernel_rfl,by kernel_rfl,by kernel_rfl⟩)
noncomputable def R_quo_rn1 (w:World) (n t tv:Nat) (rest:List (Nat×Obj)):RR Fin :=
 runC w (.func (bodyOf (fdAt w 97)) (envAt w 97 n))
  ⟨(n,frO w.params t [(sO "data",.str (sO ".\x0d\n") tv)])::rest,n+1,t+1⟩
  [0,0,0,0,0,0,0,0,0,0,0,1,0,0,0,0,0,0,1,1,1,1,1,1,0,0,1,0,1,1,0,0,0,0,0,0,1,1,1,0,0,1,1,1,1,0,1,1]
  []
theorem quo_rn1:∀(w:World) (n t tv:Nat) (rest:List (Nat×Obj)),
 valOf (R_quo_rn1 w n t tv rest)=some (.ok (.done (.ret (.str (sO "..\x0d\n") (t+7))))) ∧
 psOf (R_quo_rn1 w n t tv rest)=dup (psOf (R_quo_rn1 w n t tv rest)) ∧
 keepC [] 3 (mOf (R_quo_rn1 w n t tv rest))=⟨rest,(n+3),(t+8)⟩ ∧
 (evOf (R_quo_rn1 w n t tv rest)).reverse=evsIs (R_quo_rn1 w n t tv rest) 0 []:=by
 (intros;exact⟨by kernel_rfl,by kernel_rfl,by kernel_rfl,by kernel_rfl⟩)
noncomputable def R_quo_rn2 (w:World) (n t tv:Nat) (rest:List (Nat×Obj)):RR Fin :=
 runC w (.func (bodyOf (fdAt w 97)) (envAt w 97 n))
  ⟨(n,frO w.params t [(sO "data",.str (sO "..\x0d\n") tv)])::rest,n+1,t+1⟩
  [0,0,0,0,0,0,0,0,0,0,0,1,0,0,0,0,0,0,1,1,1,1,1,1,0,0,1,0,1,1,0,0,0,0,0,0,1,1,1,0,0,1,1,1,1,0,1,1]
  []
theorem quo_rn2:∀(w:World) (n t tv:Nat) (rest:List (Nat×Obj)),
 valOf (R_quo_rn2 w n t tv rest)=some (.ok (.done (.ret (.str (sO "...\x0d\n") (t+7))))) ∧
 psOf (R_quo_rn2 w n t tv rest)=dup (psOf (R_quo_rn2 w n t tv rest)) ∧
 keepC [] 3 (mOf (R_quo_rn2 w n t tv rest))=⟨rest,(n+3),(t+8)⟩ ∧
 (evOf (R_quo_rn2 w n t tv rest)).reverse=evsIs (R_quo_rn2 w n t tv rest) 0 []:=by
 (intros;exact⟨by kernel_rfl,by kernel_rfl,by kernel_rfl,by kernel_rfl⟩)
noncomputable def R_quo_rn3 (w:World) (n t tv:Nat) (rest:List (Nat×Obj)):RR Fin :=
 runC w (.func (bodyOf (fdAt w 97)) (envAt w 97 n))
  ⟨(n,frO w.params t [(sO "data",.str (sO "...\x0d\n") tv)])::rest,n+1,t+1⟩
  [0,0,0,0,0,0,0,0,0,0,0,1,0,0,0,0,0,0,1,1,1,1,1,1,0,0,1,0,1,1,0,0,0,0,0,0,1,1,1,0,0,1,1,1,1,0,1,1]
  []
theorem quo_rn3:∀(w:World) (n t tv:Nat) (rest:List (Nat×Obj)),
 valOf (R_quo_rn3 w n t tv rest)=some (.ok (.done (.ret (.str (sO "....\x0d\n") (t+7))))) ∧
 psOf (R_quo_rn3 w n t tv rest)=dup (psOf (R_quo_rn3 w n t tv rest)) ∧
 keepC [] 3 (mOf (R_quo_rn3 w n t tv rest))=⟨rest,(n+3),(t+8)⟩ ∧
 (evOf (R_quo_rn3 w n t tv rest)).reverse=evsIs (R_quo_rn3 w n t tv rest) 0 []:=by
 (intros;exact⟨by kernel_rfl,by kernel_rfl,by kernel_rfl,by kernel_rfl⟩)
noncomputable def R_quo_rn4 (w:World) (n t tv:Nat) (rest:List (Nat×Obj)):RR Fin :=
 runC w (.func (bodyOf (fdAt w 97)) (envAt w 97 n))
  ⟨(n,frO w.params t [(sO "data",.str (sO "....\x0d\n") tv)])::rest,n+1,t+1⟩
  [0,0,0,0,0,0,0,0,0,0,0,1,0,0,0,0,0,0,1,1,1,1,1,1,0,0,1,0,1,1,0,0,0,0,0,0,1,1,1,0,0,1,1,1,1,0,1,1]
  []
theorem quo_rn4:∀(w:World) (n t tv:Nat) (rest:List (Nat×Obj)),
 valOf (R_quo_rn4 w n t tv rest)=some (.ok (.done (.ret (.str (sO ".....\x0d\n") (t+7))))) ∧
 psOf (R_quo_rn4 w n t tv rest)=dup (psOf (R_quo_rn4 w n t tv rest)) ∧
 keepC [] 3 (mOf (R_quo_rn4 w n t tv rest))=⟨rest,(n+3),(t+8)⟩ ∧
 (evOf (R_quo_rn4 w n t tv rest)).reverse=evsIs (R_quo_rn4 w n t tv rest) 0 []:=by
 (intros;exact⟨by kernel_rfl,by kernel_rfl,by kernel_rfl,by kernel_rfl⟩)
noncomputable def R_quo_rn5 (w:World) (n t tv:Nat) (rest:List (Nat×Obj)):RR Fin :=
 runC w (.func (bodyOf (fdAt w 97)) (envAt w 97 n))
  ⟨(n,frO w.params t [(sO "data",.str (sO ".....\x0d\n") tv)])::rest,n+1,t+1⟩
  [0,0,0,0,0,0,0,0,0,0,0,1,0,0,0,0,0,0,1,1,1,1,1,1,0,0,1,0,1,1,0,0,0,0,0,0,1,1,1,0,0,1,1,1,1,0,1,1]
  []
theorem quo_rn5:∀(w:World) (n t tv:Nat) (rest:List (Nat×Obj)),
 valOf (R_quo_rn5 w n t tv rest)=some (.ok (.done (.ret (.str (sO "......\x0d\n") (t+7))))) ∧
 psOf (R_quo_rn5 w n t tv rest)=dup (psOf (R_quo_rn5 w n t tv rest)) ∧
 keepC [] 3 (mOf (R_quo_rn5 w n t tv rest))=⟨rest,(n+3),(t+8)⟩ ∧
 (evOf (R_quo_rn5 w n t tv rest)).reverse=evsIs (R_quo_rn5 w n t tv rest) 0 []:=by
 (intros;exact⟨by kernel_rfl,by kernel_rfl,by kernel_rfl,by kernel_rfl⟩)
noncomputable def R_quo_rn6 (w:World) (n t tv:Nat) (rest:List (Nat×Obj)):RR Fin :=
 runC w (.func (bodyOf (fdAt w 97)) (envAt w 97 n))
  ⟨(n,frO w.params t [(sO "data",.str (sO "......\x0d\n") tv)])::rest,n+1,t+1⟩
  [0,0,0,0,0,0,0,0,0,0,0,1,0,0,0,0,0,0,1,1,1,1,1,1,0,0,1,0,1,1,0,0,0,0,0,0,1,1,1,0,0,1,1,1,1,0,1,1]
  []
theorem quo_rn6:∀(w:World) (n t tv:Nat) (rest:List (Nat×Obj)),
 valOf (R_quo_rn6 w n t tv rest)=some (.ok (.done (.ret (.str (sO ".......\x0d\n") (t+7))))) ∧
 psOf (R_quo_rn6 w n t tv rest)=dup (psOf (R_quo_rn6 w n t tv rest)) ∧
 keepC [] 3 (mOf (R_quo_rn6 w n t tv rest))=⟨rest,(n+3),(t+8)⟩ ∧
 (evOf (R_quo_rn6 w n t tv rest)).reverse=evsIs (R_quo_rn6 w n t tv rest) 0 []:=by
 (intros;exact⟨by kernel_rfl,by kernel_rfl,by kernel_rfl,by kernel_rfl⟩)
theorem hin_in {w:World} {h₀:Heap} {os:OsState} (B:Base w h₀) {k:Nat} (hk:k≤200) (x:Nat) (n t:Nat) (rest:List (Nat×Obj)) {r:Result} {m':SM}
  (h:Spec w h₀ os k (.func (bodyOf (fdAt w 122)) (envAt w 122 n)) ⟨(n,frO w.params t [((sO "self"),(.ref x)),((sO "headers"),.none)])::rest,n+1,t+2⟩ r m') :
  Spec w h₀ os k (.call (.ref 122) ⟨[.ref x],[]⟩) ⟨rest,n,t⟩ r m' :=
 spec_fn B (by kernel_rfl) (show RT3 (runT w (bindZ (fdAt w 122) ⟨[.ref x],[]⟩) ⟨rest,n,t⟩ [0]) (.ok [((sO "self"),(.ref x)),((sO "headers"),.none)]) ⟨rest,n,t⟩ from⟨by kernel_rfl,by kernel_rfl,by kernel_rfl⟩)
  (show RT3 (runT w (envZ (fdAt w 122).scope (fdAt w 122).globals (fdAt w 122).closure [((sO "self"),(.ref x)),((sO "headers"),.none)] ((fdAt w 122).qualname++sO ".<locals>.") (some 122) (fdAt w 122).code none (fdAt w 122).builtins) ⟨rest,n,t⟩ [1,1,1,1]) (.ok (envAt w 122 n)) ⟨(n,frO w.params t [((sO "self"),(.ref x)),((sO "headers"),.none)])::rest,n+1,t+2⟩ from⟨by kernel_rfl,by kernel_rfl,by kernel_rfl⟩) h hk
noncomputable def R_hin_r (w:World) (n t x dx:Nat) (rest:List (Nat×Obj)):RR Fin :=
 runC w (.func (bodyOf (fdAt w 122)) (envAt w 122 n))
  ⟨(n,frO w.params t [(sO "self",.ref x),(sO "headers",.none)])::(x,insO 230 dx)::(dx,dctO [] 0)::rest,n+1,t+2⟩
  [1,2,2,0,0,2,0,1,0,0,2,2,3,0,0,0,0,3,0,3,0,3,0,0,0,3,0,4,4,4,2,1,1,0,1,1,2,1,0,1,1,1,2,1,1,1]
  []
theorem hin_r:∀(w:World) (n t x dx:Nat) (rest:List (Nat×Obj)),(fun(A:RR Fin)=>valOf A=some (.ok (.done (.ret .none)))∧psOf A=dup (psOf A)∧keepC [3,5,6] 7 (mOf A)=⟨((n+1),lstO [] 0)::(x,insO 230 dx)::(dx,dctO [ez w.params (sO "_headers") (t+4) (.ref (n+1))] 1)::rest,(n+5),(t+5)⟩∧(evOf A).reverse=evsIs A 0 []) (R_hin_r w n t x dx rest):=by walk_at "r"
noncomputable def R_hnew_r (w:World) (n t:Nat) (rest:List (Nat×Obj)):RR Flow :=
 runH w (.call (.ref 230) ⟨[],[]⟩)
  ⟨rest,n,t⟩
  [0,0,0,0,0,0,0,0,0,0,0,0,0,0,0,0,0,0,0,0,0,0,1,0,1,0,0,0,0,1]
  [aFr (.ok (.ret .none)) [((n+3),lstO [] 0),((n+1),insO 230 n),(n,dctO [ez w.params (sO "_headers") (t+4) (.ref (n+3))] 1)] [0,0] (n+7) (t+5)]
theorem hnew_r:∀(w:World) (n t:Nat) (rest:List (Nat×Obj)),(fun(A:RR Flow) (B C D:Nat×Obj)=>valOf A=some (.ok (.ret (.ref (n+1))))∧psOf A=dup (psOf A)∧keepC [0,1,2] 3 (mOf A)=⟨D::C::B::rest,(n+7),(t+5)⟩∧(evOf A).reverse=evsIs A 0 [(.call (.ref 122) ⟨[(.ref (n+1))],[]⟩,aFr (.ok (.ret .none)) [D,C,B] [0,0] (n+7) (t+5))]∧(mE A 0).sz=(n+2)∧(mE A 0).tk=t∧(sep [0,0] ((mE A 0)).cells).1=[C,(n,dctO [] 0)]) (R_hnew_r w n t rest) (n,dctO [ez w.params (sO "_headers") (t+4) (.ref (n+3))] 1) ((n+1),insO 230 n) ((n+3),lstO [] 0):=by
 refine byRow2 "special-get-raises" ?_ ?_<;>(intros;exact⟨by kernel_rfl,by kernel_rfl,by kernel_rfl,by kernel_rfl,by kernel_rfl,by kernel_rfl,by kernel_rfl⟩)
theorem tin_in {w:World} {h₀:Heap} {os:OsState} (B:Base w h₀) {k:Nat} (hk:k≤200) (x cl:Nat) (n t:Nat) (rest:List (Nat×Obj)) {r:Result} {m':SM}
  (h:Spec w h₀ os k (.func (bodyOf (fdAt w 52)) (envAt w 52 n)) ⟨(n,frO w.params t [((sO "self"),(.ref x)),((sO "comp_select_list"),(.ref cl))])::rest,n+1,t+2⟩ r m') :
  Spec w h₀ os k (.call (.ref 52) ⟨[.ref x,.ref cl],[]⟩) ⟨rest,n,t⟩ r m' :=
 spec_fn B (by kernel_rfl) (show RT3 (runT w (bindZ (fdAt w 52) ⟨[.ref x,.ref cl],[]⟩) ⟨rest,n,t⟩ []) (.ok [((sO "self"),(.ref x)),((sO "comp_select_list"),(.ref cl))]) ⟨rest,n,t⟩ from⟨by kernel_rfl,by kernel_rfl,by kernel_rfl⟩)
  (show RT3 (runT w (envZ (fdAt w 52).scope (fdAt w 52).globals (fdAt w 52).closure [((sO "self"),(.ref x)),((sO "comp_select_list"),(.ref cl))] ((fdAt w 52).qualname++sO ".<locals>.") (some 52) (fdAt w 52).code none (fdAt w 52).builtins) ⟨rest,n,t⟩ [1,1,1,1]) (.ok (envAt w 52 n)) ⟨(n,frO w.params t [((sO "self"),(.ref x)),((sO "comp_select_list"),(.ref cl))])::rest,n+1,t+2⟩ from⟨by kernel_rfl,by kernel_rfl,by kernel_rfl⟩) h hk
noncomputable def R_tin_r (w:World) (n t x dx cl:Nat) (rest:List (Nat×Obj)):RR Fin :=
 runC w (.func (bodyOf (fdAt w 52)) (envAt w 52 n))
  ⟨(n,frO w.params t [(sO "self",.ref x),(sO "comp_select_list",.ref cl)])::(x,insO 62 dx)::(dx,dctO [] 0)::rest,n+1,t+2⟩
  [1,1,2,0,0,0,0,2,0,2,0,2,0,0,0,2,0,3,3,3]
  []
theorem tin_r:∀(w:World) (n t x dx cl:Nat) (rest:List (Nat×Obj)),(fun(A:RR Fin)=>valOf A=some (.ok (.done (.ret .none)))∧psOf A=dup (psOf A)∧keepC [1,2] 3 (mOf A)=⟨(x,insO 62 dx)::(dx,dctO [ez w.params (sO "comp_select_list") (t+3) (.ref cl)] 1)::rest,(n+1),(t+4)⟩∧(evOf A).reverse=evsIs A 0 []) (R_tin_r w n t x dx cl rest):=by walk_at "r"
noncomputable def R_tnew_r (w:World) (n t cl:Nat) (rest:List (Nat×Obj)):RR Flow :=
 runH w (.call (.ref 62) ⟨[.ref cl],[]⟩)
  ⟨rest,n,t⟩
  [0,0,0,0,0,0,0,0,0,0,0,0,0,0,0,0,0,0,0,0,0,0,0,0,0,0,0,1,0,1,0,0,0,0,1]
  [aFr (.ok (.ret .none)) [((n+1),insO 62 n),(n,dctO [ez w.params (sO "comp_select_list") (t+3) (.ref cl)] 1)] [0,0] (n+3) (t+4)]
theorem tnew_r:∀(w:World) (n t cl:Nat) (rest:List (Nat×Obj)),(fun(A:RR Flow) (B C:Nat×Obj)=>valOf A=some (.ok (.ret (.ref (n+1))))∧psOf A=dup (psOf A)∧keepC [0,1] 2 (mOf A)=⟨C::B::rest,(n+3),(t+4)⟩∧(evOf A).reverse=evsIs A 0 [(.call (.ref 52) ⟨[(.ref (n+1)),(.ref cl)],[]⟩,aFr (.ok (.ret .none)) [C,B] [0,0] (n+3) (t+4))]∧(mE A 0).sz=(n+2)∧(mE A 0).tk=t∧(sep [0,0] ((mE A 0)).cells).1=[C,(n,dctO [] 0)]) (R_tnew_r w n t cl rest) (n,dctO [ez w.params (sO "comp_select_list") (t+3) (.ref cl)] 1) ((n+1),insO 62 n):=by
 refine byRow2 "special-get-raises" ?_ ?_<;>(intros;exact⟨by kernel_rfl,by kernel_rfl,by kernel_rfl,by kernel_rfl,by kernel_rfl,by kernel_rfl,by kernel_rfl⟩)
noncomputable def isName (s:Str):Prop:=s=sO "a"∨s=sO "b"∨s=sO "c"∨s=sO "d"∨s=sO "A"∨s=sO "B"∨s=sO "C"∨s=sO "D"
noncomputable def isDots (s:Str):Prop:=s=sO "."∨s=sO ".."∨s=sO "..."∨s=sO "...."∨s=sO "....."∨s=sO "......"∨s=sO "......."
noncomputable def lowS (s:Str):Str:=⟨s.cps.map fun c=>if Nat.ble 65 c&&Nat.ble c 90 then c+32 else c⟩
noncomputable def upS (s:Str):Str:=⟨s.cps.map fun c=>if Nat.ble 97 c&&Nat.ble c 122 then c - 32 else c⟩
section
variable {w:World} {h₀:Heap} {os:OsState}
theorem isName_low {s:Str} (h:isName s):isName (lowS s):=by
 rcases h with rfl | rfl | rfl | rfl | rfl | rfl | rfl | rfl<;>(unfold isName;decide +kernel)
theorem convT (B:Base w h₀) {k:Nat} (hk:k≤200) (x tv:Nat) {s:Str} (hs:isName s) (n t:Nat) (rest:List (Nat×Obj)) :
  Spec w h₀ os k (.call (.ref 129) ⟨[.ref x,.str s tv],[(sO "name",.bool true)]⟩) ⟨rest,n,t⟩ (.ok (.ret (.str s tv))) ⟨rest,n+1,t+4⟩:=by
 refine conv_inT B hk x tv s n t rest ?_
 rcases hs with rfl | rfl | rfl | rfl | rfl | rfl | rfl | rfl
 ·have h:=conv_a w n t x tv rest;exact spec_done B ⟨h.1,h.2.1,h.2.2.1⟩ (ev_of h.2.2.2 trivial)
 ·have h:=conv_b w n t x tv rest;exact spec_done B ⟨h.1,h.2.1,h.2.2.1⟩ (ev_of h.2.2.2 trivial)
 ·have h:=conv_c w n t x tv rest;exact spec_done B ⟨h.1,h.2.1,h.2.2.1⟩ (ev_of h.2.2.2 trivial)
 ·have h:=conv_d w n t x tv rest;exact spec_done B ⟨h.1,h.2.1,h.2.2.1⟩ (ev_of h.2.2.2 trivial)
 ·have h:=conv_A w n t x tv rest;exact spec_done B ⟨h.1,h.2.1,h.2.2.1⟩ (ev_of h.2.2.2 trivial)
 ·have h:=conv_B w n t x tv rest;exact spec_done B ⟨h.1,h.2.1,h.2.2.1⟩ (ev_of h.2.2.2 trivial)
 ·have h:=conv_C w n t x tv rest;exact spec_done B ⟨h.1,h.2.1,h.2.2.1⟩ (ev_of h.2.2.2 trivial)
 ·have h:=conv_D w n t x tv rest;exact spec_done B ⟨h.1,h.2.1,h.2.2.1⟩ (ev_of h.2.2.2 trivial)
theorem convF (B:Base w h₀) {k:Nat} (hk:k≤200) (x tv:Nat) {s:Str} (hs:isDots s) (n t:Nat) (rest:List (Nat×Obj)) :
  Spec w h₀ os k (.call (.ref 129) ⟨[.ref x,.str s tv],[(sO "name",.bool false)]⟩) ⟨rest,n,t⟩ (.ok (.ret (.str s tv))) ⟨rest,n+1,t+4⟩:=by
 refine conv_inF B hk x tv s n t rest ?_
 rcases hs with rfl | rfl | rfl | rfl | rfl | rfl | rfl
 ·have h:=conv_1 w n t x tv rest;exact spec_done B ⟨h.1,h.2.1,h.2.2.1⟩ (ev_of h.2.2.2 trivial)
 ·have h:=conv_2 w n t x tv rest;exact spec_done B ⟨h.1,h.2.1,h.2.2.1⟩ (ev_of h.2.2.2 trivial)
 ·have h:=conv_3 w n t x tv rest;exact spec_done B ⟨h.1,h.2.1,h.2.2.1⟩ (ev_of h.2.2.2 trivial)
 ·have h:=conv_4 w n t x tv rest;exact spec_done B ⟨h.1,h.2.1,h.2.2.1⟩ (ev_of h.2.2.2 trivial)
 ·have h:=conv_5 w n t x tv rest;exact spec_done B ⟨h.1,h.2.1,h.2.2.1⟩ (ev_of h.2.2.2 trivial)
 ·have h:=conv_6 w n t x tv rest;exact spec_done B ⟨h.1,h.2.1,h.2.2.1⟩ (ev_of h.2.2.2 trivial)
 ·have h:=conv_7 w n t x tv rest;exact spec_done B ⟨h.1,h.2.1,h.2.2.1⟩ (ev_of h.2.2.2 trivial)
theorem low_ev (B:Base w h₀) {k:Nat} (tv:Nat) {s:Str} (hs:isName s) (m:SM):Spec w h₀ os k (.call (.builtin "str.lower") ⟨[.str s tv],[]⟩) m (aStr (lowS s) m).1 (aStr (lowS s) m).2:=by
 obtain⟨rest,n,t⟩:=m
 rcases hs with rfl | rfl | rfl | rfl | rfl | rfl | rfl | rfl
 ·have h:=low_a_e w n t tv rest
  rw [show lowS (sO "a")=sO "a" by decide +kernel]
  exact spec_plain B h
 ·have h:=low_b_e w n t tv rest
  rw [show lowS (sO "b")=sO "b" by decide +kernel]
  exact spec_plain B h
 ·have h:=low_c_e w n t tv rest
  rw [show lowS (sO "c")=sO "c" by decide +kernel]
  exact spec_plain B h
 ·have h:=low_d_e w n t tv rest
  rw [show lowS (sO "d")=sO "d" by decide +kernel]
  exact spec_plain B h
 ·have h:=low_A_e w n t tv rest
  rw [show lowS (sO "A")=sO "a" by decide +kernel]
  exact spec_plain B h
 ·have h:=low_B_e w n t tv rest
  rw [show lowS (sO "B")=sO "b" by decide +kernel]
  exact spec_plain B h
 ·have h:=low_C_e w n t tv rest
  rw [show lowS (sO "C")=sO "c" by decide +kernel]
  exact spec_plain B h
 ·have h:=low_D_e w n t tv rest
  rw [show lowS (sO "D")=sO "d" by decide +kernel]
  exact spec_plain B h
theorem up_ev (B:Base w h₀) {k:Nat} (tv:Nat) {s:Str} (hs:s=sO "a"∨s=sO "b"∨s=sO "c"∨s=sO "d") (m:SM):Spec w h₀ os k (.call (.builtin "str.upper") ⟨[.str s tv],[]⟩) m (aStr (upS s) m).1 (aStr (upS s) m).2:=by
 obtain⟨rest,n,t⟩:=m
 rcases hs with rfl | rfl | rfl | rfl
 ·have h:=up_a_e w n t tv rest
  rw [show upS (sO "a")=sO "A" by decide +kernel]
  exact spec_plain B h
 ·have h:=up_b_e w n t tv rest
  rw [show upS (sO "b")=sO "B" by decide +kernel]
  exact spec_plain B h
 ·have h:=up_c_e w n t tv rest
  rw [show upS (sO "c")=sO "C" by decide +kernel]
  exact spec_plain B h
 ·have h:=up_d_e w n t tv rest
  rw [show upS (sO "d")=sO "D" by decide +kernel]
  exact spec_plain B h
theorem conv_ev (B:Base w h₀) {k:Nat} (hk:k≤200) (x tv:Nat) {s:Str} (hs:isName s) (m:SM):Spec w h₀ os k (.call (.ref 129) ⟨[.ref x,.str s tv],[(sO "name",.bool true)]⟩) m (aVal (.str s tv) 1 4 m).1 (aVal (.str s tv) 1 4 m).2 :=
 convT B hk x tv hs m.sz m.tk m.cells
theorem convF_ev (B:Base w h₀) {k:Nat} (hk:k≤200) (x tv:Nat) {s:Str} (hs:isDots s) (m:SM):Spec w h₀ os k (.call (.ref 129) ⟨[.ref x,.str s tv],[(sO "name",.bool false)]⟩) m (aVal (.str s tv) 1 4 m).1 (aVal (.str s tv) 1 4 m).2 :=
 convF B hk x tv hs m.sz m.tk m.cells
theorem eq_e (w:World) (n t a b:Nat) (s u:Str) (rest:List (Nat×Obj)):valC (runP w (.call (.builtin "str.__eq__") ⟨[.str s a,.str u b],[]⟩) ⟨rest,n,t⟩ [])=some (.ok (.ret (.bool (s.cps.toList == u.cps.toList)))) ∧
  psC (runP w (.call (.builtin "str.__eq__") ⟨[.str s a,.str u b],[]⟩) ⟨rest,n,t⟩ [])=dup (psC (runP w (.call (.builtin "str.__eq__") ⟨[.str s a,.str u b],[]⟩) ⟨rest,n,t⟩ [])) ∧
  keepC [] 0 (mC (runP w (.call (.builtin "str.__eq__") ⟨[.str s a,.str u b],[]⟩) ⟨rest,n,t⟩ []))=⟨rest,n,t⟩:=⟨by kernel_rfl,by kernel_rfl,by kernel_rfl⟩
theorem str_beq (s u:Str):(s.cps.toList == u.cps.toList)=decide (s=u):=by
 obtain⟨⟨a⟩⟩:=s
 obtain⟨⟨b⟩⟩:=u
 show (a == b)=_
 by_cases h:a=b
 ·subst h;simp
 ·have h2:¬ (⟨⟨a⟩⟩:Str)=⟨⟨b⟩⟩:=by
   intro e;apply h;injection e with e;injection e
  rw [decide_eq_false h2]
  simpa using h
theorem eq_ev (B:Base w h₀) {k:Nat} (a b:Nat) {s u:Str} {c:Bool} (h:decide (s=u)=c) (m:SM):Spec w h₀ os k (.call (.builtin "str.__eq__") ⟨[.str s a,.str u b],[]⟩) m (aVal (.bool c) 0 0 m).1 (aVal (.bool c) 0 0 m).2:=by
 have e:=eq_e w m.sz m.tk a b s u m.cells
 rw [str_beq,h] at e
 exact spec_plain B e
theorem get0N {k:Nat} (hk:k≤170) (x dx th l ep tn:Nat) {nm:Str} (hn:isName nm) :
  ∃ d e,∀(h₀:Heap) (B:Base w h₀) (n t:Nat) (rest:List (Nat×Obj)),Spec w h₀ os k (.call (.ref 177) ⟨[.ref x,.str nm tn],[]⟩) ⟨tabC w x dx th l ep []++rest,n,t⟩ (.ok (.ret .none)) ⟨tabC w x dx th l ep []++rest,n+d,t+e⟩:=by
 refine⟨5,10,fun h₀ B n t rest=>?_⟩
 have h:=get_0_N w n t x dx th l ep tn nm (lowS nm) rest
 exact get_in B (by exact Nat.le_trans ‹_› (by decide)) x tn nm n t _ (spec_done B ⟨h.1,h.2.1,h.2.2.1⟩ (ev_of h.2.2.2 ⟨low_ev B _ hn _,conv_ev B (by exact Nat.le_trans (Nat.add_le_add_right ‹_› _) (by decide)) _ _ (isName_low hn) _,trivial⟩))
theorem get1N {k:Nat} (hk:k≤170) (x dx th l ep tn:Nat) {nm:Str} (hn:isName nm) (h0:Hd) (k0:isName h0.k) (e0:decide (lowS h0.k=lowS nm)=false) :
  ∃ d e,∀(h₀:Heap) (B:Base w h₀) (n t:Nat) (rest:List (Nat×Obj)),Spec w h₀ os k (.call (.ref 177) ⟨[.ref x,.str nm tn],[]⟩) ⟨tabC w x dx th l ep [h0]++rest,n,t⟩ (.ok (.ret .none)) ⟨tabC w x dx th l ep [h0]++rest,n+d,t+e⟩:=by
 refine⟨8,13,fun h₀ B n t rest=>?_⟩
 have h:=get_1_N w n t x dx th l ep tn nm (lowS nm) h0 (lowS h0.k) rest
 exact get_in B (by exact Nat.le_trans ‹_› (by decide)) x tn nm n t _ (spec_done B ⟨h.1,h.2.1,h.2.2.1⟩ (ev_of h.2.2.2 ⟨low_ev B _ hn _,conv_ev B (by exact Nat.le_trans (Nat.add_le_add_right ‹_› _) (by decide)) _ _ (isName_low hn) _,low_ev B _ k0 _,eq_ev B _ _ e0 _,trivial⟩))
theorem get2N {k:Nat} (hk:k≤170) (x dx th l ep tn:Nat) {nm:Str} (hn:isName nm) (h0:Hd) (h1:Hd) (k0:isName h0.k) (e0:decide (lowS h0.k=lowS nm)=false) (k1:isName h1.k) (e1:decide (lowS h1.k=lowS nm)=false) :
  ∃ d e,∀(h₀:Heap) (B:Base w h₀) (n t:Nat) (rest:List (Nat×Obj)),Spec w h₀ os k (.call (.ref 177) ⟨[.ref x,.str nm tn],[]⟩) ⟨tabC w x dx th l ep [h0,h1]++rest,n,t⟩ (.ok (.ret .none)) ⟨tabC w x dx th l ep [h0,h1]++rest,n+d,t+e⟩:=by
 refine⟨11,16,fun h₀ B n t rest=>?_⟩
 have h:=get_2_N w n t x dx th l ep tn nm (lowS nm) h0 (lowS h0.k) h1 (lowS h1.k) rest
 exact get_in B (by exact Nat.le_trans ‹_› (by decide)) x tn nm n t _ (spec_done B ⟨h.1,h.2.1,h.2.2.1⟩ (ev_of h.2.2.2 ⟨low_ev B _ hn _,conv_ev B (by exact Nat.le_trans (Nat.add_le_add_right ‹_› _) (by decide)) _ _ (isName_low hn) _,low_ev B _ k0 _,eq_ev B _ _ e0 _,low_ev B _ k1 _,eq_ev B _ _ e1 _,trivial⟩))
theorem get20 {k:Nat} (hk:k≤170) (x dx th l ep tn:Nat) {nm:Str} (hn:isName nm) (h0:Hd) (h1:Hd) (k0:isName h0.k) (e0:decide (lowS h0.k=lowS nm)=true) :
  ∃ d e,∀(h₀:Heap) (B:Base w h₀) (n t:Nat) (rest:List (Nat×Obj)),Spec w h₀ os k (.call (.ref 177) ⟨[.ref x,.str nm tn],[]⟩) ⟨tabC w x dx th l ep [h0,h1]++rest,n,t⟩ (.ok (.ret (.str h0.v h0.z))) ⟨tabC w x dx th l ep [h0,h1]++rest,n+d,t+e⟩:=by
 refine⟨6,13,fun h₀ B n t rest=>?_⟩
 have h:=get_2_0 w n t x dx th l ep tn nm (lowS nm) h0 (lowS h0.k) h1 (lowS h1.k) rest
 exact get_in B (by exact Nat.le_trans ‹_› (by decide)) x tn nm n t _ (spec_done B ⟨h.1,h.2.1,h.2.2.1⟩ (ev_of h.2.2.2 ⟨low_ev B _ hn _,conv_ev B (by exact Nat.le_trans (Nat.add_le_add_right ‹_› _) (by decide)) _ _ (isName_low hn) _,low_ev B _ k0 _,eq_ev B _ _ e0 _,trivial⟩))
theorem get21 {k:Nat} (hk:k≤170) (x dx th l ep tn:Nat) {nm:Str} (hn:isName nm) (h0:Hd) (h1:Hd) (k0:isName h0.k) (e0:decide (lowS h0.k=lowS nm)=false) (k1:isName h1.k) (e1:decide (lowS h1.k=lowS nm)=true) :
  ∃ d e,∀(h₀:Heap) (B:Base w h₀) (n t:Nat) (rest:List (Nat×Obj)),Spec w h₀ os k (.call (.ref 177) ⟨[.ref x,.str nm tn],[]⟩) ⟨tabC w x dx th l ep [h0,h1]++rest,n,t⟩ (.ok (.ret (.str h1.v h1.z))) ⟨tabC w x dx th l ep [h0,h1]++rest,n+d,t+e⟩:=by
 refine⟨9,16,fun h₀ B n t rest=>?_⟩
 have h:=get_2_1 w n t x dx th l ep tn nm (lowS nm) h0 (lowS h0.k) h1 (lowS h1.k) rest
 exact get_in B (by exact Nat.le_trans ‹_› (by decide)) x tn nm n t _ (spec_done B ⟨h.1,h.2.1,h.2.2.1⟩ (ev_of h.2.2.2 ⟨low_ev B _ hn _,conv_ev B (by exact Nat.le_trans (Nat.add_le_add_right ‹_› _) (by decide)) _ _ (isName_low hn) _,low_ev B _ k0 _,eq_ev B _ _ e0 _,low_ev B _ k1 _,eq_ev B _ _ e1 _,trivial⟩))
theorem get3N {k:Nat} (hk:k≤170) (x dx th l ep tn:Nat) {nm:Str} (hn:isName nm) (h0:Hd) (h1:Hd) (h2:Hd) (k0:isName h0.k) (e0:decide (lowS h0.k=lowS nm)=false) (k1:isName h1.k) (e1:decide (lowS h1.k=lowS nm)=false) (k2:isName h2.k) (e2:decide (lowS h2.k=lowS nm)=false) :
  ∃ d e,∀(h₀:Heap) (B:Base w h₀) (n t:Nat) (rest:List (Nat×Obj)),Spec w h₀ os k (.call (.ref 177) ⟨[.ref x,.str nm tn],[]⟩) ⟨tabC w x dx th l ep [h0,h1,h2]++rest,n,t⟩ (.ok (.ret .none)) ⟨tabC w x dx th l ep [h0,h1,h2]++rest,n+d,t+e⟩:=by
 refine⟨14,19,fun h₀ B n t rest=>?_⟩
 have h:=get_3_N w n t x dx th l ep tn nm (lowS nm) h0 (lowS h0.k) h1 (lowS h1.k) h2 (lowS h2.k) rest
 exact get_in B (by exact Nat.le_trans ‹_› (by decide)) x tn nm n t _ (spec_done B ⟨h.1,h.2.1,h.2.2.1⟩ (ev_of h.2.2.2 ⟨low_ev B _ hn _,conv_ev B (by exact Nat.le_trans (Nat.add_le_add_right ‹_› _) (by decide)) _ _ (isName_low hn) _,low_ev B _ k0 _,eq_ev B _ _ e0 _,low_ev B _ k1 _,eq_ev B _ _ e1 _,low_ev B _ k2 _,eq_ev B _ _ e2 _,trivial⟩))
theorem get30 {k:Nat} (hk:k≤170) (x dx th l ep tn:Nat) {nm:Str} (hn:isName nm) (h0:Hd) (h1:Hd) (h2:Hd) (k0:isName h0.k) (e0:decide (lowS h0.k=lowS nm)=true) :
  ∃ d e,∀(h₀:Heap) (B:Base w h₀) (n t:Nat) (rest:List (Nat×Obj)),Spec w h₀ os k (.call (.ref 177) ⟨[.ref x,.str nm tn],[]⟩) ⟨tabC w x dx th l ep [h0,h1,h2]++rest,n,t⟩ (.ok (.ret (.str h0.v h0.z))) ⟨tabC w x dx th l ep [h0,h1,h2]++rest,n+d,t+e⟩:=by
 refine⟨6,13,fun h₀ B n t rest=>?_⟩
 have h:=get_3_0 w n t x dx th l ep tn nm (lowS nm) h0 (lowS h0.k) h1 (lowS h1.k) h2 (lowS h2.k) rest
 exact get_in B (by exact Nat.le_trans ‹_› (by decide)) x tn nm n t _ (spec_done B ⟨h.1,h.2.1,h.2.2.1⟩ (ev_of h.2.2.2 ⟨low_ev B _ hn _,conv_ev B (by exact Nat.le_trans (Nat.add_le_add_right ‹_› _) (by decide)) _ _ (isName_low hn) _,low_ev B _ k0 _,eq_ev B _ _ e0 _,trivial⟩))
theorem get31 {k:Nat} (hk:k≤170) (x dx th l ep tn:Nat) {nm:Str} (hn:isName nm) (h0:Hd) (h1:Hd) (h2:Hd) (k0:isName h0.k) (e0:decide (lowS h0.k=lowS nm)=false) (k1:isName h1.k) (e1:decide (lowS h1.k=lowS nm)=true) :
  ∃ d e,∀(h₀:Heap) (B:Base w h₀) (n t:Nat) (rest:List (Nat×Obj)),Spec w h₀ os k (.call (.ref 177) ⟨[.ref x,.str nm tn],[]⟩) ⟨tabC w x dx th l ep [h0,h1,h2]++rest,n,t⟩ (.ok (.ret (.str h1.v h1.z))) ⟨tabC w x dx th l ep [h0,h1,h2]++rest,n+d,t+e⟩:=by
 refine⟨9,16,fun h₀ B n t rest=>?_⟩
 have h:=get_3_1 w n t x dx th l ep tn nm (lowS nm) h0 (lowS h0.k) h1 (lowS h1.k) h2 (lowS h2.k) rest
 exact get_in B (by exact Nat.le_trans ‹_› (by decide)) x tn nm n t _ (spec_done B ⟨h.1,h.2.1,h.2.2.1⟩ (ev_of h.2.2.2 ⟨low_ev B _ hn _,conv_ev B (by exact Nat.le_trans (Nat.add_le_add_right ‹_› _) (by decide)) _ _ (isName_low hn) _,low_ev B _ k0 _,eq_ev B _ _ e0 _,low_ev B _ k1 _,eq_ev B _ _ e1 _,trivial⟩))
theorem get32 {k:Nat} (hk:k≤170) (x dx th l ep tn:Nat) {nm:Str} (hn:isName nm) (h0:Hd) (h1:Hd) (h2:Hd) (k0:isName h0.k) (e0:decide (lowS h0.k=lowS nm)=false) (k1:isName h1.k) (e1:decide (lowS h1.k=lowS nm)=false) (k2:isName h2.k) (e2:decide (lowS h2.k=lowS nm)=true) :
  ∃ d e,∀(h₀:Heap) (B:Base w h₀) (n t:Nat) (rest:List (Nat×Obj)),Spec w h₀ os k (.call (.ref 177) ⟨[.ref x,.str nm tn],[]⟩) ⟨tabC w x dx th l ep [h0,h1,h2]++rest,n,t⟩ (.ok (.ret (.str h2.v h2.z))) ⟨tabC w x dx th l ep [h0,h1,h2]++rest,n+d,t+e⟩:=by
 refine⟨12,19,fun h₀ B n t rest=>?_⟩
 have h:=get_3_2 w n t x dx th l ep tn nm (lowS nm) h0 (lowS h0.k) h1 (lowS h1.k) h2 (lowS h2.k) rest
 exact get_in B (by exact Nat.le_trans ‹_› (by decide)) x tn nm n t _ (spec_done B ⟨h.1,h.2.1,h.2.2.1⟩ (ev_of h.2.2.2 ⟨low_ev B _ hn _,conv_ev B (by exact Nat.le_trans (Nat.add_le_add_right ‹_› _) (by decide)) _ _ (isName_low hn) _,low_ev B _ k0 _,eq_ev B _ _ e0 _,low_ev B _ k1 _,eq_ev B _ _ e1 _,low_ev B _ k2 _,eq_ev B _ _ e2 _,trivial⟩))
theorem get40 {k:Nat} (hk:k≤170) (x dx th l ep tn:Nat) {nm:Str} (hn:isName nm) (h0:Hd) (h1:Hd) (h2:Hd) (h3:Hd) (k0:isName h0.k) (e0:decide (lowS h0.k=lowS nm)=true) :
  ∃ d e,∀(h₀:Heap) (B:Base w h₀) (n t:Nat) (rest:List (Nat×Obj)),Spec w h₀ os k (.call (.ref 177) ⟨[.ref x,.str nm tn],[]⟩) ⟨tabC w x dx th l ep [h0,h1,h2,h3]++rest,n,t⟩ (.ok (.ret (.str h0.v h0.z))) ⟨tabC w x dx th l ep [h0,h1,h2,h3]++rest,n+d,t+e⟩:=by
 refine⟨6,13,fun h₀ B n t rest=>?_⟩
 have h:=get_4_0 w n t x dx th l ep tn nm (lowS nm) h0 (lowS h0.k) h1 (lowS h1.k) h2 (lowS h2.k) h3 (lowS h3.k) rest
 exact get_in B (by exact Nat.le_trans ‹_› (by decide)) x tn nm n t _ (spec_done B ⟨h.1,h.2.1,h.2.2.1⟩ (ev_of h.2.2.2 ⟨low_ev B _ hn _,conv_ev B (by exact Nat.le_trans (Nat.add_le_add_right ‹_› _) (by decide)) _ _ (isName_low hn) _,low_ev B _ k0 _,eq_ev B _ _ e0 _,trivial⟩))
theorem get41 {k:Nat} (hk:k≤170) (x dx th l ep tn:Nat) {nm:Str} (hn:isName nm) (h0:Hd) (h1:Hd) (h2:Hd) (h3:Hd) (k0:isName h0.k) (e0:decide (lowS h0.k=lowS nm)=false) (k1:isName h1.k) (e1:decide (lowS h1.k=lowS nm)=true) :
  ∃ d e,∀(h₀:Heap) (B:Base w h₀) (n t:Nat) (rest:List (Nat×Obj)),Spec w h₀ os k (.call (.ref 177) ⟨[.ref x,.str nm tn],[]⟩) ⟨tabC w x dx th l ep [h0,h1,h2,h3]++rest,n,t⟩ (.ok (.ret (.str h1.v h1.z))) ⟨tabC w x dx th l ep [h0,h1,h2,h3]++rest,n+d,t+e⟩:=by
 refine⟨9,16,fun h₀ B n t rest=>?_⟩
 have h:=get_4_1 w n t x dx th l ep tn nm (lowS nm) h0 (lowS h0.k) h1 (lowS h1.k) h2 (lowS h2.k) h3 (lowS h3.k) rest
 exact get_in B (by exact Nat.le_trans ‹_› (by decide)) x tn nm n t _ (spec_done B ⟨h.1,h.2.1,h.2.2.1⟩ (ev_of h.2.2.2 ⟨low_ev B _ hn _,conv_ev B (by exact Nat.le_trans (Nat.add_le_add_right ‹_› _) (by decide)) _ _ (isName_low hn) _,low_ev B _ k0 _,eq_ev B _ _ e0 _,low_ev B _ k1 _,eq_ev B _ _ e1 _,trivial⟩))
theorem get42 {k:Nat} (hk:k≤170) (x dx th l ep tn:Nat) {nm:Str} (hn:isName nm) (h0:Hd) (h1:Hd) (h2:Hd) (h3:Hd) (k0:isName h0.k) (e0:decide (lowS h0.k=lowS nm)=false) (k1:isName h1.k) (e1:decide (lowS h1.k=lowS nm)=false) (k2:isName h2.k) (e2:decide (lowS h2.k=lowS nm)=true) :
  ∃ d e,∀(h₀:Heap) (B:Base w h₀) (n t:Nat) (rest:List (Nat×Obj)),Spec w h₀ os k (.call (.ref 177) ⟨[.ref x,.str nm tn],[]⟩) ⟨tabC w x dx th l ep [h0,h1,h2,h3]++rest,n,t⟩ (.ok (.ret (.str h2.v h2.z))) ⟨tabC w x dx th l ep [h0,h1,h2,h3]++rest,n+d,t+e⟩:=by
 refine⟨12,19,fun h₀ B n t rest=>?_⟩
 have h:=get_4_2 w n t x dx th l ep tn nm (lowS nm) h0 (lowS h0.k) h1 (lowS h1.k) h2 (lowS h2.k) h3 (lowS h3.k) rest
 exact get_in B (by exact Nat.le_trans ‹_› (by decide)) x tn nm n t _ (spec_done B ⟨h.1,h.2.1,h.2.2.1⟩ (ev_of h.2.2.2 ⟨low_ev B _ hn _,conv_ev B (by exact Nat.le_trans (Nat.add_le_add_right ‹_› _) (by decide)) _ _ (isName_low hn) _,low_ev B _ k0 _,eq_ev B _ _ e0 _,low_ev B _ k1 _,eq_ev B _ _ e1 _,low_ev B _ k2 _,eq_ev B _ _ e2 _,trivial⟩))
theorem get43 {k:Nat} (hk:k≤170) (x dx th l ep tn:Nat) {nm:Str} (hn:isName nm) (h0:Hd) (h1:Hd) (h2:Hd) (h3:Hd) (k0:isName h0.k) (e0:decide (lowS h0.k=lowS nm)=false) (k1:isName h1.k) (e1:decide (lowS h1.k=lowS nm)=false) (k2:isName h2.k) (e2:decide (lowS h2.k=lowS nm)=false) (k3:isName h3.k) (e3:decide (lowS h3.k=lowS nm)=true) :
  ∃ d e,∀(h₀:Heap) (B:Base w h₀) (n t:Nat) (rest:List (Nat×Obj)),Spec w h₀ os k (.call (.ref 177) ⟨[.ref x,.str nm tn],[]⟩) ⟨tabC w x dx th l ep [h0,h1,h2,h3]++rest,n,t⟩ (.ok (.ret (.str h3.v h3.z))) ⟨tabC w x dx th l ep [h0,h1,h2,h3]++rest,n+d,t+e⟩:=by
 refine⟨15,22,fun h₀ B n t rest=>?_⟩
 have h:=get_4_3 w n t x dx th l ep tn nm (lowS nm) h0 (lowS h0.k) h1 (lowS h1.k) h2 (lowS h2.k) h3 (lowS h3.k) rest
 exact get_in B (by exact Nat.le_trans ‹_› (by decide)) x tn nm n t _ (spec_done B ⟨h.1,h.2.1,h.2.2.1⟩ (ev_of h.2.2.2 ⟨low_ev B _ hn _,conv_ev B (by exact Nat.le_trans (Nat.add_le_add_right ‹_› _) (by decide)) _ _ (isName_low hn) _,low_ev B _ k0 _,eq_ev B _ _ e0 _,low_ev B _ k1 _,eq_ev B _ _ e1 _,low_ev B _ k2 _,eq_ev B _ _ e2 _,low_ev B _ k3 _,eq_ev B _ _ e3 _,trivial⟩))
end
noncomputable def aLen (i:Int):Ans:=fun m=>(.ok (.ret (.int i (m.tk+1))),⟨m.cells,m.sz,m.tk+2⟩)
section
variable {w:World} {h₀:Heap} {os:OsState}
theorem spec_gives_int {T:String} {name:Str} {id:String} {Bi:Builtin} {self:Value} {rest:List Value} {x:Int} (slot:Slot T name id) (hT:∀ s:Shared,s.TypeIs self T)
  (entry:entryFor table id=some Bi) (args:argsOk id ⟨self::rest,[]⟩) (g:Gives (Bi ⟨self::rest,[]⟩) (.int x)) {k:Nat} (m:SM) :
  Spec w h₀ os k (.call (.builtin id) ⟨self::rest,[]⟩) m (aInt x m).1 (aInt x m).2:=by
 intro A s R hA D q
 refine codeAny_call_builtin slot.plain entry (slot.check _ _ _ _ _ _ _ _ (hT s) args (g P₀ w A R s ?_))
 have e:s.toks=m.tk:=D.toks
 show R (.ok (.ret (.int x s.toks))) { s with toks:=s.toks+1 }
 rw [e]
 exact q _ ⟨D.keep,D.cell,D.nodup,D.size,rfl,D.gens,D.os⟩
theorem spec_gives_val {T:String} {name:Str} {id:String} {Bi:Builtin} {self:Value} {rest:List Value} {x:Value} (slot:Slot T name id) (hT:∀ s:Shared,s.TypeIs self T)
  (entry:entryFor table id=some Bi) (args:argsOk id ⟨self::rest,[]⟩) (g:Gives (Bi ⟨self::rest,[]⟩) (.val x)) {k:Nat} (m:SM) :
  Spec w h₀ os k (.call (.builtin id) ⟨self::rest,[]⟩) m (aVal x 0 0 m).1 (aVal x 0 0 m).2:=by
 intro A s R hA D q
 refine codeAny_call_builtin slot.plain entry (slot.check _ _ _ _ _ _ _ _ (hT s) args (g P₀ w A R s ?_))
 exact q _ D
theorem mul_ev {k:Nat} (a b:Int) (t u:Nat) (hb:-(2 ^ 60)≤b∧b≤2 ^ 60) (m:SM):Spec w h₀ os k (.call (.builtin "int.__mul__") ⟨[.int a t,.int b u],[]⟩) m (aInt (a*b) m).1 (aInt (a*b) m).2 :=
 spec_gives_int F.slot_int_mul (fun s=>typeIs_int s a t) F.entry_int_mul (F.args_int_mul_2 _ _) (AutoIntG1.int___mul___int_int_0 a t b u (.of_right (intBits_le_64 (by omega) (by omega)))) m
theorem div_ev {k:Nat} (a b:Int) (t u:Nat) (hb:b≠0) (hp:¬ Builtin.divisionGoesByPylong a b=true) (m:SM):Spec w h₀ os k (.call (.builtin "int.__floordiv__") ⟨[.int a t,.int b u],[]⟩) m (aInt (a.fdiv b) m).1 (aInt (a.fdiv b) m).2 :=
 spec_gives_int F.slot_int_floordiv (fun s=>typeIs_int s a t) F.entry_int_floordiv (F.args_int_floordiv_2 _ _) (AutoIntG4.int___floordiv___int_int_1 a t b u (by simpa using hb) hp) m
theorem mod_ev {k:Nat} (a b:Int) (t u:Nat) (hb:b≠0) (m:SM):Spec w h₀ os k (.call (.builtin "int.__mod__") ⟨[.int a t,.int b u],[]⟩) m (aInt (a.fmod b) m).1 (aInt (a.fmod b) m).2 :=
 spec_gives_int F.slot_int_mod (fun s=>typeIs_int s a t) F.entry_int_mod (F.args_int_mod_2 _ _) (AutoIntG6.int___mod___int_int_1 a t b u (by simpa using hb)) m
theorem lt_ev {k:Nat} (a b:Int) (t u:Nat) {c:Bool} (h:decide (a < b)=c) (m:SM):Spec w h₀ os k (.call (.builtin "int.__lt__") ⟨[.int a t,.int b u],[]⟩) m (aVal (.bool c) 0 0 m).1 (aVal (.bool c) 0 0 m).2:=by
 subst h
 exact spec_gives_val F.slot_int_lt (fun s=>typeIs_int s a t) F.entry_int_lt (F.args_int_lt_2 _ _) (AutoIntG1.int___lt___int_int_0 a t b u) m
end
noncomputable def frz (h:Heap):List (Nat×Obj)→Heap
 | []=>h
 | p::l=>(frz h l).update p.1 (fun o=>{ o with data:=.freed })
theorem frz_self (h:Heap) (a:Nat):(h.update a (fun o=>{ o with data:=.freed })).get? a=none:=by
 cases q:(h.update a (fun o=>{ o with data:=.freed })).get? a with
 | none=>rfl
 | some o =>
  obtain⟨e1,e2⟩:=Heap.get?_some_iff.mp q
  cases h with
  | mk objs l =>
   simp only [Heap.update,Array.getElem?_modify,if_true] at e1
   cases z:objs[a]? with
   | none=>rw [z] at e1;cases e1
   | some o'=>rw [z] at e1;cases e1;cases e2
theorem frz_in {h:Heap} {p:Nat×Obj}:∀ {T:List (Nat×Obj)},p∈T→(frz h T).get? p.1=none
 | q::l,hp=>by
  by_cases e:q.1=p.1
  ·show ((frz h l).update q.1 _).get? p.1=none
   rw [e];exact frz_self _ _
  ·show ((frz h l).update q.1 _).get? p.1=none
   rw [Heap.get?_update_other _ _ e]
   rcases List.mem_cons.mp hp with rfl | hp
   ·exact absurd rfl e
   ·exact frz_in hp
theorem frz_out {h:Heap} {b:Nat}:∀ {T:List (Nat×Obj)},(∀ p∈T,p.1≠b)→(frz h T).get? b=h.get? b
 | [],_=>rfl
 | q::l,hp=>by
  show ((frz h l).update q.1 _).get? b=_
  rw [Heap.get?_update_other _ _ (hp q (.head _))]
  exact frz_out fun p h=>hp p (.tail _ h)
noncomputable def Keeps (h h':Heap):Prop:=∀ b o,h.get? b=some o→h'.get? b=some o
theorem Facts.keeps {h h':Heap} {F:List (Nat×Obj)} (f:Facts h F) (k:Keeps h h'):Facts h' F:=fun p hp=>k _ _ (f p hp)
theorem Facts.append {h:Heap} {F G:List (Nat×Obj)} (f:Facts h F) (g:Facts h G):Facts h (F++G):=fun p hp=>(List.mem_append.mp hp).elim (f p) (g p)
theorem Facts.cons {h:Heap} {p:Nat×Obj} {F:List (Nat×Obj)} (e:h.get? p.1=some p.2) (f:Facts h F):Facts h (p::F):=fun q hq=>(List.mem_cons.mp hq).elim (fun z=>by rw [z];exact e) (f q)
theorem Facts.sub {h:Heap} {F G:List (Nat×Obj)} (f:Facts h F) (s:∀ p∈G,p∈F):Facts h G:=fun p hp=>f p (s p hp)
section
variable {w:World} {h₀:Heap} {os:OsState}
theorem Base.keeps {h₁:Heap} (B:Base w h₀) (k:Keeps h₀ h₁):Base w h₁:=⟨B.kt.keeps k,B.nolimit.keeps k⟩
theorem spec_frz (B:Base w h₀) {k:Nat} {c:Code} {r:Result} {T T' R:List (Nat×Obj)} {n t n' t':Nat}
  (h:∀ h₁,Base w h₁→Keeps h₀ h₁→Facts h₁ R→Spec w h₁ os k c ⟨T,n,t⟩ r ⟨T',n',t'⟩):Spec w h₀ os k c ⟨T++R,n,t⟩ r ⟨T'++R,n',t'⟩:=by
 intro A s Q hA D q
 have nd:((T.map (·.1))++(R.map (·.1))).Nodup:=by have:=D.nodup;rwa [List.map_append] at this
 have apart:∀ p∈T,∀ q∈R,p.1≠q.1:=fun p hp q hq=>(List.nodup_append.mp nd).2.2 _ (List.mem_map_of_mem hp) _ (List.mem_map_of_mem hq)
 have k1:Keeps h₀ (frz s.heap T):=by
  intro b o e
  rw [frz_out]
  ·exact D.keep b o e
  ·rintro p hp rfl
   have:=(D.cell p (List.mem_append_left _ hp)).2
   rw [e] at this;cases this
 have k2:Keeps (frz s.heap T) s.heap:=by
  intro b o e
  by_cases hb:∃ p∈T,p.1=b
  ·obtain⟨p,hp,rfl⟩:=hb
   rw [frz_in hp] at e;cases e
  ·rw [frz_out fun p hp hpb=>hb ⟨p,hp,hpb⟩] at e
   exact e
 have f1:Facts (frz s.heap T) R:=by
  intro p hp
  rw [frz_out fun q hq=>apart q hq p hp]
  exact (D.cell p (List.mem_append_right _ hp)).1
 refine h _ (B.keeps k1) k1 f1 A s Q hA ⟨k2,fun p hp=>⟨(D.cell p (List.mem_append_left _ hp)).1,frz_in hp⟩,(List.nodup_append.mp nd).1,D.size,D.toks,D.gens,D.os⟩ fun s' D'=>q s' ?_
 refine⟨fun b o e=>D'.keep b o (k1 b o e),fun p hp=>?_,?_,D'.size,D'.toks,D'.gens,D'.os⟩
 ·rcases List.mem_append.mp hp with hp | hp
  ·obtain⟨z1,z2⟩:=D'.cell p hp
   refine⟨z1,?_⟩
   cases e:h₀.get? p.1 with
   | none=>rfl
   | some o=>have:=k1 _ _ e;rw [z2] at this;cases this
  ·exact⟨D'.keep _ _ (f1 p hp),(D.cell p (List.mem_append_right _ hp)).2⟩
 ·show ((T'++R).map (·.1)).Nodup
  rw [List.map_append]
  refine List.nodup_append.mpr ⟨D'.nodup,(List.nodup_append.mp nd).2.1,?_⟩
  intro a ha b hb hab
  obtain⟨p,hp,rfl⟩:=List.mem_map.mp ha
  obtain⟨p',hp',rfl⟩:=List.mem_map.mp hb
  have z:=(D'.cell p hp).2
  rw [hab,f1 p' hp'] at z
  cases z
end
noncomputable def upd (ks:Nat→Nat) (j t:Nat):Nat→Nat:=fun i=>match Nat.beq i j with
 | true=>t
 | false=>ks i
noncomputable def tf (t:Nat):Nat→Nat:=fun i=>t+i
noncomputable def frE (w:World):Nat→List Str→(Nat→Nat)→List Value→List DictEntry
 | i,x::nms,ks,v::vs=>ez w.params x (ks i) v::frE w (i+1) nms ks vs
 | _,_,_,_=>[]
noncomputable def frN (w:World) (nms:List Str) (ks:Nat→Nat) (vs:List Value):Obj:=frD (frE w 0 nms ks vs) vs.length
noncomputable def aK (r:Result) (m:SM):Ans:=fun _=>(r,m)
section
variable {w:World} {h₀:Heap} {os:OsState}
theorem mid {k:Nat} {c:Code} {r:Result} {T T':List (Nat×Obj)} {n t n' t':Nat} (pre post:List (Nat×Obj)) (h:∀ rest,Spec w h₀ os k c ⟨T++rest,n,t⟩ r ⟨T'++rest,n',t'⟩) :
  Spec w h₀ os k c ⟨pre++(T++post),n,t⟩ r ⟨pre++(T'++post),n',t'⟩:=by
 have e:∀ X:List (Nat×Obj),(pre++(X++post)).Perm (X++(pre++post)):=fun X=>by
  rw [← List.append_assoc,← List.append_assoc]
  exact List.Perm.append_right _ List.perm_append_comm
 exact SpecE.post (m1:=⟨pre++(T'++post),n',t'⟩) (SpecE.pre (m1:=⟨pre++(T++post),n,t⟩) (h (pre++post)) (e T) rfl rfl) (e T').symm rfl rfl
end
inductive Evt where
 | any (c:Code) (g:Ans)
 | at (c:Code) (M:SM) (r:Result) (M':SM)
noncomputable def Evt.ans:Evt→Ans
 | .any _ g=>g
 | .at _ _ r M'=>aK r M'
noncomputable abbrev Evt.ok (w:World) (h₀:Heap) (os:OsState) (k:Nat):Evt→Prop
 | .any c g=>∀ m,Spec w h₀ os k c m (g m).1 (g m).2
 | .at c M r M'=>Spec w h₀ os k c M r M'
noncomputable def evsT {α:Type} (R:RR α):Nat→List Evt→List Ev
 | _,[]=>[]
 | i,.any c g::l=>mkEv c g (mE R i)::evsT R (i+1) l
 | i,.at c M r M'::l=>⟨c,M,r,M'⟩::evsT R (i+1) l
@[reducible] def EvsOk (w:World) (h₀:Heap) (os:OsState) (k:Nat):List Evt→Prop
 | []=>True
 | e::l=>e.ok w h₀ os k∧EvsOk w h₀ os k l
noncomputable abbrev runG (w:World) (c:Code) (m:SM) (hs:List Nat) (es:List Evt) (ro:List (Nat×Obj)):RR Fin:=runC w c m hs (es.map Evt.ans) ro
noncomputable abbrev runGH (w:World) (c:Code) (m:SM) (hs:List Nat) (es:List Evt) (ro:List (Nat×Obj)):RR Flow:=runH w c m hs (es.map Evt.ans) ro
noncomputable abbrev Good (w:World) (c:Code) (ro:List (Nat×Obj)) (m:SM) (hs:List Nat) (es:List Evt) (v:Except Value Fin) (is:List Nat) (kk:Nat) (m':SM):Prop :=
 valOf (runG w c m hs es ro)=some v∧psOf (runG w c m hs es ro)=dup (psOf (runG w c m hs es ro))∧keepC is kk (mOf (runG w c m hs es ro))=m'∧(evOf (runG w c m hs es ro)).reverse=evsT (runG w c m hs es ro) 0 es
noncomputable abbrev GoodH (w:World) (c:Code) (ro:List (Nat×Obj)) (m:SM) (hs:List Nat) (es:List Evt) (v:Result) (is:List Nat) (kk:Nat) (m':SM):Prop :=
 valOf (runGH w c m hs es ro)=some v∧psOf (runGH w c m hs es ro)=dup (psOf (runGH w c m hs es ro))∧keepC is kk (mOf (runGH w c m hs es ro))=m'∧(evOf (runGH w c m hs es ro)).reverse=evsT (runGH w c m hs es ro) 0 es
noncomputable abbrev GoodP (w:World) (c:Code) (ro:List (Nat×Obj)) (m:SM) (hs:List Nat) (r:Result) (is:List Nat) (kk:Nat) (m':SM):Prop :=
 valC (runP w c m hs ro)=some r∧psC (runP w c m hs ro)=dup (psC (runP w c m hs ro))∧keepC is kk (mC (runP w c m hs ro))=m'
section
variable {w:World} {h₀:Heap} {os:OsState}
theorem evs_all {k:Nat} {α:Type} {R:RR α}:∀(l:List Evt) (i:Nat),EvsOk w h₀ os k l→∀ x∈evsT R i l,EvOk P₀ w h₀ os k x
 | [],_,_,_,hx=>nomatch hx
 | .any c g::l,i,h,x,hx=>by
  rcases List.mem_cons.mp hx with rfl | hx
  ·exact h.1 _
  ·exact evs_all l (i+1) h.2 x hx
 | .at c M r M'::l,i,h,x,hx=>by
  rcases List.mem_cons.mp hx with rfl | hx
  ·exact h.1
  ·exact evs_all l (i+1) h.2 x hx
theorem evs_of {k:Nat} {α:Type} {R:RR α} {l:List Evt} (e:(evOf R).reverse=evsT R 0 l) (h:EvsOk w h₀ os k l):∀ x∈evOf R,EvOk P₀ w h₀ os k x :=
 fun x hx=>evs_all l 0 h x (by rw [← e];exact List.mem_reverse.mpr hx)
theorem good_again {k:Nat} {c c':Code} {m m' m'':SM} {hs:List Nat} {es:List Evt} {ro:List (Nat×Obj)} {is:List Nat} {kk:Nat} {r:Result}
  (g:Good w c ro m hs es (.ok (.again c')) is kk m') (B:Base w h₀) (hF:Facts h₀ ro) (hev:EvsOk w h₀ os (k+21) es) (next:Spec w h₀ os k c' m' r m'') (hq:c'.quiet=true:=by rfl) (hi:rises 0 is kk=true:=by rfl) (hl:lightB c=true:=by rfl):Spec w h₀ os k c m r m'' :=
 spec_again B ⟨g.1,g.2.1,g.2.2.1⟩ (evs_of g.2.2.2 hev) hq next hi hl hF
theorem good_done {k:Nat} {c:Code} {m m':SM} {hs:List Nat} {es:List Evt} {ro:List (Nat×Obj)} {is:List Nat} {kk:Nat} {f:Flow}
  (g:Good w c ro m hs es (.ok (.done f)) is kk m') (B:Base w h₀) (hF:Facts h₀ ro) (hev:EvsOk w h₀ os (k+21) es) (hi:rises 0 is kk=true:=by rfl) (hl:lightB c=true:=by rfl):Spec w h₀ os k c m (.ok f) m' :=
 spec_done B ⟨g.1,g.2.1,g.2.2.1⟩ (evs_of g.2.2.2 hev) hi hl hF
theorem good_h {k:Nat} {c:Code} {m m':SM} {hs:List Nat} {es:List Evt} {ro:List (Nat×Obj)} {is:List Nat} {kk:Nat} {f:Flow}
  (g:GoodH w c ro m hs es (.ok f) is kk m') (B:Base w h₀) (hF:Facts h₀ ro) (hev:EvsOk w h₀ os (k+20) es) (hi:rises 0 is kk=true:=by rfl):Spec w h₀ os k c m (.ok f) m' :=
 spec_h B ⟨g.1,g.2.1,g.2.2.1⟩ (evs_of g.2.2.2 hev) hi hF
theorem good_p {k:Nat} {c:Code} {m m':SM} {hs:List Nat} {ro:List (Nat×Obj)} {is:List Nat} {kk:Nat} {r:Result}
  (g:GoodP w c ro m hs r is kk m') (B:Base w h₀) (hF:Facts h₀ ro) (hi:rises 0 is kk=true:=by rfl):Spec w h₀ os k c m r m' :=
 spec_plain B g hi hF
end
section
variable {w:World} {h₀:Heap} {os:OsState}
theorem midE (B:Base w h₀) {k:Nat} {c:Code} {r:Result} {M M' T T':List (Nat×Obj)} {n t n' t':Nat} (j:Nat)
  (h:∀ h₁,Base w h₁→Keeps h₀ h₁→Facts h₁ (M.take j)→Spec w h₁ os k c ⟨T,n,t⟩ r ⟨T',n',t'⟩) (e1:M=M.take j++T:=by rfl) (e2:M'=M.take j++T':=by rfl) :
  Spec w h₀ os k c ⟨M,n,t⟩ r ⟨M',n',t'⟩:=by
 generalize M.take j=Q at h e1 e2
 subst e1
 subst e2
 have z:Spec w h₀ os k c ⟨T++Q,n,t⟩ r ⟨T'++Q,n',t'⟩:=spec_frz B h
 exact SpecE.post (m1:=⟨Q++T',n',t'⟩) (SpecE.pre (m1:=⟨Q++T,n,t⟩) z List.perm_append_comm rfl rfl) List.perm_append_comm rfl rfl
theorem midH (B:Base w h₀) {k:Nat} {c:Code} {r:Result} {M M' T T' P:List (Nat×Obj)} {n t n' t':Nat}
  (h:∀ h₁,Base w h₁→Keeps h₀ h₁→Facts h₁ P→Spec w h₁ os k c ⟨T,n,t⟩ r ⟨T',n',t'⟩) (e1:M=T++P:=by rfl) (e2:M'=T'++P:=by rfl) :
  Spec w h₀ os k c ⟨M,n,t⟩ r ⟨M',n',t'⟩:=by
 rw [e1,e2];exact spec_frz B h
theorem mid_ (B:Base w h₀) {k:Nat} {c:Code} {r:Result} {M:List (Nat×Obj)} {n t n' t':Nat}
  (h:∀ h₁,Base w h₁→Keeps h₀ h₁→Facts h₁ M→Spec w h₁ os k c ⟨[],n,t⟩ r ⟨[],n',t'⟩):Spec w h₀ os k c ⟨M,n,t⟩ r ⟨M,n',t'⟩ :=
 midH B h rfl rfl
end
noncomputable abbrev runX (w:World) {α:Type} (t:Sem α) (m:SM) (hs:List Nat) (es:List Evt) (ro:List (Nat×Obj)):RR α:=simT (cx w ro) (simC (cx w ro) 30) (simH (cx w ro) (simC (cx w ro) 30) 20) t ⟨m,[],hs,es.map Evt.ans,[]⟩
noncomputable abbrev GoodX (w:World) {α:Type} (t:Sem α) (ro:List (Nat×Obj)) (m:SM) (hs:List Nat) (es:List Evt) (v:Except Value α) (is:List Nat) (kk:Nat) (m':SM):Prop :=
 valOf (runX w t m hs es ro)=some v∧psOf (runX w t m hs es ro)=dup (psOf (runX w t m hs es ro))∧keepC is kk (mOf (runX w t m hs es ro))=m'∧(evOf (runX w t m hs es ro)).reverse=evsT (runX w t m hs es ro) 0 es
section
variable {w:World} {h₀:Heap} {os:OsState}
theorem goodX_wp {k:Nat} {α:Type} {t:Sem α} {m m':SM} {hs:List Nat} {es:List Evt} {ro:List (Nat×Obj)} {is:List Nat} {kk:Nat} {a:α} {A:Around} {s:Shared} {Q:α→Shared→Prop} {E:Value→Shared→Prop}
  (g:GoodX w t ro m hs es (.ok a) is kk m') (B:Base w h₀) (hF:Facts h₀ ro) (hev:EvsOk w h₀ os (k+21) es) (hA:AOk (k+1) A) (D:Rep h₀ os s m) (q:∀ s',Rep h₀ os s' m'→Q a s') (hi:rises 0 is kk=true:=by rfl):wpAny (model P₀ w) A t Q E s:=by
 obtain⟨e1,e2,e3,e4⟩:=g
 have hA2:=hA.mono (k':=k+21) (by omega)
 refine simT_sound (k:=k+21) (A:=A) ⟨B.kt,hF⟩ hA.handled (simC_ok ⟨B.kt,hF⟩ 30) (simH_ok ⟨B.kt,hF⟩ (simC_ok ⟨B.kt,hF⟩ 30) 20 (k+1) (by exact Nat.le_refl _)) (.inr ⟨hA,hA2⟩) t ⟨m,[],hs,es.map Evt.ans,[]⟩ s ?_ D fun _=>hA2
 change Fine P₀ w h₀ os (k+21) _ _ (runX w t m hs es ro)
 have hev':=evs_of e4 hev
 cases z:runX w t m hs es ro with
 | stop n=>rw [z] at e1;cases e1
 | err v st=>rw [z] at e1;cases e1
 | ok b st =>
  rw [z] at e1 e2 e3 hev'
  obtain rfl:b=a:=by simpa [valOf] using e1
  subst e3
  exact⟨⟨refl_of_dup e2,hev'⟩,fun s' D'=>q s' (D'.kept hi)⟩
noncomputable def tgtS:Stmt→Expr
 | .For t _ _ _ _=>t
 | _=>default
noncomputable def elsS:Stmt→List Stmt
 | .For _ _ _ o _=>o
 | _=>[]
noncomputable abbrev tA (it:Value):Sem (Option Value):=PySem.W.ZFast.zw9404975358583537561 it
noncomputable abbrev tB (s:Stmt) (it v:Value) (env:Env):Sem Fin:=PySem.W.ZFast.zw17772580674575903948 (tgtS s) env v >>= fun _=>PySem.W.ZFast.zw12563942051412417395 (forB s) env >>= fun f=>match f with
 | .next=>again (.forLoop (tgtS s) it (forB s) (elsS s) env)
 | .cont=>again (.forLoop (tgtS s) it (forB s) (elsS s) env)
 | .brk=>pure (.done .next)
 | .ret v=>pure (.done (.ret v))
theorem assign_z:assign=PySem.W.ZFast.zw17772580674575903948:=PySem.W.ZFast.ze17772580674575903948
theorem execs_z:execs=PySem.W.ZFast.zw12563942051412417395:=PySem.W.ZFast.ze12563942051412417395
theorem pyNext_z:pyNext=PySem.W.ZFast.zw9404975358583537561:=PySem.W.ZFast.ze9404975358583537561
theorem spec_owned (B:Base w h₀) {k:Nat} {s:Stmt} {it a:Nat} {env:Env} {m m1 m2 m'':SM} {hs1 hs2:List Nat} {es1 es2:List Evt} {ro:List (Nat×Obj)} {is1 is2:List Nat} {kk1 kk2 j:Nat} {fs:List Value} {r:Result} {c:Code}
  (hc:c=.forLoop (tgtS s) (.ref it) (forB s) (elsS s) env) (ht:∃ es x p,tgtS s=.Tuple es x p)
  (g1:GoodX w (tA (.ref it)) ro m hs1 es1 (.ok (some (.ref a))) is1 kk1 m1)
  (hj:m1.cells[j]?=some (it,fldO "dict_itemiterator" (.int (a:Int) 0::fs)))
  (g2:GoodX w (tB s (.ref it) (.ref a) env) ro ⟨m1.cells.set j (it,fldO "dict_itemiterator" (.none::fs)),m1.sz,m1.tk⟩ hs2 es2 (.ok (.again (.forLoop (tgtS s) (.ref it) (forB s) (elsS s) env))) is2 kk2 m2)
  (hF:Facts h₀ ro) (hev1:EvsOk w h₀ os (k+21) es1) (hev2:EvsOk w h₀ os (k+21) es2) (next:Spec w h₀ os k c m2 r m'') (hl:lightB c=true:=by rfl) (hi1:rises 0 is1 kk1=true:=by rfl) (hi2:rises 0 is2 kk2=true:=by rfl) (hq:c.quiet=true:=by rfl):Spec w h₀ os k c m r m'':=by
 intro A sh R hA D q
 have hA1:=hA.light hl
 refine x_code ?_
 obtain⟨es,x,p,ht⟩:=ht
 rw [hc]
 show wpAny _ _ ((forTurn (tgtS s) (.ref it) (forB s) (elsS s) env).onRaise (fun x=>do noteFrame x env;theTreesLotGoes x)) _ _ sh
 rw [← hc]
 refine wpAny_noted ?_
 simp only [forTurn]
 refine wpAny_bind (wpAny_standAt (wpAny_bind (wpAny_onRaise ?_)))
 rw [pyNext_z]
 refine goodX_wp g1 B hF hev1 hA1 D (fun s1 D1=>?_) hi1
 dsimp only
 have D2:=D1.update (j:=j) hj (f:=Obj.mapFields (·.setIfInBounds 0 .none)) (by rfl)
 have e2:Obj.mapFields (·.setIfInBounds 0 .none) (fldO "dict_itemiterator" (.int (a:Int) 0::fs))=fldO "dict_itemiterator" (.none::fs):=by
  unfold fldO Obj.mapFields
  simp
 rw [e2] at D2
 have hit:s1.heap.get? it=some (fldO "dict_itemiterator" (.int (a:Int) 0::fs)):=(D1.at hj).1
 refine wpAny_bind ?_
 rw [ht]
 unfold letOwnedTupleGo
 refine wpAny_bind (wpAny_load hit ?_)
 show wpAny _ _ (if (["enumerate","zip","dict_itemiterator","dict_reverseitemiterator","odict_iterator","itertools.zip_longest","itertools.pairwise"].contains "dict_itemiterator" &&
   ((.int (a:Int) 0::fs).toArray:Array Value)[0]? == some (rawInt a))=true then _ else _) _ _ s1
 rw [if_pos (by simp [rawInt])]
 refine wpAny_bind (wpAny_rule ?_)
 unfold updateField
 refine wpAny_bind (wpAny_load hit ?_)
 show wpAny _ _ (if 0 < (((.int (a:Int) 0::fs).toArray:Array Value)).size then _ else _) _ _ s1
 rw [if_pos (by simp)]
 refine wpAny_update hit ?_
 rw [← ht,assign_z,execs_z]
 exact goodX_wp g2 B hF hev2 hA1 D2 (fun s2 D3=>⟨by rw [← hc];exact hq,by rw [← hc];exact next A s2 R hA D3 q⟩) hi2
end
noncomputable def judC (w:World) (jx jd cl c0 c1 tc ce u0 u1 u2 u3:Nat):List (Nat×Obj) :=
 [(jx,insO 62 jd),(jd,dctO [ez w.params (sO "comp_select_list") tc (.ref cl)] 1),(cl,lstO [.ref c0,.ref c1] ce),(c0,tupO [.int 0 u0,.int (-1) u1]),(c1,tupO [.int 1 u2,.int 1 u3])]
noncomputable def offO (q:Int) (tq:Nat) (p:Int) (tp:Nat) (le:Str) (tl:Nat):Obj:=tupO [.int q tq,.int p tp,.str le tl]
section
variable {w:World} {h₀:Heap} {os:OsState}
theorem gt_ev {k:Nat} (a b:Int) (t u:Nat) {c:Bool} (h:decide (b < a)=c) (m:SM):Spec w h₀ os k (.call (.builtin "int.__gt__") ⟨[.int a t,.int b u],[]⟩) m (aVal (.bool c) 0 0 m).1 (aVal (.bool c) 0 0 m).2:=by
 subst h
 exact spec_gives_val F.slot_int_gt (fun s=>typeIs_int s a t) F.entry_int_gt (F.args_int_gt_2 _ _) (AutoIntG4.int___gt___int_int_0 a t b u) m
end
theorem len_1_e:∀(w:World) (n t tv:Nat) (rest:List (Nat×Obj)),
 valC (runP w (.call (.builtin "len") ⟨[.str (sO ".") tv],[]⟩) ⟨rest,n,t⟩ [0])=some (.ok (.ret (.int 1 (t+1))))∧psC (runP w (.call (.builtin "len") ⟨[.str (sO ".") tv],[]⟩) ⟨rest,n,t⟩ [0])=dup (psC (runP w (.call (.builtin "len") ⟨[.str (sO ".") tv],[]⟩) ⟨rest,n,t⟩ [0]))∧keepC [] 0 (mC (runP w (.call (.builtin "len") ⟨[.str (sO ".") tv],[]⟩) ⟨rest,n,t⟩ [0]))=⟨rest,n,(t+2)⟩:=by
 (intros;exact⟨by kernel_rfl,by kernel_rfl,by kernel_rfl⟩)
theorem len_2_e:∀(w:World) (n t tv:Nat) (rest:List (Nat×Obj)),
 valC (runP w (.call (.builtin "len") ⟨[.str (sO "..") tv],[]⟩) ⟨rest,n,t⟩ [0])=some (.ok (.ret (.int 2 (t+1))))∧psC (runP w (.call (.builtin "len") ⟨[.str (sO "..") tv],[]⟩) ⟨rest,n,t⟩ [0])=dup (psC (runP w (.call (.builtin "len") ⟨[.str (sO "..") tv],[]⟩) ⟨rest,n,t⟩ [0]))∧keepC [] 0 (mC (runP w (.call (.builtin "len") ⟨[.str (sO "..") tv],[]⟩) ⟨rest,n,t⟩ [0]))=⟨rest,n,(t+2)⟩:=by
 (intros;exact⟨by kernel_rfl,by kernel_rfl,by kernel_rfl⟩)
theorem len_3_e:∀(w:World) (n t tv:Nat) (rest:List (Nat×Obj)),
 valC (runP w (.call (.builtin "len") ⟨[.str (sO "...") tv],[]⟩) ⟨rest,n,t⟩ [0])=some (.ok (.ret (.int 3 (t+1))))∧psC (runP w (.call (.builtin "len") ⟨[.str (sO "...") tv],[]⟩) ⟨rest,n,t⟩ [0])=dup (psC (runP w (.call (.builtin "len") ⟨[.str (sO "...") tv],[]⟩) ⟨rest,n,t⟩ [0]))∧keepC [] 0 (mC (runP w (.call (.builtin "len") ⟨[.str (sO "...") tv],[]⟩) ⟨rest,n,t⟩ [0]))=⟨rest,n,(t+2)⟩:=by
 (intros;exact⟨by kernel_rfl,by kernel_rfl,by kernel_rfl⟩)
theorem len_4_e:∀(w:World) (n t tv:Nat) (rest:List (Nat×Obj)),
 valC (runP w (.call (.builtin "len") ⟨[.str (sO "....") tv],[]⟩) ⟨rest,n,t⟩ [0])=some (.ok (.ret (.int 4 (t+1))))∧psC (runP w (.call (.builtin "len") ⟨[.str (sO "....") tv],[]⟩) ⟨rest,n,t⟩ [0])=dup (psC (runP w (.call (.builtin "len") ⟨[.str (sO "....") tv],[]⟩) ⟨rest,n,t⟩ [0]))∧keepC [] 0 (mC (runP w (.call (.builtin "len") ⟨[.str (sO "....") tv],[]⟩) ⟨rest,n,t⟩ [0]))=⟨rest,n,(t+2)⟩:=by
 (intros;exact⟨by kernel_rfl,by kernel_rfl,by kernel_rfl⟩)
theorem len_5_e:∀(w:World) (n t tv:Nat) (rest:List (Nat×Obj)),
 valC (runP w (.call (.builtin "len") ⟨[.str (sO ".....") tv],[]⟩) ⟨rest,n,t⟩ [0])=some (.ok (.ret (.int 5 (t+1))))∧psC (runP w (.call (.builtin "len") ⟨[.str (sO ".....") tv],[]⟩) ⟨rest,n,t⟩ [0])=dup (psC (runP w (.call (.builtin "len") ⟨[.str (sO ".....") tv],[]⟩) ⟨rest,n,t⟩ [0]))∧keepC [] 0 (mC (runP w (.call (.builtin "len") ⟨[.str (sO ".....") tv],[]⟩) ⟨rest,n,t⟩ [0]))=⟨rest,n,(t+2)⟩:=by
 (intros;exact⟨by kernel_rfl,by kernel_rfl,by kernel_rfl⟩)
theorem len_6_e:∀(w:World) (n t tv:Nat) (rest:List (Nat×Obj)),
 valC (runP w (.call (.builtin "len") ⟨[.str (sO "......") tv],[]⟩) ⟨rest,n,t⟩ [0])=some (.ok (.ret (.int 6 (t+1))))∧psC (runP w (.call (.builtin "len") ⟨[.str (sO "......") tv],[]⟩) ⟨rest,n,t⟩ [0])=dup (psC (runP w (.call (.builtin "len") ⟨[.str (sO "......") tv],[]⟩) ⟨rest,n,t⟩ [0]))∧keepC [] 0 (mC (runP w (.call (.builtin "len") ⟨[.str (sO "......") tv],[]⟩) ⟨rest,n,t⟩ [0]))=⟨rest,n,(t+2)⟩:=by
 (intros;exact⟨by kernel_rfl,by kernel_rfl,by kernel_rfl⟩)
theorem len_7_e:∀(w:World) (n t tv:Nat) (rest:List (Nat×Obj)),
 valC (runP w (.call (.builtin "len") ⟨[.str (sO ".......") tv],[]⟩) ⟨rest,n,t⟩ [0])=some (.ok (.ret (.int 7 (t+1))))∧psC (runP w (.call (.builtin "len") ⟨[.str (sO ".......") tv],[]⟩) ⟨rest,n,t⟩ [0])=dup (psC (runP w (.call (.builtin "len") ⟨[.str (sO ".......") tv],[]⟩) ⟨rest,n,t⟩ [0]))∧keepC [] 0 (mC (runP w (.call (.builtin "len") ⟨[.str (sO ".......") tv],[]⟩) ⟨rest,n,t⟩ [0]))=⟨rest,n,(t+2)⟩:=by
 (intros;exact⟨by kernel_rfl,by kernel_rfl,by kernel_rfl⟩)
theorem add_n1_e:∀(w:World) (n t tv tu:Nat) (rest:List (Nat×Obj)),
 valC (runP w (.call (.builtin "str.__add__") ⟨[.str (sO ".") tv,.str (sO "\n") tu],[]⟩) ⟨rest,n,t⟩ [])=some (.ok (.ret (.str (sO ".\n") t)))∧psC (runP w (.call (.builtin "str.__add__") ⟨[.str (sO ".") tv,.str (sO "\n") tu],[]⟩) ⟨rest,n,t⟩ [])=dup (psC (runP w (.call (.builtin "str.__add__") ⟨[.str (sO ".") tv,.str (sO "\n") tu],[]⟩) ⟨rest,n,t⟩ []))∧keepC [] 0 (mC (runP w (.call (.builtin "str.__add__") ⟨[.str (sO ".") tv,.str (sO "\n") tu],[]⟩) ⟨rest,n,t⟩ []))=⟨rest,n,(t+1)⟩:=by
 (intros;exact⟨by kernel_rfl,by kernel_rfl,by kernel_rfl⟩)
theorem add_r1_e:∀(w:World) (n t tv tu:Nat) (rest:List (Nat×Obj)),
 valC (runP w (.call (.builtin "str.__add__") ⟨[.str (sO ".") tv,.str (sO "\r") tu],[]⟩) ⟨rest,n,t⟩ [])=some (.ok (.ret (.str (sO ".\x0d") t)))∧psC (runP w (.call (.builtin "str.__add__") ⟨[.str (sO ".") tv,.str (sO "\r") tu],[]⟩) ⟨rest,n,t⟩ [])=dup (psC (runP w (.call (.builtin "str.__add__") ⟨[.str (sO ".") tv,.str (sO "\r") tu],[]⟩) ⟨rest,n,t⟩ []))∧keepC [] 0 (mC (runP w (.call (.builtin "str.__add__") ⟨[.str (sO ".") tv,.str (sO "\r") tu],[]⟩) ⟨rest,n,t⟩ []))=⟨rest,n,(t+1)⟩:=by
 (intros;exact⟨by kernel_rfl,by kernel_rfl,by kernel_rfl⟩)
theorem add_rn1_e:∀(w:World) (n t tv tu:Nat) (rest:List (Nat×Obj)),
 valC (runP w (.call (.builtin "str.__add__") ⟨[.str (sO ".") tv,.str (sO "\r\n") tu],[]⟩) ⟨rest,n,t⟩ [])=some (.ok (.ret (.str (sO ".\x0d\n") t)))∧psC (runP w (.call (.builtin "str.__add__") ⟨[.str (sO ".") tv,.str (sO "\r\n") tu],[]⟩) ⟨rest,n,t⟩ [])=dup (psC (runP w (.call (.builtin "str.__add__") ⟨[.str (sO ".") tv,.str (sO "\r\n") tu],[]⟩) ⟨rest,n,t⟩ []))∧keepC [] 0 (mC (runP w (.call (.builtin "str.__add__") ⟨[.str (sO ".") tv,.str (sO "\r\n") tu],[]⟩) ⟨rest,n,t⟩ []))=⟨rest,n,(t+1)⟩:=by
 (intros;exact⟨by kernel_rfl,by kernel_rfl,by kernel_rfl⟩)
theorem add_n2_e:∀(w:World) (n t tv tu:Nat) (rest:List (Nat×Obj)),
 valC (runP w (.call (.builtin "str.__add__") ⟨[.str (sO "..") tv,.str (sO "\n") tu],[]⟩) ⟨rest,n,t⟩ [])=some (.ok (.ret (.str (sO "..\n") t)))∧psC (runP w (.call (.builtin "str.__add__") ⟨[.str (sO "..") tv,.str (sO "\n") tu],[]⟩) ⟨rest,n,t⟩ [])=dup (psC (runP w (.call (.builtin "str.__add__") ⟨[.str (sO "..") tv,.str (sO "\n") tu],[]⟩) ⟨rest,n,t⟩ []))∧keepC [] 0 (mC (runP w (.call (.builtin "str.__add__") ⟨[.str (sO "..") tv,.str (sO "\n") tu],[]⟩) ⟨rest,n,t⟩ []))=⟨rest,n,(t+1)⟩:=by
 (intros;exact⟨by kernel_rfl,by kernel_rfl,by kernel_rfl⟩)
theorem add_r2_e:∀(w:World) (n t tv tu:Nat) (rest:List (Nat×Obj)),
 valC (runP w (.call (.builtin "str.__add__") ⟨[.str (sO "..") tv,.str (sO "\r") tu],[]⟩) ⟨rest,n,t⟩ [])=some (.ok (.ret (.str (sO "..\x0d") t)))∧psC (runP w (.call (.builtin "str.__add__") ⟨[.str (sO "..") tv,.str (sO "\r") tu],[]⟩) ⟨rest,n,t⟩ [])=dup (psC (runP w (.call (.builtin "str.__add__") ⟨[.str (sO "..") tv,.str (sO "\r") tu],[]⟩) ⟨rest,n,t⟩ []))∧keepC [] 0 (mC (runP w (.call (.builtin "str.__add__") ⟨[.str (sO "..") tv,.str (sO "\r") tu],[]⟩) ⟨rest,n,t⟩ []))=⟨rest,n,(t+1)⟩:=by
 (intros;exact⟨by kernel_rfl,by kernel_rfl,by kernel_rfl⟩)
theorem add_rn2_e:∀(w:World) (n t tv tu:Nat) (rest:List (Nat×Obj)),
 valC (runP w (.call (.builtin "str.__add__") ⟨[.str (sO "..") tv,.str (sO "\r\n") tu],[]⟩) ⟨rest,n,t⟩ [])=some (.ok (.ret (.str (sO "..\x0d\n") t)))∧psC (runP w (.call (.builtin "str.__add__") ⟨[.str (sO "..") tv,.str (sO "\r\n") tu],[]⟩) ⟨rest,n,t⟩ [])=dup (psC (runP w (.call (.builtin "str.__add__") ⟨[.str (sO "..") tv,.str (sO "\r\n") tu],[]⟩) ⟨rest,n,t⟩ []))∧keepC [] 0 (mC (runP w (.call (.builtin "str.__add__") ⟨[.str (sO "..") tv,.str (sO "\r\n") tu],[]⟩) ⟨rest,n,t⟩ []))=⟨rest,n,(t+1)⟩:=by
 (intros;exact⟨by kernel_rfl,by kernel_rfl,by kernel_rfl⟩)
theorem add_n3_e:∀(w:World) (n t tv tu:Nat) (rest:List (Nat×Obj)),
 valC (runP w (.call (.builtin "str.__add__") ⟨[.str (sO "...") tv,.str (sO "\n") tu],[]⟩) ⟨rest,n,t⟩ [])=some (.ok (.ret (.str (sO "...\n") t)))∧psC (runP w (.call (.builtin "str.__add__") ⟨[.str (sO "...") tv,.str (sO "\n") tu],[]⟩) ⟨rest,n,t⟩ [])=dup (psC (runP w (.call (.builtin "str.__add__") ⟨[.str (sO "...") tv,.str (sO "\n") tu],[]⟩) ⟨rest,n,t⟩ []))∧keepC [] 0 (mC (runP w (.call (.builtin "str.__add__") ⟨[.str (sO "...") tv,.str (sO "\n") tu],[]⟩) ⟨rest,n,t⟩ []))=⟨rest,n,(t+1)⟩:=by
 (intros;exact⟨by kernel_rfl,by kernel_rfl,by kernel_rfl⟩)
theorem add_r3_e:∀(w:World) (n t tv tu:Nat) (rest:List (Nat×Obj)),
 valC (runP w (.call (.builtin "str.__add__") ⟨[.str (sO "...") tv,.str (sO "\r") tu],[]⟩) ⟨rest,n,t⟩ [])=some (.ok (.ret (.str (sO "...\x0d") t)))∧psC (runP w (.call (.builtin "str.__add__") ⟨[.str (sO "...") tv,.str (sO "\r") tu],[]⟩) ⟨rest,n,t⟩ [])=dup (psC (runP w (.call (.builtin "str.__add__") ⟨[.str (sO "...") tv,.str (sO "\r") tu],[]⟩) ⟨rest,n,t⟩ []))∧keepC [] 0 (mC (runP w (.call (.builtin "str.__add__") ⟨[.str (sO "...") tv,.str (sO "\r") tu],[]⟩) ⟨rest,n,t⟩ []))=⟨rest,n,(t+1)⟩:=by
 (intros;exact⟨by kernel_rfl,by kernel_rfl,by kernel_rfl⟩)
theorem add_rn3_e:∀(w:World) (n t tv tu:Nat) (rest:List (Nat×Obj)),
 valC (runP w (.call (.builtin "str.__add__") ⟨[.str (sO "...") tv,.str (sO "\r\n") tu],[]⟩) ⟨rest,n,t⟩ [])=some (.ok (.ret (.str (sO "...\x0d\n") t)))∧psC (runP w (.call (.builtin "str.__add__") ⟨[.str (sO "...") tv,.str (sO "\r\n") tu],[]⟩) ⟨rest,n,t⟩ [])=dup (psC (runP w (.call (.builtin "str.__add__") ⟨[.str (sO "...") tv,.str (sO "\r\n") tu],[]⟩) ⟨rest,n,t⟩ []))∧keepC [] 0 (mC (runP w (.call (.builtin "str.__add__") ⟨[.str (sO "...") tv,.str (sO "\r\n") tu],[]⟩) ⟨rest,n,t⟩ []))=⟨rest,n,(t+1)⟩:=by
 (intros;exact⟨by kernel_rfl,by kernel_rfl,by kernel_rfl⟩)
theorem add_n4_e:∀(w:World) (n t tv tu:Nat) (rest:List (Nat×Obj)),
 valC (runP w (.call (.builtin "str.__add__") ⟨[.str (sO "....") tv,.str (sO "\n") tu],[]⟩) ⟨rest,n,t⟩ [])=some (.ok (.ret (.str (sO "....\n") t)))∧psC (runP w (.call (.builtin "str.__add__") ⟨[.str (sO "....") tv,.str (sO "\n") tu],[]⟩) ⟨rest,n,t⟩ [])=dup (psC (runP w (.call (.builtin "str.__add__") ⟨[.str (sO "....") tv,.str (sO "\n") tu],[]⟩) ⟨rest,n,t⟩ []))∧keepC [] 0 (mC (runP w (.call (.builtin "str.__add__") ⟨[.str (sO "....") tv,.str (sO "\n") tu],[]⟩) ⟨rest,n,t⟩ []))=⟨rest,n,(t+1)⟩:=by
 (intros;exact⟨by kernel_rfl,by kernel_rfl,by kernel_rfl⟩)
theorem add_r4_e:∀(w:World) (n t tv tu:Nat) (rest:List (Nat×Obj)),
 valC (runP w (.call (.builtin "str.__add__") ⟨[.str (sO "....") tv,.str (sO "\r") tu],[]⟩) ⟨rest,n,t⟩ [])=some (.ok (.ret (.str (sO "....\x0d") t)))∧psC (runP w (.call (.builtin "str.__add__") ⟨[.str (sO "....") tv,.str (sO "\r") tu],[]⟩) ⟨rest,n,t⟩ [])=dup (psC (runP w (.call (.builtin "str.__add__") ⟨[.str (sO "....") tv,.str (sO "\r") tu],[]⟩) ⟨rest,n,t⟩ []))∧keepC [] 0 (mC (runP w (.call (.builtin "str.__add__") ⟨[.str (sO "....") tv,.str (sO "\r") tu],[]⟩) ⟨rest,n,t⟩ []))=⟨rest,n,(t+1)⟩:=by
 (intros;exact⟨by kernel_rfl,by kernel_rfl,by kernel_rfl⟩)
theorem add_rn4_e:∀(w:World) (n t tv tu:Nat) (rest:List (Nat×Obj)),
 valC (runP w (.call (.builtin "str.__add__") ⟨[.str (sO "....") tv,.str (sO "\r\n") tu],[]⟩) ⟨rest,n,t⟩ [])=some (.ok (.ret (.str (sO "....\x0d\n") t)))∧psC (runP w (.call (.builtin "str.__add__") ⟨[.str (sO "....") tv,.str (sO "\r\n") tu],[]⟩) ⟨rest,n,t⟩ [])=dup (psC (runP w (.call (.builtin "str.__add__") ⟨[.str (sO "....") tv,.str (sO "\r\n") tu],[]⟩) ⟨rest,n,t⟩ []))∧keepC [] 0 (mC (runP w (.call (.builtin "str.__add__") ⟨[.str (sO "....") tv,.str (sO "\r\n") tu],[]⟩) ⟨rest,n,t⟩ []))=⟨rest,n,(t+1)⟩:=by
 (intros;exact⟨by kernel_rfl,by kernel_rfl,by kernel_rfl⟩)
theorem add_n5_e:∀(w:World) (n t tv tu:Nat) (rest:List (Nat×Obj)),
 valC (runP w (.call (.builtin "str.__add__") ⟨[.str (sO ".....") tv,.str (sO "\n") tu],[]⟩) ⟨rest,n,t⟩ [])=some (.ok (.ret (.str (sO ".....\n") t)))∧psC (runP w (.call (.builtin "str.__add__") ⟨[.str (sO ".....") tv,.str (sO "\n") tu],[]⟩) ⟨rest,n,t⟩ [])=dup (psC (runP w (.call (.builtin "str.__add__") ⟨[.str (sO ".....") tv,.str (sO "\n") tu],[]⟩) ⟨rest,n,t⟩ []))∧keepC [] 0 (mC (runP w (.call (.builtin "str.__add__") ⟨[.str (sO ".....") tv,.str (sO "\n") tu],[]⟩) ⟨rest,n,t⟩ []))=⟨rest,n,(t+1)⟩:=by
 (intros;exact⟨by kernel_rfl,by kernel_rfl,by kernel_rfl⟩)
theorem add_r5_e:∀(w:World) (n t tv tu:Nat) (rest:List (Nat×Obj)),
 valC (runP w (.call (.builtin "str.__add__") ⟨[.str (sO ".....") tv,.str (sO "\r") tu],[]⟩) ⟨rest,n,t⟩ [])=some (.ok (.ret (.str (sO ".....\x0d") t)))∧psC (runP w (.call (.builtin "str.__add__") ⟨[.str (sO ".....") tv,.str (sO "\r") tu],[]⟩) ⟨rest,n,t⟩ [])=dup (psC (runP w (.call (.builtin "str.__add__") ⟨[.str (sO ".....") tv,.str (sO "\r") tu],[]⟩) ⟨rest,n,t⟩ []))∧keepC [] 0 (mC (runP w (.call (.builtin "str.__add__") ⟨[.str (sO ".....") tv,.str (sO "\r") tu],[]⟩) ⟨rest,n,t⟩ []))=⟨rest,n,(t+1)⟩:=by
 (intros;exact⟨by kernel_rfl,by kernel_rfl,by kernel_rfl⟩)
theorem add_rn5_e:∀(w:World) (n t tv tu:Nat) (rest:List (Nat×Obj)),
 valC (runP w (.call (.builtin "str.__add__") ⟨[.str (sO ".....") tv,.str (sO "\r\n") tu],[]⟩) ⟨rest,n,t⟩ [])=some (.ok (.ret (.str (sO ".....\x0d\n") t)))∧psC (runP w (.call (.builtin "str.__add__") ⟨[.str (sO ".....") tv,.str (sO "\r\n") tu],[]⟩) ⟨rest,n,t⟩ [])=dup (psC (runP w (.call (.builtin "str.__add__") ⟨[.str (sO ".....") tv,.str (sO "\r\n") tu],[]⟩) ⟨rest,n,t⟩ []))∧keepC [] 0 (mC (runP w (.call (.builtin "str.__add__") ⟨[.str (sO ".....") tv,.str (sO "\r\n") tu],[]⟩) ⟨rest,n,t⟩ []))=⟨rest,n,(t+1)⟩:=by
 (intros;exact⟨by kernel_rfl,by kernel_rfl,by kernel_rfl⟩)
theorem add_n6_e:∀(w:World) (n t tv tu:Nat) (rest:List (Nat×Obj)),
 valC (runP w (.call (.builtin "str.__add__") ⟨[.str (sO "......") tv,.str (sO "\n") tu],[]⟩) ⟨rest,n,t⟩ [])=some (.ok (.ret (.str (sO "......\n") t)))∧psC (runP w (.call (.builtin "str.__add__") ⟨[.str (sO "......") tv,.str (sO "\n") tu],[]⟩) ⟨rest,n,t⟩ [])=dup (psC (runP w (.call (.builtin "str.__add__") ⟨[.str (sO "......") tv,.str (sO "\n") tu],[]⟩) ⟨rest,n,t⟩ []))∧keepC [] 0 (mC (runP w (.call (.builtin "str.__add__") ⟨[.str (sO "......") tv,.str (sO "\n") tu],[]⟩) ⟨rest,n,t⟩ []))=⟨rest,n,(t+1)⟩:=by
 (intros;exact⟨by kernel_rfl,by kernel_rfl,by kernel_rfl⟩)
theorem add_r6_e:∀(w:World) (n t tv tu:Nat) (rest:List (Nat×Obj)),
 valC (runP w (.call (.builtin "str.__add__") ⟨[.str (sO "......") tv,.str (sO "\r") tu],[]⟩) ⟨rest,n,t⟩ [])=some (.ok (.ret (.str (sO "......\x0d") t)))∧psC (runP w (.call (.builtin "str.__add__") ⟨[.str (sO "......") tv,.str (sO "\r") tu],[]⟩) ⟨rest,n,t⟩ [])=dup (psC (runP w (.call (.builtin "str.__add__") ⟨[.str (sO "......") tv,.str (sO "\r") tu],[]⟩) ⟨rest,n,t⟩ []))∧keepC [] 0 (mC (runP w (.call (.builtin "str.__add__") ⟨[.str (sO "......") tv,.str (sO "\r") tu],[]⟩) ⟨rest,n,t⟩ []))=⟨rest,n,(t+1)⟩:=by
 (intros;exact⟨by kernel_rfl,by kernel_rfl,by kernel_rfl⟩)
theorem add_rn6_e:∀(w:World) (n t tv tu:Nat) (rest:List (Nat×Obj)),
 valC (runP w (.call (.builtin "str.__add__") ⟨[.str (sO "......") tv,.str (sO "\r\n") tu],[]⟩) ⟨rest,n,t⟩ [])=some (.ok (.ret (.str (sO "......\x0d\n") t)))∧psC (runP w (.call (.builtin "str.__add__") ⟨[.str (sO "......") tv,.str (sO "\r\n") tu],[]⟩) ⟨rest,n,t⟩ [])=dup (psC (runP w (.call (.builtin "str.__add__") ⟨[.str (sO "......") tv,.str (sO "\r\n") tu],[]⟩) ⟨rest,n,t⟩ []))∧keepC [] 0 (mC (runP w (.call (.builtin "str.__add__") ⟨[.str (sO "......") tv,.str (sO "\r\n") tu],[]⟩) ⟨rest,n,t⟩ []))=⟨rest,n,(t+1)⟩:=by
 (intros;exact⟨by kernel_rfl,by kernel_rfl,by kernel_rfl⟩)
theorem sli_2_e:∀(w:World) (n t tv sl t2:Nat) (rest:List (Nat×Obj)),
 valC (runP w (.call (.builtin "str.__getitem__") ⟨[.str (sO "..\r\n") tv,.ref sl],[]⟩) ⟨(sl,fldO "slice" [.none,.int (-2) t2,.none])::rest,n,t⟩ [1,1,1,1])=some (.ok (.ret (.str (sO "..") t)))∧psC (runP w (.call (.builtin "str.__getitem__") ⟨[.str (sO "..\r\n") tv,.ref sl],[]⟩) ⟨(sl,fldO "slice" [.none,.int (-2) t2,.none])::rest,n,t⟩ [1,1,1,1])=dup (psC (runP w (.call (.builtin "str.__getitem__") ⟨[.str (sO "..\r\n") tv,.ref sl],[]⟩) ⟨(sl,fldO "slice" [.none,.int (-2) t2,.none])::rest,n,t⟩ [1,1,1,1]))∧keepC [0] 1 (mC (runP w (.call (.builtin "str.__getitem__") ⟨[.str (sO "..\r\n") tv,.ref sl],[]⟩) ⟨(sl,fldO "slice" [.none,.int (-2) t2,.none])::rest,n,t⟩ [1,1,1,1]))=⟨(sl,fldO "slice" [.none,(.int (-2) t2),.none])::rest,n,(t+1)⟩:=by
 (intros;exact⟨by kernel_rfl,by kernel_rfl,by kernel_rfl⟩)
theorem sli_3_e:∀(w:World) (n t tv sl t2:Nat) (rest:List (Nat×Obj)),
 valC (runP w (.call (.builtin "str.__getitem__") ⟨[.str (sO "...\r\n") tv,.ref sl],[]⟩) ⟨(sl,fldO "slice" [.none,.int (-2) t2,.none])::rest,n,t⟩ [1,1,1,1])=some (.ok (.ret (.str (sO "...") t)))∧psC (runP w (.call (.builtin "str.__getitem__") ⟨[.str (sO "...\r\n") tv,.ref sl],[]⟩) ⟨(sl,fldO "slice" [.none,.int (-2) t2,.none])::rest,n,t⟩ [1,1,1,1])=dup (psC (runP w (.call (.builtin "str.__getitem__") ⟨[.str (sO "...\r\n") tv,.ref sl],[]⟩) ⟨(sl,fldO "slice" [.none,.int (-2) t2,.none])::rest,n,t⟩ [1,1,1,1]))∧keepC [0] 1 (mC (runP w (.call (.builtin "str.__getitem__") ⟨[.str (sO "...\r\n") tv,.ref sl],[]⟩) ⟨(sl,fldO "slice" [.none,.int (-2) t2,.none])::rest,n,t⟩ [1,1,1,1]))=⟨(sl,fldO "slice" [.none,(.int (-2) t2),.none])::rest,n,(t+1)⟩:=by
 (intros;exact⟨by kernel_rfl,by kernel_rfl,by kernel_rfl⟩)
theorem sli_4_e:∀(w:World) (n t tv sl t2:Nat) (rest:List (Nat×Obj)),
 valC (runP w (.call (.builtin "str.__getitem__") ⟨[.str (sO "....\r\n") tv,.ref sl],[]⟩) ⟨(sl,fldO "slice" [.none,.int (-2) t2,.none])::rest,n,t⟩ [1,1,1,1])=some (.ok (.ret (.str (sO "....") t)))∧psC (runP w (.call (.builtin "str.__getitem__") ⟨[.str (sO "....\r\n") tv,.ref sl],[]⟩) ⟨(sl,fldO "slice" [.none,.int (-2) t2,.none])::rest,n,t⟩ [1,1,1,1])=dup (psC (runP w (.call (.builtin "str.__getitem__") ⟨[.str (sO "....\r\n") tv,.ref sl],[]⟩) ⟨(sl,fldO "slice" [.none,.int (-2) t2,.none])::rest,n,t⟩ [1,1,1,1]))∧keepC [0] 1 (mC (runP w (.call (.builtin "str.__getitem__") ⟨[.str (sO "....\r\n") tv,.ref sl],[]⟩) ⟨(sl,fldO "slice" [.none,.int (-2) t2,.none])::rest,n,t⟩ [1,1,1,1]))=⟨(sl,fldO "slice" [.none,(.int (-2) t2),.none])::rest,n,(t+1)⟩:=by
 (intros;exact⟨by kernel_rfl,by kernel_rfl,by kernel_rfl⟩)
theorem sli_5_e:∀(w:World) (n t tv sl t2:Nat) (rest:List (Nat×Obj)),
 valC (runP w (.call (.builtin "str.__getitem__") ⟨[.str (sO ".....\r\n") tv,.ref sl],[]⟩) ⟨(sl,fldO "slice" [.none,.int (-2) t2,.none])::rest,n,t⟩ [1,1,1,1])=some (.ok (.ret (.str (sO ".....") t)))∧psC (runP w (.call (.builtin "str.__getitem__") ⟨[.str (sO ".....\r\n") tv,.ref sl],[]⟩) ⟨(sl,fldO "slice" [.none,.int (-2) t2,.none])::rest,n,t⟩ [1,1,1,1])=dup (psC (runP w (.call (.builtin "str.__getitem__") ⟨[.str (sO ".....\r\n") tv,.ref sl],[]⟩) ⟨(sl,fldO "slice" [.none,.int (-2) t2,.none])::rest,n,t⟩ [1,1,1,1]))∧keepC [0] 1 (mC (runP w (.call (.builtin "str.__getitem__") ⟨[.str (sO ".....\r\n") tv,.ref sl],[]⟩) ⟨(sl,fldO "slice" [.none,.int (-2) t2,.none])::rest,n,t⟩ [1,1,1,1]))=⟨(sl,fldO "slice" [.none,(.int (-2) t2),.none])::rest,n,(t+1)⟩:=by
 (intros;exact⟨by kernel_rfl,by kernel_rfl,by kernel_rfl⟩)
theorem sli_6_e:∀(w:World) (n t tv sl t2:Nat) (rest:List (Nat×Obj)),
 valC (runP w (.call (.builtin "str.__getitem__") ⟨[.str (sO "......\r\n") tv,.ref sl],[]⟩) ⟨(sl,fldO "slice" [.none,.int (-2) t2,.none])::rest,n,t⟩ [1,1,1,1])=some (.ok (.ret (.str (sO "......") t)))∧psC (runP w (.call (.builtin "str.__getitem__") ⟨[.str (sO "......\r\n") tv,.ref sl],[]⟩) ⟨(sl,fldO "slice" [.none,.int (-2) t2,.none])::rest,n,t⟩ [1,1,1,1])=dup (psC (runP w (.call (.builtin "str.__getitem__") ⟨[.str (sO "......\r\n") tv,.ref sl],[]⟩) ⟨(sl,fldO "slice" [.none,.int (-2) t2,.none])::rest,n,t⟩ [1,1,1,1]))∧keepC [0] 1 (mC (runP w (.call (.builtin "str.__getitem__") ⟨[.str (sO "......\r\n") tv,.ref sl],[]⟩) ⟨(sl,fldO "slice" [.none,.int (-2) t2,.none])::rest,n,t⟩ [1,1,1,1]))=⟨(sl,fldO "slice" [.none,(.int (-2) t2),.none])::rest,n,(t+1)⟩:=by
 (intros;exact⟨by kernel_rfl,by kernel_rfl,by kernel_rfl⟩)
theorem sli_7_e:∀(w:World) (n t tv sl t2:Nat) (rest:List (Nat×Obj)),
 valC (runP w (.call (.builtin "str.__getitem__") ⟨[.str (sO ".......\r\n") tv,.ref sl],[]⟩) ⟨(sl,fldO "slice" [.none,.int (-2) t2,.none])::rest,n,t⟩ [1,1,1,1])=some (.ok (.ret (.str (sO ".......") t)))∧psC (runP w (.call (.builtin "str.__getitem__") ⟨[.str (sO ".......\r\n") tv,.ref sl],[]⟩) ⟨(sl,fldO "slice" [.none,.int (-2) t2,.none])::rest,n,t⟩ [1,1,1,1])=dup (psC (runP w (.call (.builtin "str.__getitem__") ⟨[.str (sO ".......\r\n") tv,.ref sl],[]⟩) ⟨(sl,fldO "slice" [.none,.int (-2) t2,.none])::rest,n,t⟩ [1,1,1,1]))∧keepC [0] 1 (mC (runP w (.call (.builtin "str.__getitem__") ⟨[.str (sO ".......\r\n") tv,.ref sl],[]⟩) ⟨(sl,fldO "slice" [.none,.int (-2) t2,.none])::rest,n,t⟩ [1,1,1,1]))=⟨(sl,fldO "slice" [.none,(.int (-2) t2),.none])::rest,n,(t+1)⟩:=by
 (intros;exact⟨by kernel_rfl,by kernel_rfl,by kernel_rfl⟩)
noncomputable def dS:Nat→Str
 | 1=>sO "."
 | 2=>sO ".."
 | 3=>sO "..."
 | 4=>sO "...."
 | 5=>sO "....."
 | 6=>sO "......"
 | _=>sO "......."
noncomputable def dE:Nat→Str
 | 1=>sO ".\r\n"
 | 2=>sO "..\r\n"
 | 3=>sO "...\r\n"
 | 4=>sO "....\r\n"
 | 5=>sO ".....\r\n"
 | 6=>sO "......\r\n"
 | _=>sO ".......\r\n"
noncomputable def sepS:Nat→Str
 | 0=>sO "\n"
 | 1=>sO "\r"
 | _=>sO "\r\n"
noncomputable def dP:Nat→Nat→Str
 | 1,0=>sO ".\n"
 | 1,1=>sO ".\r"
 | 1,2=>sO ".\r\n"
 | 2,0=>sO "..\n"
 | 2,1=>sO "..\r"
 | 2,2=>sO "..\r\n"
 | 3,0=>sO "...\n"
 | 3,1=>sO "...\r"
 | 3,2=>sO "...\r\n"
 | 4,0=>sO "....\n"
 | 4,1=>sO "....\r"
 | 4,2=>sO "....\r\n"
 | 5,0=>sO ".....\n"
 | 5,1=>sO ".....\r"
 | 5,2=>sO ".....\r\n"
 | 6,0=>sO "......\n"
 | 6,1=>sO "......\r"
 | 6,2=>sO "......\r\n"
 | _,_=>sO ""
noncomputable def aQuo (s:Str):Ans:=fun m=>(.ok (.ret (.str s (m.tk+7))),⟨m.cells,m.sz+3,m.tk+8⟩)
theorem isDots_dS (k:Nat):isDots (dS k):=by
 unfold dS isDots;split<;>decide +kernel
section
variable {w:World} {h₀:Heap} {os:OsState}
theorem len_ev (B:Base w h₀) {k:Nat} (tv:Nat):∀ {c:Nat},1≤c→c≤7→∀(m:SM),Spec w h₀ os k (.call (.builtin "len") ⟨[.str (dS c) tv],[]⟩) m (aLen c m).1 (aLen c m).2
 | 1,_,_,m=>spec_plain B (len_1_e w m.sz m.tk tv m.cells)
 | 2,_,_,m=>spec_plain B (len_2_e w m.sz m.tk tv m.cells)
 | 3,_,_,m=>spec_plain B (len_3_e w m.sz m.tk tv m.cells)
 | 4,_,_,m=>spec_plain B (len_4_e w m.sz m.tk tv m.cells)
 | 5,_,_,m=>spec_plain B (len_5_e w m.sz m.tk tv m.cells)
 | 6,_,_,m=>spec_plain B (len_6_e w m.sz m.tk tv m.cells)
 | 7,_,_,m=>spec_plain B (len_7_e w m.sz m.tk tv m.cells)
theorem add_ev (B:Base w h₀) {k:Nat} (tv tu:Nat):∀ {c j:Nat},1≤c→c≤6→j < 3→∀(m:SM),Spec w h₀ os k (.call (.builtin "str.__add__") ⟨[.str (dS c) tv,.str (sepS j) tu],[]⟩) m (aStr (dP c j) m).1 (aStr (dP c j) m).2
 | 1,0,_,_,_,m=>spec_plain B (add_n1_e w m.sz m.tk tv tu m.cells)
 | 1,1,_,_,_,m=>spec_plain B (add_r1_e w m.sz m.tk tv tu m.cells)
 | 1,2,_,_,_,m=>spec_plain B (add_rn1_e w m.sz m.tk tv tu m.cells)
 | 2,0,_,_,_,m=>spec_plain B (add_n2_e w m.sz m.tk tv tu m.cells)
 | 2,1,_,_,_,m=>spec_plain B (add_r2_e w m.sz m.tk tv tu m.cells)
 | 2,2,_,_,_,m=>spec_plain B (add_rn2_e w m.sz m.tk tv tu m.cells)
 | 3,0,_,_,_,m=>spec_plain B (add_n3_e w m.sz m.tk tv tu m.cells)
 | 3,1,_,_,_,m=>spec_plain B (add_r3_e w m.sz m.tk tv tu m.cells)
 | 3,2,_,_,_,m=>spec_plain B (add_rn3_e w m.sz m.tk tv tu m.cells)
 | 4,0,_,_,_,m=>spec_plain B (add_n4_e w m.sz m.tk tv tu m.cells)
 | 4,1,_,_,_,m=>spec_plain B (add_r4_e w m.sz m.tk tv tu m.cells)
 | 4,2,_,_,_,m=>spec_plain B (add_rn4_e w m.sz m.tk tv tu m.cells)
 | 5,0,_,_,_,m=>spec_plain B (add_n5_e w m.sz m.tk tv tu m.cells)
 | 5,1,_,_,_,m=>spec_plain B (add_r5_e w m.sz m.tk tv tu m.cells)
 | 5,2,_,_,_,m=>spec_plain B (add_rn5_e w m.sz m.tk tv tu m.cells)
 | 6,0,_,_,_,m=>spec_plain B (add_n6_e w m.sz m.tk tv tu m.cells)
 | 6,1,_,_,_,m=>spec_plain B (add_r6_e w m.sz m.tk tv tu m.cells)
 | 6,2,_,_,_,m=>spec_plain B (add_rn6_e w m.sz m.tk tv tu m.cells)
theorem quo_ev (B:Base w h₀) {k:Nat} (hk:k≤200) (tv:Nat):∀ {c j:Nat},1≤c→c≤6→j < 3→∀(m:SM),Spec w h₀ os k (.call (.ref 97) ⟨[.str (dP c j) tv],[]⟩) m (aQuo (dE (c+1)) m).1 (aQuo (dE (c+1)) m).2
 | 1,0,_,_,_,m=>quo_in B hk tv _ m.sz m.tk m.cells (by have h:=quo_n1 w m.sz m.tk tv m.cells;exact spec_done B ⟨h.1,h.2.1,h.2.2.1⟩ (ev_of h.2.2.2 trivial))
 | 1,1,_,_,_,m=>quo_in B hk tv _ m.sz m.tk m.cells (by have h:=quo_r1 w m.sz m.tk tv m.cells;exact spec_done B ⟨h.1,h.2.1,h.2.2.1⟩ (ev_of h.2.2.2 trivial))
 | 1,2,_,_,_,m=>quo_in B hk tv _ m.sz m.tk m.cells (by have h:=quo_rn1 w m.sz m.tk tv m.cells;exact spec_done B ⟨h.1,h.2.1,h.2.2.1⟩ (ev_of h.2.2.2 trivial))
 | 2,0,_,_,_,m=>quo_in B hk tv _ m.sz m.tk m.cells (by have h:=quo_n2 w m.sz m.tk tv m.cells;exact spec_done B ⟨h.1,h.2.1,h.2.2.1⟩ (ev_of h.2.2.2 trivial))
 | 2,1,_,_,_,m=>quo_in B hk tv _ m.sz m.tk m.cells (by have h:=quo_r2 w m.sz m.tk tv m.cells;exact spec_done B ⟨h.1,h.2.1,h.2.2.1⟩ (ev_of h.2.2.2 trivial))
 | 2,2,_,_,_,m=>quo_in B hk tv _ m.sz m.tk m.cells (by have h:=quo_rn2 w m.sz m.tk tv m.cells;exact spec_done B ⟨h.1,h.2.1,h.2.2.1⟩ (ev_of h.2.2.2 trivial))
 | 3,0,_,_,_,m=>quo_in B hk tv _ m.sz m.tk m.cells (by have h:=quo_n3 w m.sz m.tk tv m.cells;exact spec_done B ⟨h.1,h.2.1,h.2.2.1⟩ (ev_of h.2.2.2 trivial))
 | 3,1,_,_,_,m=>quo_in B hk tv _ m.sz m.tk m.cells (by have h:=quo_r3 w m.sz m.tk tv m.cells;exact spec_done B ⟨h.1,h.2.1,h.2.2.1⟩ (ev_of h.2.2.2 trivial))
 | 3,2,_,_,_,m=>quo_in B hk tv _ m.sz m.tk m.cells (by have h:=quo_rn3 w m.sz m.tk tv m.cells;exact spec_done B ⟨h.1,h.2.1,h.2.2.1⟩ (ev_of h.2.2.2 trivial))
 | 4,0,_,_,_,m=>quo_in B hk tv _ m.sz m.tk m.cells (by have h:=quo_n4 w m.sz m.tk tv m.cells;exact spec_done B ⟨h.1,h.2.1,h.2.2.1⟩ (ev_of h.2.2.2 trivial))
 | 4,1,_,_,_,m=>quo_in B hk tv _ m.sz m.tk m.cells (by have h:=quo_r4 w m.sz m.tk tv m.cells;exact spec_done B ⟨h.1,h.2.1,h.2.2.1⟩ (ev_of h.2.2.2 trivial))
 | 4,2,_,_,_,m=>quo_in B hk tv _ m.sz m.tk m.cells (by have h:=quo_rn4 w m.sz m.tk tv m.cells;exact spec_done B ⟨h.1,h.2.1,h.2.2.1⟩ (ev_of h.2.2.2 trivial))
 | 5,0,_,_,_,m=>quo_in B hk tv _ m.sz m.tk m.cells (by have h:=quo_n5 w m.sz m.tk tv m.cells;exact spec_done B ⟨h.1,h.2.1,h.2.2.1⟩ (ev_of h.2.2.2 trivial))
 | 5,1,_,_,_,m=>quo_in B hk tv _ m.sz m.tk m.cells (by have h:=quo_r5 w m.sz m.tk tv m.cells;exact spec_done B ⟨h.1,h.2.1,h.2.2.1⟩ (ev_of h.2.2.2 trivial))
 | 5,2,_,_,_,m=>quo_in B hk tv _ m.sz m.tk m.cells (by have h:=quo_rn5 w m.sz m.tk tv m.cells;exact spec_done B ⟨h.1,h.2.1,h.2.2.1⟩ (ev_of h.2.2.2 trivial))
 | 6,0,_,_,_,m=>quo_in B hk tv _ m.sz m.tk m.cells (by have h:=quo_n6 w m.sz m.tk tv m.cells;exact spec_done B ⟨h.1,h.2.1,h.2.2.1⟩ (ev_of h.2.2.2 trivial))
 | 6,1,_,_,_,m=>quo_in B hk tv _ m.sz m.tk m.cells (by have h:=quo_r6 w m.sz m.tk tv m.cells;exact spec_done B ⟨h.1,h.2.1,h.2.2.1⟩ (ev_of h.2.2.2 trivial))
 | 6,2,_,_,_,m=>quo_in B hk tv _ m.sz m.tk m.cells (by have h:=quo_rn6 w m.sz m.tk tv m.cells;exact spec_done B ⟨h.1,h.2.1,h.2.2.1⟩ (ev_of h.2.2.2 trivial))
theorem sli_ev (B:Base w h₀) {k:Nat} (tv sl t2:Nat) (n t:Nat) (rest:List (Nat×Obj)):∀ {c:Nat},2≤c→c≤7→Spec w h₀ os k (.call (.builtin "str.__getitem__") ⟨[.str (dE c) tv,.ref sl],[]⟩) ⟨(sl,fldO "slice" [.none,.int (-2) t2,.none])::rest,n,t⟩ (.ok (.ret (.str (dS c) t))) ⟨(sl,fldO "slice" [.none,.int (-2) t2,.none])::rest,n,t+1⟩
 | 2,_,_=>spec_plain B (sli_2_e w n t tv sl t2 rest)
 | 3,_,_=>spec_plain B (sli_3_e w n t tv sl t2 rest)
 | 4,_,_=>spec_plain B (sli_4_e w n t tv sl t2 rest)
 | 5,_,_=>spec_plain B (sli_5_e w n t tv sl t2 rest)
 | 6,_,_=>spec_plain B (sli_6_e w n t tv sl t2 rest)
 | 7,_,_=>spec_plain B (sli_7_e w n t tv sl t2 rest)
end
theorem sdf_in {w:World} {h₀:Heap} {os:OsState} (B:Base w h₀) {k:Nat} (hk:k≤200) (x tn tv:Nat) (nm vl:Str) (n t:Nat) (rest:List (Nat×Obj)) {r:Result} {m':SM}
  (h:Spec w h₀ os k (.func (bodyOf (fdAt w 220)) (envAt w 220 n)) ⟨(n,frO w.params t [((sO "self"),(.ref x)),((sO "name"),(.str nm tn)),((sO "value"),(.str vl tv))])::rest,n+1,t+3⟩ r m') :
  Spec w h₀ os k (.call (.ref 220) ⟨[.ref x,.str nm tn,.str vl tv],[]⟩) ⟨rest,n,t⟩ r m' :=
 spec_fn B (by kernel_rfl) (show RT3 (runT w (bindZ (fdAt w 220) ⟨[.ref x,.str nm tn,.str vl tv],[]⟩) ⟨rest,n,t⟩ []) (.ok [((sO "self"),(.ref x)),((sO "name"),(.str nm tn)),((sO "value"),(.str vl tv))]) ⟨rest,n,t⟩ from⟨by kernel_rfl,by kernel_rfl,by kernel_rfl⟩)
  (show RT3 (runT w (envZ (fdAt w 220).scope (fdAt w 220).globals (fdAt w 220).closure [((sO "self"),(.ref x)),((sO "name"),(.str nm tn)),((sO "value"),(.str vl tv))] ((fdAt w 220).qualname++sO ".<locals>.") (some 220) (fdAt w 220).code none (fdAt w 220).builtins) ⟨rest,n,t⟩ [1,1,1,1,1,1]) (.ok (envAt w 220 n)) ⟨(n,frO w.params t [((sO "self"),(.ref x)),((sO "name"),(.str nm tn)),((sO "value"),(.str vl tv))])::rest,n+1,t+3⟩ from⟨by kernel_rfl,by kernel_rfl,by kernel_rfl⟩) h hk
noncomputable def R_sdf_0 (w:World) (n t s1 t1 x dx th l ep tn tv:Nat) (nm vl:Str) (rest:List (Nat×Obj)):RR Fin :=
 runC w (.func (bodyOf (fdAt w 220)) (envAt w 220 n))
  ⟨(n,frO w.params t [(sO "self",.ref x),(sO "name",.str nm tn),(sO "value",.str vl tv)])::(tabC w x dx th l ep []++rest),n+1,t+3⟩
  [1,2,0,0,0,2,0,0,0,2,0,0,0,0,2,3,1,0,1,4,4,4,4,1,0,0,0,0,1,0,0,0,1,1,0,2,3,3,3,3,4,1,0,0,0,1,0,0,0,1,0,0,0,0,1,2,4,0,1,4,1,0,0,0,1,0,0,0,1,0,0,0,0,1,2,4,0,1,0,4,4,4,4,5]
  [aFr (.ok (.ret .none)) (tabC w x dx th l ep []) [1,0,0] s1 t1,aVal (.str nm tn) 1 4,aVal (.str vl tv) 1 4]
theorem sdf_0:∀(w:World) (n t s1 t1 x dx th l ep tn tv:Nat) (nm vl:Str) (rest:List (Nat×Obj)),(fun(A:RR Fin)=>valOf A=some (.ok (.done (.ret (.str vl tv))))∧psOf A=dup (psOf A)∧keepC [0,1,2,3] 5 (mOf A)=⟨((s1+2),tupO [(.str nm tn),(.str vl tv)])::(x,insO 230 dx)::(dx,dctO [ez w.params (sO "_headers") th (.ref l)] 1)::(l,lstO [(.ref (s1+2))] (ep+1))::rest,(s1+3),(t1+10)⟩∧(evOf A).reverse=evsIs A 0 [(.call (.ref 177) ⟨[(.ref x),(.str nm tn)],[]⟩,aFr (.ok (.ret .none)) (tabC w x dx th l ep []) [1,0,0] s1 t1),(.call (.ref 129) ⟨[(.ref x),(.str nm tn)],[((sO "name"),(.bool true))]⟩,aVal (.str nm tn) 1 4),(.call (.ref 129) ⟨[(.ref x),(.str vl tv)],[((sO "name"),(.bool false))]⟩,aVal (.str vl tv) 1 4)]∧(mE A 0).sz=(n+1)∧(mE A 0).tk=(t+3)∧(sep [1,0,0] ((mE A 0)).cells).1=tabC w x dx th l ep []) (R_sdf_0 w n t s1 t1 x dx th l ep tn tv nm vl rest):=by
 refine byRow2 "special-get-raises" ?_ ?_<;>(intros;exact⟨by kernel_rfl,by kernel_rfl,by kernel_rfl,by kernel_rfl,by kernel_rfl,by kernel_rfl,by kernel_rfl⟩)
noncomputable def R_sdf_1 (w:World) (n t s1 t1 x dx th l ep tn tv:Nat) (nm vl:Str) (h0:Hd) (rest:List (Nat×Obj)):RR Fin :=
 runC w (.func (bodyOf (fdAt w 220)) (envAt w 220 n))
  ⟨(n,frO w.params t [(sO "self",.ref x),(sO "name",.str nm tn),(sO "value",.str vl tv)])::(tabC w x dx th l ep [h0]++rest),n+1,t+3⟩
  [1,2,0,0,0,2,0,0,0,2,0,0,0,0,2,3,1,0,1,5,5,5,5,1,0,0,0,0,1,0,0,0,1,1,0,2,3,3,3,3,5,1,0,0,0,1,0,0,0,1,0,0,0,0,1,2,5,0,1,5,1,0,0,0,1,0,0,0,1,0,0,0,0,1,2,5,0,1,0,4,4,4,4,6]
  [aFr (.ok (.ret .none)) (tabC w x dx th l ep [h0]) [1,0,0,0] s1 t1,aVal (.str nm tn) 1 4,aVal (.str vl tv) 1 4]
theorem sdf_1:∀(w:World) (n t s1 t1 x dx th l ep tn tv:Nat) (nm vl:Str) (h0:Hd) (rest:List (Nat×Obj)),(fun(A:RR Fin)=>valOf A=some (.ok (.done (.ret (.str vl tv))))∧psOf A=dup (psOf A)∧keepC [0,1,2,3,4] 6 (mOf A)=⟨((s1+2),tupO [(.str nm tn),(.str vl tv)])::(x,insO 230 dx)::(dx,dctO [ez w.params (sO "_headers") th (.ref l)] 1)::(l,lstO [(.ref h0.a),(.ref (s1+2))] (ep+1))::(h0.a,tupO [(.str h0.k h0.u),(.str h0.v h0.z)])::rest,(s1+3),(t1+10)⟩∧(evOf A).reverse=evsIs A 0 [(.call (.ref 177) ⟨[(.ref x),(.str nm tn)],[]⟩,aFr (.ok (.ret .none)) (tabC w x dx th l ep [h0]) [1,0,0,0] s1 t1),(.call (.ref 129) ⟨[(.ref x),(.str nm tn)],[((sO "name"),(.bool true))]⟩,aVal (.str nm tn) 1 4),(.call (.ref 129) ⟨[(.ref x),(.str vl tv)],[((sO "name"),(.bool false))]⟩,aVal (.str vl tv) 1 4)]∧(mE A 0).sz=(n+1)∧(mE A 0).tk=(t+3)∧(sep [1,0,0,0] ((mE A 0)).cells).1=tabC w x dx th l ep [h0]) (R_sdf_1 w n t s1 t1 x dx th l ep tn tv nm vl h0 rest):=by
 refine byRow2 "special-get-raises" ?_ ?_<;>(intros;exact⟨by kernel_rfl,by kernel_rfl,by kernel_rfl,by kernel_rfl,by kernel_rfl,by kernel_rfl,by kernel_rfl⟩)
noncomputable def R_sdf_2 (w:World) (n t s1 t1 x dx th l ep tn tv:Nat) (nm vl:Str) (h0:Hd) (h1:Hd) (rest:List (Nat×Obj)):RR Fin :=
 runC w (.func (bodyOf (fdAt w 220)) (envAt w 220 n))
  ⟨(n,frO w.params t [(sO "self",.ref x),(sO "name",.str nm tn),(sO "value",.str vl tv)])::(tabC w x dx th l ep [h0,h1]++rest),n+1,t+3⟩
  [1,2,0,0,0,2,0,0,0,2,0,0,0,0,2,3,1,0,1,6,6,6,6,1,0,0,0,0,1,0,0,0,1,1,0,2,3,3,3,3,6,1,0,0,0,1,0,0,0,1,0,0,0,0,1,2,6,0,1,6,1,0,0,0,1,0,0,0,1,0,0,0,0,1,2,6,0,1,0,4,4,4,4,7]
  [aFr (.ok (.ret .none)) (tabC w x dx th l ep [h0,h1]) [1,0,0,0,0] s1 t1,aVal (.str nm tn) 1 4,aVal (.str vl tv) 1 4]
theorem sdf_2:∀(w:World) (n t s1 t1 x dx th l ep tn tv:Nat) (nm vl:Str) (h0:Hd) (h1:Hd) (rest:List (Nat×Obj)),(fun(A:RR Fin)=>valOf A=some (.ok (.done (.ret (.str vl tv))))∧psOf A=dup (psOf A)∧keepC [0,1,2,3,4,5] 7 (mOf A)=⟨((s1+2),tupO [(.str nm tn),(.str vl tv)])::(x,insO 230 dx)::(dx,dctO [ez w.params (sO "_headers") th (.ref l)] 1)::(l,lstO [(.ref h0.a),(.ref h1.a),(.ref (s1+2))] (ep+1))::(h0.a,tupO [(.str h0.k h0.u),(.str h0.v h0.z)])::(h1.a,tupO [(.str h1.k h1.u),(.str h1.v h1.z)])::rest,(s1+3),(t1+10)⟩∧(evOf A).reverse=evsIs A 0 [(.call (.ref 177) ⟨[(.ref x),(.str nm tn)],[]⟩,aFr (.ok (.ret .none)) (tabC w x dx th l ep [h0,h1]) [1,0,0,0,0] s1 t1),(.call (.ref 129) ⟨[(.ref x),(.str nm tn)],[((sO "name"),(.bool true))]⟩,aVal (.str nm tn) 1 4),(.call (.ref 129) ⟨[(.ref x),(.str vl tv)],[((sO "name"),(.bool false))]⟩,aVal (.str vl tv) 1 4)]∧(mE A 0).sz=(n+1)∧(mE A 0).tk=(t+3)∧(sep [1,0,0,0,0] ((mE A 0)).cells).1=tabC w x dx th l ep [h0,h1]) (R_sdf_2 w n t s1 t1 x dx th l ep tn tv nm vl h0 h1 rest):=by
 refine byRow2 "special-get-raises" ?_ ?_<;>(intros;exact⟨by kernel_rfl,by kernel_rfl,by kernel_rfl,by kernel_rfl,by kernel_rfl,by kernel_rfl,by kernel_rfl⟩)
noncomputable def R_sdf_3 (w:World) (n t s1 t1 x dx th l ep tn tv:Nat) (nm vl:Str) (h0:Hd) (h1:Hd) (h2:Hd) (rest:List (Nat×Obj)):RR Fin :=
 runC w (.func (bodyOf (fdAt w 220)) (envAt w 220 n))
  ⟨(n,frO w.params t [(sO "self",.ref x),(sO "name",.str nm tn),(sO "value",.str vl tv)])::(tabC w x dx th l ep [h0,h1,h2]++rest),n+1,t+3⟩
  [1,2,0,0,0,2,0,0,0,2,0,0,0,0,2,3,1,0,1,7,7,7,7,1,0,0,0,0,1,0,0,0,1,1,0,2,3,3,3,3,7,1,0,0,0,1,0,0,0,1,0,0,0,0,1,2,7,0,1,7,1,0,0,0,1,0,0,0,1,0,0,0,0,1,2,7,0,1,0,4,4,4,4,8]
  [aFr (.ok (.ret .none)) (tabC w x dx th l ep [h0,h1,h2]) [1,0,0,0,0,0] s1 t1,aVal (.str nm tn) 1 4,aVal (.str vl tv) 1 4]
theorem sdf_3:∀(w:World) (n t s1 t1 x dx th l ep tn tv:Nat) (nm vl:Str) (h0:Hd) (h1:Hd) (h2:Hd) (rest:List (Nat×Obj)),(fun(A:RR Fin)=>valOf A=some (.ok (.done (.ret (.str vl tv))))∧psOf A=dup (psOf A)∧keepC [0,1,2,3,4,5,6] 8 (mOf A)=⟨((s1+2),tupO [(.str nm tn),(.str vl tv)])::(x,insO 230 dx)::(dx,dctO [ez w.params (sO "_headers") th (.ref l)] 1)::(l,lstO [(.ref h0.a),(.ref h1.a),(.ref h2.a),(.ref (s1+2))] (ep+1))::(h0.a,tupO [(.str h0.k h0.u),(.str h0.v h0.z)])::(h1.a,tupO [(.str h1.k h1.u),(.str h1.v h1.z)])::(h2.a,tupO [(.str h2.k h2.u),(.str h2.v h2.z)])::rest,(s1+3),(t1+10)⟩∧(evOf A).reverse=evsIs A 0 [(.call (.ref 177) ⟨[(.ref x),(.str nm tn)],[]⟩,aFr (.ok (.ret .none)) (tabC w x dx th l ep [h0,h1,h2]) [1,0,0,0,0,0] s1 t1),(.call (.ref 129) ⟨[(.ref x),(.str nm tn)],[((sO "name"),(.bool true))]⟩,aVal (.str nm tn) 1 4),(.call (.ref 129) ⟨[(.ref x),(.str vl tv)],[((sO "name"),(.bool false))]⟩,aVal (.str vl tv) 1 4)]∧(mE A 0).sz=(n+1)∧(mE A 0).tk=(t+3)∧(sep [1,0,0,0,0,0] ((mE A 0)).cells).1=tabC w x dx th l ep [h0,h1,h2]) (R_sdf_3 w n t s1 t1 x dx th l ep tn tv nm vl h0 h1 h2 rest):=by
 refine byRow2 "special-get-raises" ?_ ?_<;>(intros;exact⟨by kernel_rfl,by kernel_rfl,by kernel_rfl,by kernel_rfl,by kernel_rfl,by kernel_rfl,by kernel_rfl⟩)
theorem del_in {w:World} {h₀:Heap} {os:OsState} (B:Base w h₀) {k:Nat} (hk:k≤200) (x tn:Nat) (nm:Str) (n t:Nat) (rest:List (Nat×Obj)) {r:Result} {m':SM}
  (h:Spec w h₀ os k (.func (bodyOf (fdAt w 148)) (envC w 148 n [(sO "name",n+1)])) ⟨(n+1,celO (some (.str nm tn)))::(n,frO w.params t [(sO "self",.ref x)])::rest,n+2,t+1⟩ r m') :
  Spec w h₀ os k (.call (.ref 148) ⟨[.ref x,.str nm tn],[]⟩) ⟨rest,n,t⟩ r m' :=
 spec_fn B (by kernel_rfl) (show RT3 (runT w (bindZ (fdAt w 148) ⟨[.ref x,.str nm tn],[]⟩) ⟨rest,n,t⟩ []) (.ok [(sO "self",.ref x),(sO "name",.str nm tn)]) ⟨rest,n,t⟩ from⟨by kernel_rfl,by kernel_rfl,by kernel_rfl⟩)
  (show RT3 (runT w (envZ (fdAt w 148).scope (fdAt w 148).globals (fdAt w 148).closure [(sO "self",.ref x),(sO "name",.str nm tn)] ((fdAt w 148).qualname++sO ".<locals>.") (some 148) (fdAt w 148).code none (fdAt w 148).builtins) ⟨rest,n,t⟩ [2,2,1,1]) (.ok (envC w 148 n [(sO "name",n+1)])) ⟨(n+1,celO (some (.str nm tn)))::(n,frO w.params t [(sO "self",.ref x)])::rest,n+2,t+1⟩ from⟨by kernel_rfl,by kernel_rfl,by kernel_rfl⟩) h hk
noncomputable def R_del_2_0 (w:World) (n t x dx th l ep tn:Nat) (nm lnm:Str) (h0:Hd) (g0:Str) (h1:Hd) (g1:Str) (rest:List (Nat×Obj)):RR Fin :=
 runC w (.func (bodyOf (fdAt w 148)) (envC w 148 n [(sO "name",n+1)]))
  ⟨(n+1,celO (some (.str nm tn)))::(n,frO w.params t [(sO "self",.ref x)])::(tabC w x dx th l ep [h0,h1]++rest),n+2,t+1⟩
  (twice w [2,3,0,0,0,3,0,0,0,3,0,0,0,0,3,4,1,1,0,1,1,1,2,3,0,0,0,0,3,0,0,0,3,3,0,4,5,5,0,5,1,2,3,0,3,3,3,8,3,3,1,1,1,9,9,9,0,9,9,1,4,1,3,0,3,3,3,8,3,3,1,1,1,10,10,10,0,10,10,1,4,1,1,0,2,2,2,2,3,0,3,3,3,8,3,3,1,3,3,3,7,8,0,0,0,0,8,0,0,0,8,8,0,9,11,11,1] [2,3,0,0,0,3,0,0,0,3,0,0,0,0,3,4,1,1,0,1,1,1,2,3,0,0,0,0,3,0,0,0,3,3,0,4,5,5,0,5,1,2,3,3,0,3,3,3,0,3,3,3,8,3,3,1,1,1,9,9,9,0,9,9,1,4,1,3,0,3,3,3,8,3,3,1,1,1,10,10,10,0,10,10,1,4,1,1,0,2,2,2,2,3,0,3,3,3,8,3,3,1,3,3,3,7,8,0,0,0,0,8,0,0,0,8,8,0,9,11,11,1])
  [aStr lnm,aVal (.str lnm (t+1)) 1 4,aStr g0,aVal (.bool false) 0 0,aStr g1,aVal (.bool true) 0 0,aFr (.ok (.ret .none)) [((n+8),fldO "slice" [.none,.none,.none]),
  ((n+4),lstO [(.ref h1.a)] 1),
  (l,lstO [(.ref h1.a)] (ep+1))] [0,3,5] (n+9) (t+14)]
theorem del_2_0:∀(w:World) (n t x dx th l ep tn:Nat) (nm lnm:Str) (h0:Hd) (g0:Str) (h1:Hd) (g1:Str) (rest:List (Nat×Obj)),(fun(A:RR Fin) (B C D:Nat×Obj)=>valOf A=some (.ok (.done (.ret .none)))∧psOf A=dup (psOf A)∧keepC [2,9,10,12] 13 (mOf A)=⟨C::(x,insO 230 dx)::(dx,dctO [ez w.params (sO "_headers") th (.ref l)] 1)::(h1.a,tupO [(.str h1.k h1.u),(.str h1.v h1.z)])::rest,(n+9),(t+14)⟩∧(evOf A).reverse=evsIs A 0 [(.call (.builtin "str.lower") ⟨[(.str nm tn)],[]⟩,aStr lnm),(.call (.ref 129) ⟨[(.ref x),(.str lnm (t+1))],[((sO "name"),(.bool true))]⟩,aVal (.str lnm (t+1)) 1 4),(.call (.builtin "str.lower") ⟨[(.str h0.k h0.u)],[]⟩,aStr g0),(.call (.builtin "str.__ne__") ⟨[(.str g0 (t+9)),(.str lnm (t+1))],[]⟩,aVal (.bool false) 0 0),(.call (.builtin "str.lower") ⟨[(.str h1.k h1.u)],[]⟩,aStr g1),(.call (.builtin "str.__ne__") ⟨[(.str g1 (t+12)),(.str lnm (t+1))],[]⟩,aVal (.bool true) 0 0),(.call (.builtin "list.__setitem__") ⟨[(.ref l),(.ref (n+8)),(.ref (n+4))],[]⟩,aFr (.ok (.ret .none)) [B,D,C] [0,3,5] (n+9) (t+14))]∧(mE A 6).sz=(n+9)∧(mE A 6).tk=(t+14)∧(sep [0,3,5] ((mE A 6)).cells).1=[B,D,(l,lstO [(.ref h0.a),(.ref h1.a)] ep)]) (R_del_2_0 w n t x dx th l ep tn nm lnm h0 g0 h1 g1 rest) ((n+8),fldO "slice" [.none,.none,.none]) (l,lstO [(.ref h1.a)] (ep+1)) ((n+4),lstO [(.ref h1.a)] 1):=by
 refine byRow2 "special-get-raises" ?_ ?_<;>refine byRow2 "comprehension-iter-twice" ?_ ?_<;>(intros;exact⟨by kernel_rfl,by kernel_rfl,by kernel_rfl,by kernel_rfl,by kernel_rfl,by kernel_rfl,by kernel_rfl⟩)
noncomputable def R_del_2_1 (w:World) (n t x dx th l ep tn:Nat) (nm lnm:Str) (h0:Hd) (g0:Str) (h1:Hd) (g1:Str) (rest:List (Nat×Obj)):RR Fin :=
 runC w (.func (bodyOf (fdAt w 148)) (envC w 148 n [(sO "name",n+1)]))
  ⟨(n+1,celO (some (.str nm tn)))::(n,frO w.params t [(sO "self",.ref x)])::(tabC w x dx th l ep [h0,h1]++rest),n+2,t+1⟩
  (twice w [2,3,0,0,0,3,0,0,0,3,0,0,0,0,3,4,1,1,0,1,1,1,2,3,0,0,0,0,3,0,0,0,3,3,0,4,5,5,0,5,1,2,3,0,3,3,3,8,3,3,1,1,1,9,9,9,0,9,9,1,4,1,1,0,2,2,2,2,3,0,3,3,3,8,3,3,1,1,1,10,10,10,0,10,10,1,4,1,3,0,3,3,3,8,3,3,1,3,3,3,7,8,0,0,0,0,8,0,0,0,8,8,0,9,11,11,1] [2,3,0,0,0,3,0,0,0,3,0,0,0,0,3,4,1,1,0,1,1,1,2,3,0,0,0,0,3,0,0,0,3,3,0,4,5,5,0,5,1,2,3,3,0,3,3,3,0,3,3,3,8,3,3,1,1,1,9,9,9,0,9,9,1,4,1,1,0,2,2,2,2,3,0,3,3,3,8,3,3,1,1,1,10,10,10,0,10,10,1,4,1,3,0,3,3,3,8,3,3,1,3,3,3,7,8,0,0,0,0,8,0,0,0,8,8,0,9,11,11,1])
  [aStr lnm,aVal (.str lnm (t+1)) 1 4,aStr g0,aVal (.bool true) 0 0,aStr g1,aVal (.bool false) 0 0,aFr (.ok (.ret .none)) [((n+8),fldO "slice" [.none,.none,.none]),
  ((n+4),lstO [(.ref h0.a)] 1),
  (l,lstO [(.ref h0.a)] (ep+1))] [0,3,5] (n+9) (t+14)]
theorem del_2_1:∀(w:World) (n t x dx th l ep tn:Nat) (nm lnm:Str) (h0:Hd) (g0:Str) (h1:Hd) (g1:Str) (rest:List (Nat×Obj)),(fun(A:RR Fin) (B C D:Nat×Obj)=>valOf A=some (.ok (.done (.ret .none)))∧psOf A=dup (psOf A)∧keepC [2,9,10,11] 13 (mOf A)=⟨C::(x,insO 230 dx)::(dx,dctO [ez w.params (sO "_headers") th (.ref l)] 1)::(h0.a,tupO [(.str h0.k h0.u),(.str h0.v h0.z)])::rest,(n+9),(t+14)⟩∧(evOf A).reverse=evsIs A 0 [(.call (.builtin "str.lower") ⟨[(.str nm tn)],[]⟩,aStr lnm),(.call (.ref 129) ⟨[(.ref x),(.str lnm (t+1))],[((sO "name"),(.bool true))]⟩,aVal (.str lnm (t+1)) 1 4),(.call (.builtin "str.lower") ⟨[(.str h0.k h0.u)],[]⟩,aStr g0),(.call (.builtin "str.__ne__") ⟨[(.str g0 (t+9)),(.str lnm (t+1))],[]⟩,aVal (.bool true) 0 0),(.call (.builtin "str.lower") ⟨[(.str h1.k h1.u)],[]⟩,aStr g1),(.call (.builtin "str.__ne__") ⟨[(.str g1 (t+12)),(.str lnm (t+1))],[]⟩,aVal (.bool false) 0 0),(.call (.builtin "list.__setitem__") ⟨[(.ref l),(.ref (n+8)),(.ref (n+4))],[]⟩,aFr (.ok (.ret .none)) [B,D,C] [0,3,5] (n+9) (t+14))]∧(mE A 6).sz=(n+9)∧(mE A 6).tk=(t+14)∧(sep [0,3,5] ((mE A 6)).cells).1=[B,D,(l,lstO [(.ref h0.a),(.ref h1.a)] ep)]) (R_del_2_1 w n t x dx th l ep tn nm lnm h0 g0 h1 g1 rest) ((n+8),fldO "slice" [.none,.none,.none]) (l,lstO [(.ref h0.a)] (ep+1)) ((n+4),lstO [(.ref h0.a)] 1):=by
 refine byRow2 "special-get-raises" ?_ ?_<;>refine byRow2 "comprehension-iter-twice" ?_ ?_<;>(intros;exact⟨by kernel_rfl,by kernel_rfl,by kernel_rfl,by kernel_rfl,by kernel_rfl,by kernel_rfl,by kernel_rfl⟩)
noncomputable def R_del_3_0 (w:World) (n t x dx th l ep tn:Nat) (nm lnm:Str) (h0:Hd) (g0:Str) (h1:Hd) (g1:Str) (h2:Hd) (g2:Str) (rest:List (Nat×Obj)):RR Fin :=
 runC w (.func (bodyOf (fdAt w 148)) (envC w 148 n [(sO "name",n+1)]))
  ⟨(n+1,celO (some (.str nm tn)))::(n,frO w.params t [(sO "self",.ref x)])::(tabC w x dx th l ep [h0,h1,h2]++rest),n+2,t+1⟩
  (twice w [2,3,0,0,0,3,0,0,0,3,0,0,0,0,3,4,1,1,0,1,1,1,2,3,0,0,0,0,3,0,0,0,3,3,0,4,5,5,0,5,1,2,3,0,3,3,3,8,3,3,1,1,1,9,9,9,0,9,9,1,4,1,3,0,3,3,3,8,3,3,1,1,1,10,10,10,0,10,10,1,4,1,1,0,2,2,2,2,3,0,3,3,3,8,3,3,1,1,1,11,11,11,0,11,11,1,4,1,1,0,2,2,2,2,3,0,3,3,3,8,3,3,1,3,3,3,7,8,0,0,0,0,8,0,0,0,8,8,0,9,11,11,1] [2,3,0,0,0,3,0,0,0,3,0,0,0,0,3,4,1,1,0,1,1,1,2,3,0,0,0,0,3,0,0,0,3,3,0,4,5,5,0,5,1,2,3,3,0,3,3,3,0,3,3,3,8,3,3,1,1,1,9,9,9,0,9,9,1,4,1,3,0,3,3,3,8,3,3,1,1,1,10,10,10,0,10,10,1,4,1,1,0,2,2,2,2,3,0,3,3,3,8,3,3,1,1,1,11,11,11,0,11,11,1,4,1,1,0,2,2,2,2,3,0,3,3,3,8,3,3,1,3,3,3,7,8,0,0,0,0,8,0,0,0,8,8,0,9,11,11,1])
  [aStr lnm,aVal (.str lnm (t+1)) 1 4,aStr g0,aVal (.bool false) 0 0,aStr g1,aVal (.bool true) 0 0,aStr g2,aVal (.bool true) 0 0,aFr (.ok (.ret .none)) [((n+8),fldO "slice" [.none,.none,.none]),
  ((n+4),lstO [(.ref h1.a),(.ref h2.a)] 2),
  (l,lstO [(.ref h1.a),(.ref h2.a)] (ep+1))] [0,3,5] (n+9) (t+17)]
theorem del_3_0:∀(w:World) (n t x dx th l ep tn:Nat) (nm lnm:Str) (h0:Hd) (g0:Str) (h1:Hd) (g1:Str) (h2:Hd) (g2:Str) (rest:List (Nat×Obj)),(fun(A:RR Fin) (B C D:Nat×Obj)=>valOf A=some (.ok (.done (.ret .none)))∧psOf A=dup (psOf A)∧keepC [2,9,10,12,13] 14 (mOf A)=⟨B::(x,insO 230 dx)::(dx,dctO [ez w.params (sO "_headers") th (.ref l)] 1)::(h1.a,tupO [(.str h1.k h1.u),(.str h1.v h1.z)])::(h2.a,tupO [(.str h2.k h2.u),(.str h2.v h2.z)])::rest,(n+9),(t+17)⟩∧(evOf A).reverse=evsIs A 0 [(.call (.builtin "str.lower") ⟨[(.str nm tn)],[]⟩,aStr lnm),(.call (.ref 129) ⟨[(.ref x),(.str lnm (t+1))],[((sO "name"),(.bool true))]⟩,aVal (.str lnm (t+1)) 1 4),(.call (.builtin "str.lower") ⟨[(.str h0.k h0.u)],[]⟩,aStr g0),(.call (.builtin "str.__ne__") ⟨[(.str g0 (t+9)),(.str lnm (t+1))],[]⟩,aVal (.bool false) 0 0),(.call (.builtin "str.lower") ⟨[(.str h1.k h1.u)],[]⟩,aStr g1),(.call (.builtin "str.__ne__") ⟨[(.str g1 (t+12)),(.str lnm (t+1))],[]⟩,aVal (.bool true) 0 0),(.call (.builtin "str.lower") ⟨[(.str h2.k h2.u)],[]⟩,aStr g2),(.call (.builtin "str.__ne__") ⟨[(.str g2 (t+15)),(.str lnm (t+1))],[]⟩,aVal (.bool true) 0 0),(.call (.builtin "list.__setitem__") ⟨[(.ref l),(.ref (n+8)),(.ref (n+4))],[]⟩,aFr (.ok (.ret .none)) [C,D,B] [0,3,5] (n+9) (t+17))]∧(mE A 8).sz=(n+9)∧(mE A 8).tk=(t+17)∧(sep [0,3,5] ((mE A 8)).cells).1=[C,D,(l,lstO [(.ref h0.a),(.ref h1.a),(.ref h2.a)] ep)]) (R_del_3_0 w n t x dx th l ep tn nm lnm h0 g0 h1 g1 h2 g2 rest) (l,lstO [(.ref h1.a),(.ref h2.a)] (ep+1)) ((n+8),fldO "slice" [.none,.none,.none]) ((n+4),lstO [(.ref h1.a),(.ref h2.a)] 2):=by
 refine byRow2 "special-get-raises" ?_ ?_<;>refine byRow2 "comprehension-iter-twice" ?_ ?_<;>(intros;exact⟨by kernel_rfl,by kernel_rfl,by kernel_rfl,by kernel_rfl,by kernel_rfl,by kernel_rfl,by kernel_rfl⟩)
noncomputable def R_del_3_1 (w:World) (n t x dx th l ep tn:Nat) (nm lnm:Str) (h0:Hd) (g0:Str) (h1:Hd) (g1:Str) (h2:Hd) (g2:Str) (rest:List (Nat×Obj)):RR Fin :=
 runC w (.func (bodyOf (fdAt w 148)) (envC w 148 n [(sO "name",n+1)]))
  ⟨(n+1,celO (some (.str nm tn)))::(n,frO w.params t [(sO "self",.ref x)])::(tabC w x dx th l ep [h0,h1,h2]++rest),n+2,t+1⟩
  (twice w [2,3,0,0,0,3,0,0,0,3,0,0,0,0,3,4,1,1,0,1,1,1,2,3,0,0,0,0,3,0,0,0,3,3,0,4,5,5,0,5,1,2,3,0,3,3,3,8,3,3,1,1,1,9,9,9,0,9,9,1,4,1,1,0,2,2,2,2,3,0,3,3,3,8,3,3,1,1,1,10,10,10,0,10,10,1,4,1,3,0,3,3,3,8,3,3,1,1,1,11,11,11,0,11,11,1,4,1,1,0,2,2,2,2,3,0,3,3,3,8,3,3,1,3,3,3,7,8,0,0,0,0,8,0,0,0,8,8,0,9,11,11,1] [2,3,0,0,0,3,0,0,0,3,0,0,0,0,3,4,1,1,0,1,1,1,2,3,0,0,0,0,3,0,0,0,3,3,0,4,5,5,0,5,1,2,3,3,0,3,3,3,0,3,3,3,8,3,3,1,1,1,9,9,9,0,9,9,1,4,1,1,0,2,2,2,2,3,0,3,3,3,8,3,3,1,1,1,10,10,10,0,10,10,1,4,1,3,0,3,3,3,8,3,3,1,1,1,11,11,11,0,11,11,1,4,1,1,0,2,2,2,2,3,0,3,3,3,8,3,3,1,3,3,3,7,8,0,0,0,0,8,0,0,0,8,8,0,9,11,11,1])
  [aStr lnm,aVal (.str lnm (t+1)) 1 4,aStr g0,aVal (.bool true) 0 0,aStr g1,aVal (.bool false) 0 0,aStr g2,aVal (.bool true) 0 0,aFr (.ok (.ret .none)) [((n+8),fldO "slice" [.none,.none,.none]),
  ((n+4),lstO [(.ref h0.a),(.ref h2.a)] 2),
  (l,lstO [(.ref h0.a),(.ref h2.a)] (ep+1))] [0,3,5] (n+9) (t+17)]
theorem del_3_1:∀(w:World) (n t x dx th l ep tn:Nat) (nm lnm:Str) (h0:Hd) (g0:Str) (h1:Hd) (g1:Str) (h2:Hd) (g2:Str) (rest:List (Nat×Obj)),(fun(A:RR Fin) (B C D:Nat×Obj)=>valOf A=some (.ok (.done (.ret .none)))∧psOf A=dup (psOf A)∧keepC [2,9,10,11,13] 14 (mOf A)=⟨B::(x,insO 230 dx)::(dx,dctO [ez w.params (sO "_headers") th (.ref l)] 1)::(h0.a,tupO [(.str h0.k h0.u),(.str h0.v h0.z)])::(h2.a,tupO [(.str h2.k h2.u),(.str h2.v h2.z)])::rest,(n+9),(t+17)⟩∧(evOf A).reverse=evsIs A 0 [(.call (.builtin "str.lower") ⟨[(.str nm tn)],[]⟩,aStr lnm),(.call (.ref 129) ⟨[(.ref x),(.str lnm (t+1))],[((sO "name"),(.bool true))]⟩,aVal (.str lnm (t+1)) 1 4),(.call (.builtin "str.lower") ⟨[(.str h0.k h0.u)],[]⟩,aStr g0),(.call (.builtin "str.__ne__") ⟨[(.str g0 (t+9)),(.str lnm (t+1))],[]⟩,aVal (.bool true) 0 0),(.call (.builtin "str.lower") ⟨[(.str h1.k h1.u)],[]⟩,aStr g1),(.call (.builtin "str.__ne__") ⟨[(.str g1 (t+12)),(.str lnm (t+1))],[]⟩,aVal (.bool false) 0 0),(.call (.builtin "str.lower") ⟨[(.str h2.k h2.u)],[]⟩,aStr g2),(.call (.builtin "str.__ne__") ⟨[(.str g2 (t+15)),(.str lnm (t+1))],[]⟩,aVal (.bool true) 0 0),(.call (.builtin "list.__setitem__") ⟨[(.ref l),(.ref (n+8)),(.ref (n+4))],[]⟩,aFr (.ok (.ret .none)) [C,D,B] [0,3,5] (n+9) (t+17))]∧(mE A 8).sz=(n+9)∧(mE A 8).tk=(t+17)∧(sep [0,3,5] ((mE A 8)).cells).1=[C,D,(l,lstO [(.ref h0.a),(.ref h1.a),(.ref h2.a)] ep)]) (R_del_3_1 w n t x dx th l ep tn nm lnm h0 g0 h1 g1 h2 g2 rest) (l,lstO [(.ref h0.a),(.ref h2.a)] (ep+1)) ((n+8),fldO "slice" [.none,.none,.none]) ((n+4),lstO [(.ref h0.a),(.ref h2.a)] 2):=by
 refine byRow2 "special-get-raises" ?_ ?_<;>refine byRow2 "comprehension-iter-twice" ?_ ?_<;>(intros;exact⟨by kernel_rfl,by kernel_rfl,by kernel_rfl,by kernel_rfl,by kernel_rfl,by kernel_rfl,by kernel_rfl⟩)
noncomputable def R_del_3_2 (w:World) (n t x dx th l ep tn:Nat) (nm lnm:Str) (h0:Hd) (g0:Str) (h1:Hd) (g1:Str) (h2:Hd) (g2:Str) (rest:List (Nat×Obj)):RR Fin :=
 runC w (.func (bodyOf (fdAt w 148)) (envC w 148 n [(sO "name",n+1)]))
  ⟨(n+1,celO (some (.str nm tn)))::(n,frO w.params t [(sO "self",.ref x)])::(tabC w x dx th l ep [h0,h1,h2]++rest),n+2,t+1⟩
  (twice w [2,3,0,0,0,3,0,0,0,3,0,0,0,0,3,4,1,1,0,1,1,1,2,3,0,0,0,0,3,0,0,0,3,3,0,4,5,5,0,5,1,2,3,0,3,3,3,8,3,3,1,1,1,9,9,9,0,9,9,1,4,1,1,0,2,2,2,2,3,0,3,3,3,8,3,3,1,1,1,10,10,10,0,10,10,1,4,1,1,0,2,2,2,2,3,0,3,3,3,8,3,3,1,1,1,11,11,11,0,11,11,1,4,1,3,0,3,3,3,8,3,3,1,3,3,3,7,8,0,0,0,0,8,0,0,0,8,8,0,9,11,11,1] [2,3,0,0,0,3,0,0,0,3,0,0,0,0,3,4,1,1,0,1,1,1,2,3,0,0,0,0,3,0,0,0,3,3,0,4,5,5,0,5,1,2,3,3,0,3,3,3,0,3,3,3,8,3,3,1,1,1,9,9,9,0,9,9,1,4,1,1,0,2,2,2,2,3,0,3,3,3,8,3,3,1,1,1,10,10,10,0,10,10,1,4,1,1,0,2,2,2,2,3,0,3,3,3,8,3,3,1,1,1,11,11,11,0,11,11,1,4,1,3,0,3,3,3,8,3,3,1,3,3,3,7,8,0,0,0,0,8,0,0,0,8,8,0,9,11,11,1])
  [aStr lnm,aVal (.str lnm (t+1)) 1 4,aStr g0,aVal (.bool true) 0 0,aStr g1,aVal (.bool true) 0 0,aStr g2,aVal (.bool false) 0 0,aFr (.ok (.ret .none)) [((n+8),fldO "slice" [.none,.none,.none]),
  ((n+4),lstO [(.ref h0.a),(.ref h1.a)] 2),
  (l,lstO [(.ref h0.a),(.ref h1.a)] (ep+1))] [0,3,5] (n+9) (t+17)]
theorem del_3_2:∀(w:World) (n t x dx th l ep tn:Nat) (nm lnm:Str) (h0:Hd) (g0:Str) (h1:Hd) (g1:Str) (h2:Hd) (g2:Str) (rest:List (Nat×Obj)),(fun(A:RR Fin) (B C D:Nat×Obj)=>valOf A=some (.ok (.done (.ret .none)))∧psOf A=dup (psOf A)∧keepC [2,9,10,11,12] 14 (mOf A)=⟨B::(x,insO 230 dx)::(dx,dctO [ez w.params (sO "_headers") th (.ref l)] 1)::(h0.a,tupO [(.str h0.k h0.u),(.str h0.v h0.z)])::(h1.a,tupO [(.str h1.k h1.u),(.str h1.v h1.z)])::rest,(n+9),(t+17)⟩∧(evOf A).reverse=evsIs A 0 [(.call (.builtin "str.lower") ⟨[(.str nm tn)],[]⟩,aStr lnm),(.call (.ref 129) ⟨[(.ref x),(.str lnm (t+1))],[((sO "name"),(.bool true))]⟩,aVal (.str lnm (t+1)) 1 4),(.call (.builtin "str.lower") ⟨[(.str h0.k h0.u)],[]⟩,aStr g0),(.call (.builtin "str.__ne__") ⟨[(.str g0 (t+9)),(.str lnm (t+1))],[]⟩,aVal (.bool true) 0 0),(.call (.builtin "str.lower") ⟨[(.str h1.k h1.u)],[]⟩,aStr g1),(.call (.builtin "str.__ne__") ⟨[(.str g1 (t+12)),(.str lnm (t+1))],[]⟩,aVal (.bool true) 0 0),(.call (.builtin "str.lower") ⟨[(.str h2.k h2.u)],[]⟩,aStr g2),(.call (.builtin "str.__ne__") ⟨[(.str g2 (t+15)),(.str lnm (t+1))],[]⟩,aVal (.bool false) 0 0),(.call (.builtin "list.__setitem__") ⟨[(.ref l),(.ref (n+8)),(.ref (n+4))],[]⟩,aFr (.ok (.ret .none)) [C,D,B] [0,3,5] (n+9) (t+17))]∧(mE A 8).sz=(n+9)∧(mE A 8).tk=(t+17)∧(sep [0,3,5] ((mE A 8)).cells).1=[C,D,(l,lstO [(.ref h0.a),(.ref h1.a),(.ref h2.a)] ep)]) (R_del_3_2 w n t x dx th l ep tn nm lnm h0 g0 h1 g1 h2 g2 rest) (l,lstO [(.ref h0.a),(.ref h1.a)] (ep+1)) ((n+8),fldO "slice" [.none,.none,.none]) ((n+4),lstO [(.ref h0.a),(.ref h1.a)] 2):=by
 refine byRow2 "special-get-raises" ?_ ?_<;>refine byRow2 "comprehension-iter-twice" ?_ ?_<;>(intros;exact⟨by kernel_rfl,by kernel_rfl,by kernel_rfl,by kernel_rfl,by kernel_rfl,by kernel_rfl,by kernel_rfl⟩)
noncomputable def R_del_4_0 (w:World) (n t x dx th l ep tn:Nat) (nm lnm:Str) (h0:Hd) (g0:Str) (h1:Hd) (g1:Str) (h2:Hd) (g2:Str) (h3:Hd) (g3:Str) (rest:List (Nat×Obj)):RR Fin :=
 runC w (.func (bodyOf (fdAt w 148)) (envC w 148 n [(sO "name",n+1)]))
  ⟨(n+1,celO (some (.str nm tn)))::(n,frO w.params t [(sO "self",.ref x)])::(tabC w x dx th l ep [h0,h1,h2,h3]++rest),n+2,t+1⟩
  (twice w [2,3,0,0,0,3,0,0,0,3,0,0,0,0,3,4,1,1,0,1,1,1,2,3,0,0,0,0,3,0,0,0,3,3,0,4,5,5,0,5,1,2,3,0,3,3,3,8,3,3,1,1,1,9,9,9,0,9,9,1,4,1,3,0,3,3,3,8,3,3,1,1,1,10,10,10,0,10,10,1,4,1,1,0,2,2,2,2,3,0,3,3,3,8,3,3,1,1,1,11,11,11,0,11,11,1,4,1,1,0,2,2,2,2,3,0,3,3,3,8,3,3,1,1,1,12,12,12,0,12,12,1,4,1,1,0,2,2,2,2,3,0,3,3,3,8,3,3,1,3,3,3,7,8,0,0,0,0,8,0,0,0,8,8,0,9,11,11,1] [2,3,0,0,0,3,0,0,0,3,0,0,0,0,3,4,1,1,0,1,1,1,2,3,0,0,0,0,3,0,0,0,3,3,0,4,5,5,0,5,1,2,3,3,0,3,3,3,0,3,3,3,8,3,3,1,1,1,9,9,9,0,9,9,1,4,1,3,0,3,3,3,8,3,3,1,1,1,10,10,10,0,10,10,1,4,1,1,0,2,2,2,2,3,0,3,3,3,8,3,3,1,1,1,11,11,11,0,11,11,1,4,1,1,0,2,2,2,2,3,0,3,3,3,8,3,3,1,1,1,12,12,12,0,12,12,1,4,1,1,0,2,2,2,2,3,0,3,3,3,8,3,3,1,3,3,3,7,8,0,0,0,0,8,0,0,0,8,8,0,9,11,11,1])
  [aStr lnm,aVal (.str lnm (t+1)) 1 4,aStr g0,aVal (.bool false) 0 0,aStr g1,aVal (.bool true) 0 0,aStr g2,aVal (.bool true) 0 0,aStr g3,aVal (.bool true) 0 0,aFr (.ok (.ret .none)) [((n+8),fldO "slice" [.none,.none,.none]),
  ((n+4),lstO [(.ref h1.a),(.ref h2.a),(.ref h3.a)] 3),
  (l,lstO [(.ref h1.a),(.ref h2.a),(.ref h3.a)] (ep+1))] [0,3,5] (n+9) (t+20)]
theorem del_4_0:∀(w:World) (n t x dx th l ep tn:Nat) (nm lnm:Str) (h0:Hd) (g0:Str) (h1:Hd) (g1:Str) (h2:Hd) (g2:Str) (h3:Hd) (g3:Str) (rest:List (Nat×Obj)),(fun(A:RR Fin) (B C D:Nat×Obj)=>valOf A=some (.ok (.done (.ret .none)))∧psOf A=dup (psOf A)∧keepC [2,9,10,12,13,14] 15 (mOf A)=⟨B::(x,insO 230 dx)::(dx,dctO [ez w.params (sO "_headers") th (.ref l)] 1)::(h1.a,tupO [(.str h1.k h1.u),(.str h1.v h1.z)])::(h2.a,tupO [(.str h2.k h2.u),(.str h2.v h2.z)])::(h3.a,tupO [(.str h3.k h3.u),(.str h3.v h3.z)])::rest,(n+9),(t+20)⟩∧(evOf A).reverse=evsIs A 0 [(.call (.builtin "str.lower") ⟨[(.str nm tn)],[]⟩,aStr lnm),(.call (.ref 129) ⟨[(.ref x),(.str lnm (t+1))],[((sO "name"),(.bool true))]⟩,aVal (.str lnm (t+1)) 1 4),(.call (.builtin "str.lower") ⟨[(.str h0.k h0.u)],[]⟩,aStr g0),(.call (.builtin "str.__ne__") ⟨[(.str g0 (t+9)),(.str lnm (t+1))],[]⟩,aVal (.bool false) 0 0),(.call (.builtin "str.lower") ⟨[(.str h1.k h1.u)],[]⟩,aStr g1),(.call (.builtin "str.__ne__") ⟨[(.str g1 (t+12)),(.str lnm (t+1))],[]⟩,aVal (.bool true) 0 0),(.call (.builtin "str.lower") ⟨[(.str h2.k h2.u)],[]⟩,aStr g2),(.call (.builtin "str.__ne__") ⟨[(.str g2 (t+15)),(.str lnm (t+1))],[]⟩,aVal (.bool true) 0 0),(.call (.builtin "str.lower") ⟨[(.str h3.k h3.u)],[]⟩,aStr g3),(.call (.builtin "str.__ne__") ⟨[(.str g3 (t+18)),(.str lnm (t+1))],[]⟩,aVal (.bool true) 0 0),(.call (.builtin "list.__setitem__") ⟨[(.ref l),(.ref (n+8)),(.ref (n+4))],[]⟩,aFr (.ok (.ret .none)) [D,C,B] [0,3,5] (n+9) (t+20))]∧(mE A 10).sz=(n+9)∧(mE A 10).tk=(t+20)∧(sep [0,3,5] ((mE A 10)).cells).1=[D,C,(l,lstO [(.ref h0.a),(.ref h1.a),(.ref h2.a),(.ref h3.a)] ep)]) (R_del_4_0 w n t x dx th l ep tn nm lnm h0 g0 h1 g1 h2 g2 h3 g3 rest) (l,lstO [(.ref h1.a),(.ref h2.a),(.ref h3.a)] (ep+1)) ((n+4),lstO [(.ref h1.a),(.ref h2.a),(.ref h3.a)] 3) ((n+8),fldO "slice" [.none,.none,.none]):=by
 refine byRow2 "special-get-raises" ?_ ?_<;>refine byRow2 "comprehension-iter-twice" ?_ ?_<;>(intros;exact⟨by kernel_rfl,by kernel_rfl,by kernel_rfl,by kernel_rfl,by kernel_rfl,by kernel_rfl,by kernel_rfl⟩)
noncomputable def R_del_4_1 (w:World) (n t x dx th l ep tn:Nat) (nm lnm:Str) (h0:Hd) (g0:Str) (h1:Hd) (g1:Str) (h2:Hd) (g2:Str) (h3:Hd) (g3:Str) (rest:List (Nat×Obj)):RR Fin :=
 runC w (.func (bodyOf (fdAt w 148)) (envC w 148 n [(sO "name",n+1)]))
  ⟨(n+1,celO (some (.str nm tn)))::(n,frO w.params t [(sO "self",.ref x)])::(tabC w x dx th l ep [h0,h1,h2,h3]++rest),n+2,t+1⟩
  (twice w [2,3,0,0,0,3,0,0,0,3,0,0,0,0,3,4,1,1,0,1,1,1,2,3,0,0,0,0,3,0,0,0,3,3,0,4,5,5,0,5,1,2,3,0,3,3,3,8,3,3,1,1,1,9,9,9,0,9,9,1,4,1,1,0,2,2,2,2,3,0,3,3,3,8,3,3,1,1,1,10,10,10,0,10,10,1,4,1,3,0,3,3,3,8,3,3,1,1,1,11,11,11,0,11,11,1,4,1,1,0,2,2,2,2,3,0,3,3,3,8,3,3,1,1,1,12,12,12,0,12,12,1,4,1,1,0,2,2,2,2,3,0,3,3,3,8,3,3,1,3,3,3,7,8,0,0,0,0,8,0,0,0,8,8,0,9,11,11,1] [2,3,0,0,0,3,0,0,0,3,0,0,0,0,3,4,1,1,0,1,1,1,2,3,0,0,0,0,3,0,0,0,3,3,0,4,5,5,0,5,1,2,3,3,0,3,3,3,0,3,3,3,8,3,3,1,1,1,9,9,9,0,9,9,1,4,1,1,0,2,2,2,2,3,0,3,3,3,8,3,3,1,1,1,10,10,10,0,10,10,1,4,1,3,0,3,3,3,8,3,3,1,1,1,11,11,11,0,11,11,1,4,1,1,0,2,2,2,2,3,0,3,3,3,8,3,3,1,1,1,12,12,12,0,12,12,1,4,1,1,0,2,2,2,2,3,0,3,3,3,8,3,3,1,3,3,3,7,8,0,0,0,0,8,0,0,0,8,8,0,9,11,11,1])
  [aStr lnm,aVal (.str lnm (t+1)) 1 4,aStr g0,aVal (.bool true) 0 0,aStr g1,aVal (.bool false) 0 0,aStr g2,aVal (.bool true) 0 0,aStr g3,aVal (.bool true) 0 0,aFr (.ok (.ret .none)) [((n+8),fldO "slice" [.none,.none,.none]),
  ((n+4),lstO [(.ref h0.a),(.ref h2.a),(.ref h3.a)] 3),
  (l,lstO [(.ref h0.a),(.ref h2.a),(.ref h3.a)] (ep+1))] [0,3,5] (n+9) (t+20)]
theorem del_4_1:∀(w:World) (n t x dx th l ep tn:Nat) (nm lnm:Str) (h0:Hd) (g0:Str) (h1:Hd) (g1:Str) (h2:Hd) (g2:Str) (h3:Hd) (g3:Str) (rest:List (Nat×Obj)),(fun(A:RR Fin) (B C D:Nat×Obj)=>valOf A=some (.ok (.done (.ret .none)))∧psOf A=dup (psOf A)∧keepC [2,9,10,11,13,14] 15 (mOf A)=⟨B::(x,insO 230 dx)::(dx,dctO [ez w.params (sO "_headers") th (.ref l)] 1)::(h0.a,tupO [(.str h0.k h0.u),(.str h0.v h0.z)])::(h2.a,tupO [(.str h2.k h2.u),(.str h2.v h2.z)])::(h3.a,tupO [(.str h3.k h3.u),(.str h3.v h3.z)])::rest,(n+9),(t+20)⟩∧(evOf A).reverse=evsIs A 0 [(.call (.builtin "str.lower") ⟨[(.str nm tn)],[]⟩,aStr lnm),(.call (.ref 129) ⟨[(.ref x),(.str lnm (t+1))],[((sO "name"),(.bool true))]⟩,aVal (.str lnm (t+1)) 1 4),(.call (.builtin "str.lower") ⟨[(.str h0.k h0.u)],[]⟩,aStr g0),(.call (.builtin "str.__ne__") ⟨[(.str g0 (t+9)),(.str lnm (t+1))],[]⟩,aVal (.bool true) 0 0),(.call (.builtin "str.lower") ⟨[(.str h1.k h1.u)],[]⟩,aStr g1),(.call (.builtin "str.__ne__") ⟨[(.str g1 (t+12)),(.str lnm (t+1))],[]⟩,aVal (.bool false) 0 0),(.call (.builtin "str.lower") ⟨[(.str h2.k h2.u)],[]⟩,aStr g2),(.call (.builtin "str.__ne__") ⟨[(.str g2 (t+15)),(.str lnm (t+1))],[]⟩,aVal (.bool true) 0 0),(.call (.builtin "str.lower") ⟨[(.str h3.k h3.u)],[]⟩,aStr g3),(.call (.builtin "str.__ne__") ⟨[(.str g3 (t+18)),(.str lnm (t+1))],[]⟩,aVal (.bool true) 0 0),(.call (.builtin "list.__setitem__") ⟨[(.ref l),(.ref (n+8)),(.ref (n+4))],[]⟩,aFr (.ok (.ret .none)) [D,C,B] [0,3,5] (n+9) (t+20))]∧(mE A 10).sz=(n+9)∧(mE A 10).tk=(t+20)∧(sep [0,3,5] ((mE A 10)).cells).1=[D,C,(l,lstO [(.ref h0.a),(.ref h1.a),(.ref h2.a),(.ref h3.a)] ep)]) (R_del_4_1 w n t x dx th l ep tn nm lnm h0 g0 h1 g1 h2 g2 h3 g3 rest) (l,lstO [(.ref h0.a),(.ref h2.a),(.ref h3.a)] (ep+1)) ((n+4),lstO [(.ref h0.a),(.ref h2.a),(.ref h3.a)] 3) ((n+8),fldO "slice" [.none,.none,.none]):=by
 refine byRow2 "special-get-raises" ?_ ?_<;>refine byRow2 "comprehension-iter-twice" ?_ ?_<;>(intros;exact⟨by kernel_rfl,by kernel_rfl,by kernel_rfl,by kernel_rfl,by kernel_rfl,by kernel_rfl,by kernel_rfl⟩)
noncomputable def R_del_4_2 (w:World) (n t x dx th l ep tn:Nat) (nm lnm:Str) (h0:Hd) (g0:Str) (h1:Hd) (g1:Str) (h2:Hd) (g2:Str) (h3:Hd) (g3:Str) (rest:List (Nat×Obj)):RR Fin :=
 runC w (.func (bodyOf (fdAt w 148)) (envC w 148 n [(sO "name",n+1)]))
  ⟨(n+1,celO (some (.str nm tn)))::(n,frO w.params t [(sO "self",.ref x)])::(tabC w x dx th l ep [h0,h1,h2,h3]++rest),n+2,t+1⟩
  (twice w [2,3,0,0,0,3,0,0,0,3,0,0,0,0,3,4,1,1,0,1,1,1,2,3,0,0,0,0,3,0,0,0,3,3,0,4,5,5,0,5,1,2,3,0,3,3,3,8,3,3,1,1,1,9,9,9,0,9,9,1,4,1,1,0,2,2,2,2,3,0,3,3,3,8,3,3,1,1,1,10,10,10,0,10,10,1,4,1,1,0,2,2,2,2,3,0,3,3,3,8,3,3,1,1,1,11,11,11,0,11,11,1,4,1,3,0,3,3,3,8,3,3,1,1,1,12,12,12,0,12,12,1,4,1,1,0,2,2,2,2,3,0,3,3,3,8,3,3,1,3,3,3,7,8,0,0,0,0,8,0,0,0,8,8,0,9,11,11,1] [2,3,0,0,0,3,0,0,0,3,0,0,0,0,3,4,1,1,0,1,1,1,2,3,0,0,0,0,3,0,0,0,3,3,0,4,5,5,0,5,1,2,3,3,0,3,3,3,0,3,3,3,8,3,3,1,1,1,9,9,9,0,9,9,1,4,1,1,0,2,2,2,2,3,0,3,3,3,8,3,3,1,1,1,10,10,10,0,10,10,1,4,1,1,0,2,2,2,2,3,0,3,3,3,8,3,3,1,1,1,11,11,11,0,11,11,1,4,1,3,0,3,3,3,8,3,3,1,1,1,12,12,12,0,12,12,1,4,1,1,0,2,2,2,2,3,0,3,3,3,8,3,3,1,3,3,3,7,8,0,0,0,0,8,0,0,0,8,8,0,9,11,11,1])
  [aStr lnm,aVal (.str lnm (t+1)) 1 4,aStr g0,aVal (.bool true) 0 0,aStr g1,aVal (.bool true) 0 0,aStr g2,aVal (.bool false) 0 0,aStr g3,aVal (.bool true) 0 0,aFr (.ok (.ret .none)) [((n+8),fldO "slice" [.none,.none,.none]),
  ((n+4),lstO [(.ref h0.a),(.ref h1.a),(.ref h3.a)] 3),
  (l,lstO [(.ref h0.a),(.ref h1.a),(.ref h3.a)] (ep+1))] [0,3,5] (n+9) (t+20)]
theorem del_4_2:∀(w:World) (n t x dx th l ep tn:Nat) (nm lnm:Str) (h0:Hd) (g0:Str) (h1:Hd) (g1:Str) (h2:Hd) (g2:Str) (h3:Hd) (g3:Str) (rest:List (Nat×Obj)),(fun(A:RR Fin) (B C D:Nat×Obj)=>valOf A=some (.ok (.done (.ret .none)))∧psOf A=dup (psOf A)∧keepC [2,9,10,11,12,14] 15 (mOf A)=⟨B::(x,insO 230 dx)::(dx,dctO [ez w.params (sO "_headers") th (.ref l)] 1)::(h0.a,tupO [(.str h0.k h0.u),(.str h0.v h0.z)])::(h1.a,tupO [(.str h1.k h1.u),(.str h1.v h1.z)])::(h3.a,tupO [(.str h3.k h3.u),(.str h3.v h3.z)])::rest,(n+9),(t+20)⟩∧(evOf A).reverse=evsIs A 0 [(.call (.builtin "str.lower") ⟨[(.str nm tn)],[]⟩,aStr lnm),(.call (.ref 129) ⟨[(.ref x),(.str lnm (t+1))],[((sO "name"),(.bool true))]⟩,aVal (.str lnm (t+1)) 1 4),(.call (.builtin "str.lower") ⟨[(.str h0.k h0.u)],[]⟩,aStr g0),(.call (.builtin "str.__ne__") ⟨[(.str g0 (t+9)),(.str lnm (t+1))],[]⟩,aVal (.bool true) 0 0),(.call (.builtin "str.lower") ⟨[(.str h1.k h1.u)],[]⟩,aStr g1),(.call (.builtin "str.__ne__") ⟨[(.str g1 (t+12)),(.str lnm (t+1))],[]⟩,aVal (.bool true) 0 0),(.call (.builtin "str.lower") ⟨[(.str h2.k h2.u)],[]⟩,aStr g2),(.call (.builtin "str.__ne__") ⟨[(.str g2 (t+15)),(.str lnm (t+1))],[]⟩,aVal (.bool false) 0 0),(.call (.builtin "str.lower") ⟨[(.str h3.k h3.u)],[]⟩,aStr g3),(.call (.builtin "str.__ne__") ⟨[(.str g3 (t+18)),(.str lnm (t+1))],[]⟩,aVal (.bool true) 0 0),(.call (.builtin "list.__setitem__") ⟨[(.ref l),(.ref (n+8)),(.ref (n+4))],[]⟩,aFr (.ok (.ret .none)) [D,C,B] [0,3,5] (n+9) (t+20))]∧(mE A 10).sz=(n+9)∧(mE A 10).tk=(t+20)∧(sep [0,3,5] ((mE A 10)).cells).1=[D,C,(l,lstO [(.ref h0.a),(.ref h1.a),(.ref h2.a),(.ref h3.a)] ep)]) (R_del_4_2 w n t x dx th l ep tn nm lnm h0 g0 h1 g1 h2 g2 h3 g3 rest) (l,lstO [(.ref h0.a),(.ref h1.a),(.ref h3.a)] (ep+1)) ((n+4),lstO [(.ref h0.a),(.ref h1.a),(.ref h3.a)] 3) ((n+8),fldO "slice" [.none,.none,.none]):=by
 refine byRow2 "special-get-raises" ?_ ?_<;>refine byRow2 "comprehension-iter-twice" ?_ ?_<;>(intros;exact⟨by kernel_rfl,by kernel_rfl,by kernel_rfl,by kernel_rfl,by kernel_rfl,by kernel_rfl,by kernel_rfl⟩)
noncomputable def R_del_4_3 (w:World) (n t x dx th l ep tn:Nat) (nm lnm:Str) (h0:Hd) (g0:Str) (h1:Hd) (g1:Str) (h2:Hd) (g2:Str) (h3:Hd) (g3:Str) (rest:List (Nat×Obj)):RR Fin :=
 runC w (.func (bodyOf (fdAt w 148)) (envC w 148 n [(sO "name",n+1)]))
  ⟨(n+1,celO (some (.str nm tn)))::(n,frO w.params t [(sO "self",.ref x)])::(tabC w x dx th l ep [h0,h1,h2,h3]++rest),n+2,t+1⟩
  (twice w [2,3,0,0,0,3,0,0,0,3,0,0,0,0,3,4,1,1,0,1,1,1,2,3,0,0,0,0,3,0,0,0,3,3,0,4,5,5,0,5,1,2,3,0,3,3,3,8,3,3,1,1,1,9,9,9,0,9,9,1,4,1,1,0,2,2,2,2,3,0,3,3,3,8,3,3,1,1,1,10,10,10,0,10,10,1,4,1,1,0,2,2,2,2,3,0,3,3,3,8,3,3,1,1,1,11,11,11,0,11,11,1,4,1,1,0,2,2,2,2,3,0,3,3,3,8,3,3,1,1,1,12,12,12,0,12,12,1,4,1,3,0,3,3,3,8,3,3,1,3,3,3,7,8,0,0,0,0,8,0,0,0,8,8,0,9,11,11,1] [2,3,0,0,0,3,0,0,0,3,0,0,0,0,3,4,1,1,0,1,1,1,2,3,0,0,0,0,3,0,0,0,3,3,0,4,5,5,0,5,1,2,3,3,0,3,3,3,0,3,3,3,8,3,3,1,1,1,9,9,9,0,9,9,1,4,1,1,0,2,2,2,2,3,0,3,3,3,8,3,3,1,1,1,10,10,10,0,10,10,1,4,1,1,0,2,2,2,2,3,0,3,3,3,8,3,3,1,1,1,11,11,11,0,11,11,1,4,1,1,0,2,2,2,2,3,0,3,3,3,8,3,3,1,1,1,12,12,12,0,12,12,1,4,1,3,0,3,3,3,8,3,3,1,3,3,3,7,8,0,0,0,0,8,0,0,0,8,8,0,9,11,11,1])
  [aStr lnm,aVal (.str lnm (t+1)) 1 4,aStr g0,aVal (.bool true) 0 0,aStr g1,aVal (.bool true) 0 0,aStr g2,aVal (.bool true) 0 0,aStr g3,aVal (.bool false) 0 0,aFr (.ok (.ret .none)) [((n+8),fldO "slice" [.none,.none,.none]),
  ((n+4),lstO [(.ref h0.a),(.ref h1.a),(.ref h2.a)] 3),
  (l,lstO [(.ref h0.a),(.ref h1.a),(.ref h2.a)] (ep+1))] [0,3,5] (n+9) (t+20)]
theorem del_4_3:∀(w:World) (n t x dx th l ep tn:Nat) (nm lnm:Str) (h0:Hd) (g0:Str) (h1:Hd) (g1:Str) (h2:Hd) (g2:Str) (h3:Hd) (g3:Str) (rest:List (Nat×Obj)),(fun(A:RR Fin) (B C D:Nat×Obj)=>valOf A=some (.ok (.done (.ret .none)))∧psOf A=dup (psOf A)∧keepC [2,9,10,11,12,13] 15 (mOf A)=⟨B::(x,insO 230 dx)::(dx,dctO [ez w.params (sO "_headers") th (.ref l)] 1)::(h0.a,tupO [(.str h0.k h0.u),(.str h0.v h0.z)])::(h1.a,tupO [(.str h1.k h1.u),(.str h1.v h1.z)])::(h2.a,tupO [(.str h2.k h2.u),(.str h2.v h2.z)])::rest,(n+9),(t+20)⟩∧(evOf A).reverse=evsIs A 0 [(.call (.builtin "str.lower") ⟨[(.str nm tn)],[]⟩,aStr lnm),(.call (.ref 129) ⟨[(.ref x),(.str lnm (t+1))],[((sO "name"),(.bool true))]⟩,aVal (.str lnm (t+1)) 1 4),(.call (.builtin "str.lower") ⟨[(.str h0.k h0.u)],[]⟩,aStr g0),(.call (.builtin "str.__ne__") ⟨[(.str g0 (t+9)),(.str lnm (t+1))],[]⟩,aVal (.bool true) 0 0),(.call (.builtin "str.lower") ⟨[(.str h1.k h1.u)],[]⟩,aStr g1),(.call (.builtin "str.__ne__") ⟨[(.str g1 (t+12)),(.str lnm (t+1))],[]⟩,aVal (.bool true) 0 0),(.call (.builtin "str.lower") ⟨[(.str h2.k h2.u)],[]⟩,aStr g2),(.call (.builtin "str.__ne__") ⟨[(.str g2 (t+15)),(.str lnm (t+1))],[]⟩,aVal (.bool true) 0 0),(.call (.builtin "str.lower") ⟨[(.str h3.k h3.u)],[]⟩,aStr g3),(.call (.builtin "str.__ne__") ⟨[(.str g3 (t+18)),(.str lnm (t+1))],[]⟩,aVal (.bool false) 0 0),(.call (.builtin "list.__setitem__") ⟨[(.ref l),(.ref (n+8)),(.ref (n+4))],[]⟩,aFr (.ok (.ret .none)) [D,C,B] [0,3,5] (n+9) (t+20))]∧(mE A 10).sz=(n+9)∧(mE A 10).tk=(t+20)∧(sep [0,3,5] ((mE A 10)).cells).1=[D,C,(l,lstO [(.ref h0.a),(.ref h1.a),(.ref h2.a),(.ref h3.a)] ep)]) (R_del_4_3 w n t x dx th l ep tn nm lnm h0 g0 h1 g1 h2 g2 h3 g3 rest) (l,lstO [(.ref h0.a),(.ref h1.a),(.ref h2.a)] (ep+1)) ((n+4),lstO [(.ref h0.a),(.ref h1.a),(.ref h2.a)] 3) ((n+8),fldO "slice" [.none,.none,.none]):=by
 refine byRow2 "special-get-raises" ?_ ?_<;>refine byRow2 "comprehension-iter-twice" ?_ ?_<;>(intros;exact⟨by kernel_rfl,by kernel_rfl,by kernel_rfl,by kernel_rfl,by kernel_rfl,by kernel_rfl,by kernel_rfl⟩)
theorem set_in {w:World} {h₀:Heap} {os:OsState} (B:Base w h₀) {k:Nat} (hk:k≤200) (x tn tv:Nat) (nm vl:Str) (n t:Nat) (rest:List (Nat×Obj)) {r:Result} {m':SM}
  (h:Spec w h₀ os k (.func (bodyOf (fdAt w 143)) (envAt w 143 n)) ⟨(n,frO w.params t [((sO "self"),(.ref x)),((sO "name"),(.str nm tn)),((sO "val"),(.str vl tv))])::rest,n+1,t+3⟩ r m') :
  Spec w h₀ os k (.call (.ref 143) ⟨[.ref x,.str nm tn,.str vl tv],[]⟩) ⟨rest,n,t⟩ r m' :=
 spec_fn B (by kernel_rfl) (show RT3 (runT w (bindZ (fdAt w 143) ⟨[.ref x,.str nm tn,.str vl tv],[]⟩) ⟨rest,n,t⟩ []) (.ok [((sO "self"),(.ref x)),((sO "name"),(.str nm tn)),((sO "val"),(.str vl tv))]) ⟨rest,n,t⟩ from⟨by kernel_rfl,by kernel_rfl,by kernel_rfl⟩)
  (show RT3 (runT w (envZ (fdAt w 143).scope (fdAt w 143).globals (fdAt w 143).closure [((sO "self"),(.ref x)),((sO "name"),(.str nm tn)),((sO "val"),(.str vl tv))] ((fdAt w 143).qualname++sO ".<locals>.") (some 143) (fdAt w 143).code none (fdAt w 143).builtins) ⟨rest,n,t⟩ [1,1,1,1,1,1]) (.ok (envAt w 143 n)) ⟨(n,frO w.params t [((sO "self"),(.ref x)),((sO "name"),(.str nm tn)),((sO "val"),(.str vl tv))])::rest,n+1,t+3⟩ from⟨by kernel_rfl,by kernel_rfl,by kernel_rfl⟩) h hk
noncomputable def R_set_2 (w:World) (n t s1 t1 x dx th l ep ep' tn tv:Nat) (nm vl:Str) (h0:Hd) (h1:Hd) (r0:Hd) (rest:List (Nat×Obj)):RR Fin :=
 runC w (.func (bodyOf (fdAt w 143)) (envAt w 143 n))
  ⟨(n,frO w.params t [(sO "self",.ref x),(sO "name",.str nm tn),(sO "val",.str vl tv)])::(tabC w x dx th l ep [h0,h1]++rest),n+1,t+3⟩
  [1,1,2,0,2,0,0,0,0,1,5,1,0,0,0,0,1,0,0,0,1,1,0,2,3,3,3,3,5,1,0,0,0,1,0,0,0,1,0,0,0,0,1,2,5,0,1,5,1,0,0,0,1,0,0,0,1,0,0,0,0,1,2,5,0,1,0,4,4,4,4]
  [aFr (.ok (.ret .none)) (tabC w x dx th l ep' [r0]) [1,0,0,0,0] s1 t1,aVal (.str nm tn) 1 4,aVal (.str vl tv) 1 4]
theorem set_2:∀(w:World) (n t s1 t1 x dx th l ep ep' tn tv:Nat) (nm vl:Str) (h0:Hd) (h1:Hd) (r0:Hd) (rest:List (Nat×Obj)),(fun(A:RR Fin)=>valOf A=some (.ok (.done (.ret .none)))∧psOf A=dup (psOf A)∧keepC [0,1,2,3,4] 6 (mOf A)=⟨((s1+2),tupO [(.str nm tn),(.str vl tv)])::(x,insO 230 dx)::(dx,dctO [ez w.params (sO "_headers") th (.ref l)] 1)::(l,lstO [(.ref r0.a),(.ref (s1+2))] (ep'+1))::(r0.a,tupO [(.str r0.k r0.u),(.str r0.v r0.z)])::rest,(s1+3),(t1+9)⟩∧(evOf A).reverse=evsIs A 0 [(.call (.ref 148) ⟨[(.ref x),(.str nm tn)],[]⟩,aFr (.ok (.ret .none)) (tabC w x dx th l ep' [r0]) [1,0,0,0,0] s1 t1),(.call (.ref 129) ⟨[(.ref x),(.str nm tn)],[((sO "name"),(.bool true))]⟩,aVal (.str nm tn) 1 4),(.call (.ref 129) ⟨[(.ref x),(.str vl tv)],[((sO "name"),(.bool false))]⟩,aVal (.str vl tv) 1 4)]∧(mE A 0).sz=(n+1)∧(mE A 0).tk=(t+3)∧(sep [1,0,0,0,0] ((mE A 0)).cells).1=tabC w x dx th l ep [h0,h1]) (R_set_2 w n t s1 t1 x dx th l ep ep' tn tv nm vl h0 h1 r0 rest):=by
 refine byRow2 "special-get-raises" ?_ ?_<;>(intros;exact⟨by kernel_rfl,by kernel_rfl,by kernel_rfl,by kernel_rfl,by kernel_rfl,by kernel_rfl,by kernel_rfl⟩)
noncomputable def R_set_3 (w:World) (n t s1 t1 x dx th l ep ep' tn tv:Nat) (nm vl:Str) (h0:Hd) (h1:Hd) (h2:Hd) (r0:Hd) (r1:Hd) (rest:List (Nat×Obj)):RR Fin :=
 runC w (.func (bodyOf (fdAt w 143)) (envAt w 143 n))
  ⟨(n,frO w.params t [(sO "self",.ref x),(sO "name",.str nm tn),(sO "val",.str vl tv)])::(tabC w x dx th l ep [h0,h1,h2]++rest),n+1,t+3⟩
  [1,1,2,0,2,0,0,0,0,1,6,1,0,0,0,0,1,0,0,0,1,1,0,2,3,3,3,3,6,1,0,0,0,1,0,0,0,1,0,0,0,0,1,2,6,0,1,6,1,0,0,0,1,0,0,0,1,0,0,0,0,1,2,6,0,1,0,4,4,4,4]
  [aFr (.ok (.ret .none)) (tabC w x dx th l ep' [r0,r1]) [1,0,0,0,0,0] s1 t1,aVal (.str nm tn) 1 4,aVal (.str vl tv) 1 4]
theorem set_3:∀(w:World) (n t s1 t1 x dx th l ep ep' tn tv:Nat) (nm vl:Str) (h0:Hd) (h1:Hd) (h2:Hd) (r0:Hd) (r1:Hd) (rest:List (Nat×Obj)),(fun(A:RR Fin)=>valOf A=some (.ok (.done (.ret .none)))∧psOf A=dup (psOf A)∧keepC [0,1,2,3,4,5] 7 (mOf A)=⟨((s1+2),tupO [(.str nm tn),(.str vl tv)])::(x,insO 230 dx)::(dx,dctO [ez w.params (sO "_headers") th (.ref l)] 1)::(l,lstO [(.ref r0.a),(.ref r1.a),(.ref (s1+2))] (ep'+1))::(r0.a,tupO [(.str r0.k r0.u),(.str r0.v r0.z)])::(r1.a,tupO [(.str r1.k r1.u),(.str r1.v r1.z)])::rest,(s1+3),(t1+9)⟩∧(evOf A).reverse=evsIs A 0 [(.call (.ref 148) ⟨[(.ref x),(.str nm tn)],[]⟩,aFr (.ok (.ret .none)) (tabC w x dx th l ep' [r0,r1]) [1,0,0,0,0,0] s1 t1),(.call (.ref 129) ⟨[(.ref x),(.str nm tn)],[((sO "name"),(.bool true))]⟩,aVal (.str nm tn) 1 4),(.call (.ref 129) ⟨[(.ref x),(.str vl tv)],[((sO "name"),(.bool false))]⟩,aVal (.str vl tv) 1 4)]∧(mE A 0).sz=(n+1)∧(mE A 0).tk=(t+3)∧(sep [1,0,0,0,0,0] ((mE A 0)).cells).1=tabC w x dx th l ep [h0,h1,h2]) (R_set_3 w n t s1 t1 x dx th l ep ep' tn tv nm vl h0 h1 h2 r0 r1 rest):=by
 refine byRow2 "special-get-raises" ?_ ?_<;>(intros;exact⟨by kernel_rfl,by kernel_rfl,by kernel_rfl,by kernel_rfl,by kernel_rfl,by kernel_rfl,by kernel_rfl⟩)
noncomputable def R_set_4 (w:World) (n t s1 t1 x dx th l ep ep' tn tv:Nat) (nm vl:Str) (h0:Hd) (h1:Hd) (h2:Hd) (h3:Hd) (r0:Hd) (r1:Hd) (r2:Hd) (rest:List (Nat×Obj)):RR Fin :=
 runC w (.func (bodyOf (fdAt w 143)) (envAt w 143 n))
  ⟨(n,frO w.params t [(sO "self",.ref x),(sO "name",.str nm tn),(sO "val",.str vl tv)])::(tabC w x dx th l ep [h0,h1,h2,h3]++rest),n+1,t+3⟩
  [1,1,2,0,2,0,0,0,0,1,7,1,0,0,0,0,1,0,0,0,1,1,0,2,3,3,3,3,7,1,0,0,0,1,0,0,0,1,0,0,0,0,1,2,7,0,1,7,1,0,0,0,1,0,0,0,1,0,0,0,0,1,2,7,0,1,0,4,4,4,4]
  [aFr (.ok (.ret .none)) (tabC w x dx th l ep' [r0,r1,r2]) [1,0,0,0,0,0,0] s1 t1,aVal (.str nm tn) 1 4,aVal (.str vl tv) 1 4]
theorem set_4:∀(w:World) (n t s1 t1 x dx th l ep ep' tn tv:Nat) (nm vl:Str) (h0:Hd) (h1:Hd) (h2:Hd) (h3:Hd) (r0:Hd) (r1:Hd) (r2:Hd) (rest:List (Nat×Obj)),(fun(A:RR Fin)=>valOf A=some (.ok (.done (.ret .none)))∧psOf A=dup (psOf A)∧keepC [0,1,2,3,4,5,6] 8 (mOf A)=⟨((s1+2),tupO [(.str nm tn),(.str vl tv)])::(x,insO 230 dx)::(dx,dctO [ez w.params (sO "_headers") th (.ref l)] 1)::(l,lstO [(.ref r0.a),(.ref r1.a),(.ref r2.a),(.ref (s1+2))] (ep'+1))::(r0.a,tupO [(.str r0.k r0.u),(.str r0.v r0.z)])::(r1.a,tupO [(.str r1.k r1.u),(.str r1.v r1.z)])::(r2.a,tupO [(.str r2.k r2.u),(.str r2.v r2.z)])::rest,(s1+3),(t1+9)⟩∧(evOf A).reverse=evsIs A 0 [(.call (.ref 148) ⟨[(.ref x),(.str nm tn)],[]⟩,aFr (.ok (.ret .none)) (tabC w x dx th l ep' [r0,r1,r2]) [1,0,0,0,0,0,0] s1 t1),(.call (.ref 129) ⟨[(.ref x),(.str nm tn)],[((sO "name"),(.bool true))]⟩,aVal (.str nm tn) 1 4),(.call (.ref 129) ⟨[(.ref x),(.str vl tv)],[((sO "name"),(.bool false))]⟩,aVal (.str vl tv) 1 4)]∧(mE A 0).sz=(n+1)∧(mE A 0).tk=(t+3)∧(sep [1,0,0,0,0,0,0] ((mE A 0)).cells).1=tabC w x dx th l ep [h0,h1,h2,h3]) (R_set_4 w n t s1 t1 x dx th l ep ep' tn tv nm vl h0 h1 h2 h3 r0 r1 r2 rest):=by
 refine byRow2 "special-get-raises" ?_ ?_<;>(intros;exact⟨by kernel_rfl,by kernel_rfl,by kernel_rfl,by kernel_rfl,by kernel_rfl,by kernel_rfl,by kernel_rfl⟩)
section
open PySem.Builtin PySem.Builtin.List
section
variable {w:World} {h₀:Heap} {os:OsState}
theorem setsl2 (B:Base w h₀) {k:Nat} {l sl nw ep e2 n t:Nat} {x0 x1 y0:Nat} {rest:List (Nat×Obj)} :
  Spec w h₀ os k (.call (.builtin "list.__setitem__") ⟨[.ref l,.ref sl,.ref nw],[]⟩) ⟨(l,lstO [.ref x0,.ref x1] ep)::(sl,fldO "slice" [.none,.none,.none])::(nw,lstO [.ref y0] e2)::rest,n,t⟩ (.ok (.ret .none)) ⟨(l,lstO [.ref y0] (ep+1))::(sl,fldO "slice" [.none,.none,.none])::(nw,lstO [.ref y0] e2)::rest,n,t⟩:=by
 intro A s R hA D q
 have hA1:A.in1.handled=none:=hA.handled
 refine codeAny_call_builtin (by decide +kernel) entry_list_setitem ?_
 refine runT_wp B (t:=checkBuiltinCall "list.__setitem__" ⟨[.ref l,.ref sl,.ref nw],[]⟩) (hs:=[1]) (a:=()) (m':=⟨(l,lstO [.ref x0,.ref x1] ep)::(sl,fldO "slice" [.none,.none,.none])::(nw,lstO [.ref y0] e2)::rest,n,t⟩) ⟨by kernel_rfl,by kernel_rfl,by kernel_rfl⟩ hA1 D fun s0 D0=>?_
 unfold Builtin.«list.__setitem__»
 refine wpAny_bind (runT_wp B (t:=listBlankSlotArgs "__setitem__" 2 ⟨[.ref l,.ref sl,.ref nw],[]⟩) (hs:=[]) (a:=(.ref l,[.ref sl,.ref nw])) (m':=⟨(l,lstO [.ref x0,.ref x1] ep)::(sl,fldO "slice" [.none,.none,.none])::(nw,lstO [.ref y0] e2)::rest,n,t⟩) ⟨by kernel_rfl,by kernel_rfl,by kernel_rfl⟩ hA1 D0 fun s1 D1=>?_)
 try dsimp only
 refine wpAny_bind (runT_wp B (t:=listSubscript? (.ref sl)) (hs:=[2]) (a:=none) (m':=⟨(l,lstO [.ref x0,.ref x1] ep)::(sl,fldO "slice" [.none,.none,.none])::(nw,lstO [.ref y0] e2)::rest,n,t⟩) ⟨by kernel_rfl,by kernel_rfl,by kernel_rfl⟩ hA1 D1 fun s2 D2=>?_)
 try dsimp only
 refine wpAny_bind (runT_wp B (t:=typeOf (.ref sl)) (hs:=[2]) (a:=.type "slice") (m':=⟨(l,lstO [.ref x0,.ref x1] ep)::(sl,fldO "slice" [.none,.none,.none])::(nw,lstO [.ref y0] e2)::rest,n,t⟩) ⟨by kernel_rfl,by kernel_rfl,by kernel_rfl⟩ hA1 D2 fun s3 D3=>?_)
 try dsimp only
 cases h:listSameRef (Value.ref l) (Value.ref nw) with
 | false =>
  refine runT_wp B (hs:=[2,2,2,3,3,1,1,1,1]) (a:=.done (.ret .none)) (m':=⟨(l,lstO [.ref y0] (ep+1))::(sl,fldO "slice" [.none,.none,.none])::(nw,lstO [.ref y0] e2)::rest,n,t⟩) ⟨by kernel_rfl,by kernel_rfl,by kernel_rfl⟩ hA1 D3 fun s4 D4=>?_
  exact q s4 D4
 | true =>
  refine runT_wp B (hs:=[2,2,2,3,1,1,1,1]) (a:=.done (.ret .none)) (m':=⟨(l,lstO [.ref y0] (ep+1))::(sl,fldO "slice" [.none,.none,.none])::(nw,lstO [.ref y0] e2)::rest,n,t⟩) ⟨by kernel_rfl,by kernel_rfl,by kernel_rfl⟩ hA1 D3 fun s4 D4=>?_
  exact q s4 D4
theorem setsl3 (B:Base w h₀) {k:Nat} {l sl nw ep e2 n t:Nat} {x0 x1 x2 y0 y1:Nat} {rest:List (Nat×Obj)} :
  Spec w h₀ os k (.call (.builtin "list.__setitem__") ⟨[.ref l,.ref sl,.ref nw],[]⟩) ⟨(l,lstO [.ref x0,.ref x1,.ref x2] ep)::(sl,fldO "slice" [.none,.none,.none])::(nw,lstO [.ref y0,.ref y1] e2)::rest,n,t⟩ (.ok (.ret .none)) ⟨(l,lstO [.ref y0,.ref y1] (ep+1))::(sl,fldO "slice" [.none,.none,.none])::(nw,lstO [.ref y0,.ref y1] e2)::rest,n,t⟩:=by
 intro A s R hA D q
 have hA1:A.in1.handled=none:=hA.handled
 refine codeAny_call_builtin (by decide +kernel) entry_list_setitem ?_
 refine runT_wp B (t:=checkBuiltinCall "list.__setitem__" ⟨[.ref l,.ref sl,.ref nw],[]⟩) (hs:=[1]) (a:=()) (m':=⟨(l,lstO [.ref x0,.ref x1,.ref x2] ep)::(sl,fldO "slice" [.none,.none,.none])::(nw,lstO [.ref y0,.ref y1] e2)::rest,n,t⟩) ⟨by kernel_rfl,by kernel_rfl,by kernel_rfl⟩ hA1 D fun s0 D0=>?_
 unfold Builtin.«list.__setitem__»
 refine wpAny_bind (runT_wp B (t:=listBlankSlotArgs "__setitem__" 2 ⟨[.ref l,.ref sl,.ref nw],[]⟩) (hs:=[]) (a:=(.ref l,[.ref sl,.ref nw])) (m':=⟨(l,lstO [.ref x0,.ref x1,.ref x2] ep)::(sl,fldO "slice" [.none,.none,.none])::(nw,lstO [.ref y0,.ref y1] e2)::rest,n,t⟩) ⟨by kernel_rfl,by kernel_rfl,by kernel_rfl⟩ hA1 D0 fun s1 D1=>?_)
 try dsimp only
 refine wpAny_bind (runT_wp B (t:=listSubscript? (.ref sl)) (hs:=[2]) (a:=none) (m':=⟨(l,lstO [.ref x0,.ref x1,.ref x2] ep)::(sl,fldO "slice" [.none,.none,.none])::(nw,lstO [.ref y0,.ref y1] e2)::rest,n,t⟩) ⟨by kernel_rfl,by kernel_rfl,by kernel_rfl⟩ hA1 D1 fun s2 D2=>?_)
 try dsimp only
 refine wpAny_bind (runT_wp B (t:=typeOf (.ref sl)) (hs:=[2]) (a:=.type "slice") (m':=⟨(l,lstO [.ref x0,.ref x1,.ref x2] ep)::(sl,fldO "slice" [.none,.none,.none])::(nw,lstO [.ref y0,.ref y1] e2)::rest,n,t⟩) ⟨by kernel_rfl,by kernel_rfl,by kernel_rfl⟩ hA1 D2 fun s3 D3=>?_)
 try dsimp only
 cases h:listSameRef (Value.ref l) (Value.ref nw) with
 | false =>
  refine runT_wp B (hs:=[2,2,2,3,3,1,1,1,1]) (a:=.done (.ret .none)) (m':=⟨(l,lstO [.ref y0,.ref y1] (ep+1))::(sl,fldO "slice" [.none,.none,.none])::(nw,lstO [.ref y0,.ref y1] e2)::rest,n,t⟩) ⟨by kernel_rfl,by kernel_rfl,by kernel_rfl⟩ hA1 D3 fun s4 D4=>?_
  exact q s4 D4
 | true =>
  refine runT_wp B (hs:=[2,2,2,3,1,1,1,1]) (a:=.done (.ret .none)) (m':=⟨(l,lstO [.ref y0,.ref y1] (ep+1))::(sl,fldO "slice" [.none,.none,.none])::(nw,lstO [.ref y0,.ref y1] e2)::rest,n,t⟩) ⟨by kernel_rfl,by kernel_rfl,by kernel_rfl⟩ hA1 D3 fun s4 D4=>?_
  exact q s4 D4
theorem setsl4 (B:Base w h₀) {k:Nat} {l sl nw ep e2 n t:Nat} {x0 x1 x2 x3 y0 y1 y2:Nat} {rest:List (Nat×Obj)} :
  Spec w h₀ os k (.call (.builtin "list.__setitem__") ⟨[.ref l,.ref sl,.ref nw],[]⟩) ⟨(l,lstO [.ref x0,.ref x1,.ref x2,.ref x3] ep)::(sl,fldO "slice" [.none,.none,.none])::(nw,lstO [.ref y0,.ref y1,.ref y2] e2)::rest,n,t⟩ (.ok (.ret .none)) ⟨(l,lstO [.ref y0,.ref y1,.ref y2] (ep+1))::(sl,fldO "slice" [.none,.none,.none])::(nw,lstO [.ref y0,.ref y1,.ref y2] e2)::rest,n,t⟩:=by
 intro A s R hA D q
 have hA1:A.in1.handled=none:=hA.handled
 refine codeAny_call_builtin (by decide +kernel) entry_list_setitem ?_
 refine runT_wp B (t:=checkBuiltinCall "list.__setitem__" ⟨[.ref l,.ref sl,.ref nw],[]⟩) (hs:=[1]) (a:=()) (m':=⟨(l,lstO [.ref x0,.ref x1,.ref x2,.ref x3] ep)::(sl,fldO "slice" [.none,.none,.none])::(nw,lstO [.ref y0,.ref y1,.ref y2] e2)::rest,n,t⟩) ⟨by kernel_rfl,by kernel_rfl,by kernel_rfl⟩ hA1 D fun s0 D0=>?_
 unfold Builtin.«list.__setitem__»
 refine wpAny_bind (runT_wp B (t:=listBlankSlotArgs "__setitem__" 2 ⟨[.ref l,.ref sl,.ref nw],[]⟩) (hs:=[]) (a:=(.ref l,[.ref sl,.ref nw])) (m':=⟨(l,lstO [.ref x0,.ref x1,.ref x2,.ref x3] ep)::(sl,fldO "slice" [.none,.none,.none])::(nw,lstO [.ref y0,.ref y1,.ref y2] e2)::rest,n,t⟩) ⟨by kernel_rfl,by kernel_rfl,by kernel_rfl⟩ hA1 D0 fun s1 D1=>?_)
 try dsimp only
 refine wpAny_bind (runT_wp B (t:=listSubscript? (.ref sl)) (hs:=[2]) (a:=none) (m':=⟨(l,lstO [.ref x0,.ref x1,.ref x2,.ref x3] ep)::(sl,fldO "slice" [.none,.none,.none])::(nw,lstO [.ref y0,.ref y1,.ref y2] e2)::rest,n,t⟩) ⟨by kernel_rfl,by kernel_rfl,by kernel_rfl⟩ hA1 D1 fun s2 D2=>?_)
 try dsimp only
 refine wpAny_bind (runT_wp B (t:=typeOf (.ref sl)) (hs:=[2]) (a:=.type "slice") (m':=⟨(l,lstO [.ref x0,.ref x1,.ref x2,.ref x3] ep)::(sl,fldO "slice" [.none,.none,.none])::(nw,lstO [.ref y0,.ref y1,.ref y2] e2)::rest,n,t⟩) ⟨by kernel_rfl,by kernel_rfl,by kernel_rfl⟩ hA1 D2 fun s3 D3=>?_)
 try dsimp only
 cases h:listSameRef (Value.ref l) (Value.ref nw) with
 | false =>
  refine runT_wp B (hs:=[2,2,2,3,3,1,1,1,1]) (a:=.done (.ret .none)) (m':=⟨(l,lstO [.ref y0,.ref y1,.ref y2] (ep+1))::(sl,fldO "slice" [.none,.none,.none])::(nw,lstO [.ref y0,.ref y1,.ref y2] e2)::rest,n,t⟩) ⟨by kernel_rfl,by kernel_rfl,by kernel_rfl⟩ hA1 D3 fun s4 D4=>?_
  exact q s4 D4
 | true =>
  refine runT_wp B (hs:=[2,2,2,3,1,1,1,1]) (a:=.done (.ret .none)) (m':=⟨(l,lstO [.ref y0,.ref y1,.ref y2] (ep+1))::(sl,fldO "slice" [.none,.none,.none])::(nw,lstO [.ref y0,.ref y1,.ref y2] e2)::rest,n,t⟩) ⟨by kernel_rfl,by kernel_rfl,by kernel_rfl⟩ hA1 D3 fun s4 D4=>?_
  exact q s4 D4
end
end
section
variable {w:World} {h₀:Heap} {os:OsState}
theorem ne_e (w:World) (n t a b:Nat) (s u:Str) (rest:List (Nat×Obj)):valC (runP w (.call (.builtin "str.__ne__") ⟨[.str s a,.str u b],[]⟩) ⟨rest,n,t⟩ [])=some (.ok (.ret (.bool (s.cps.toList != u.cps.toList)))) ∧
  psC (runP w (.call (.builtin "str.__ne__") ⟨[.str s a,.str u b],[]⟩) ⟨rest,n,t⟩ [])=dup (psC (runP w (.call (.builtin "str.__ne__") ⟨[.str s a,.str u b],[]⟩) ⟨rest,n,t⟩ [])) ∧
  keepC [] 0 (mC (runP w (.call (.builtin "str.__ne__") ⟨[.str s a,.str u b],[]⟩) ⟨rest,n,t⟩ []))=⟨rest,n,t⟩:=⟨by kernel_rfl,by kernel_rfl,by kernel_rfl⟩
theorem ne_ev (B:Base w h₀) {k:Nat} (a b:Nat) {s u:Str} {c:Bool} (h:decide (s=u)=!c) (m:SM):Spec w h₀ os k (.call (.builtin "str.__ne__") ⟨[.str s a,.str u b],[]⟩) m (aVal (.bool c) 0 0 m).1 (aVal (.bool c) 0 0 m).2:=by
 have e:=ne_e w m.sz m.tk a b s u m.cells
 rw [show (s.cps.toList != u.cps.toList)=c by unfold bne;rw [str_beq,h,Bool.not_not]] at e
 exact spec_plain B e
theorem rot3 {α:Type} (a b c:α) (r:List α):(b::c::a::r).Perm (a::b::c::r):=List.perm_middle (l₁:=[b,c])
theorem sdf0 {k:Nat} (hk:k≤140) (x dx th l ep tn tv:Nat) {nm vl:Str} (hn:isName nm) (hv:isDots vl) :
  ∃ a d e,∀(h₀:Heap) (B:Base w h₀) (n t:Nat) (rest:List (Nat×Obj)),Spec w h₀ os k (.call (.ref 220) ⟨[.ref x,.str nm tn,.str vl tv],[]⟩) ⟨tabC w x dx th l ep []++rest,n,t⟩ (.ok (.ret (.str vl tv))) ⟨tabC w x dx th l (ep+1) [⟨n+a,nm,tn,vl,tv⟩]++rest,n+d,t+e⟩:=by
 obtain⟨d1,e1,hg⟩:=get0N (w:=w) (os:=os) (k:=k+21) (by exact Nat.le_trans (Nat.add_le_add_right ‹_› _) (by decide)) x dx th l ep tn hn
 refine⟨1+d1+2,1+d1+3,3+e1+10,fun h₀ B n t rest=>?_⟩
 have h:=sdf_0 w n t (n+1+d1) (t+3+e1) x dx th l ep tn tv nm vl rest
 refine sdf_in B (by exact Nat.le_trans ‹_› (by decide)) x tn tv nm vl n t _ ?_
 have hs:=spec_done (os:=os) (k:=k) B ⟨h.1,h.2.1,h.2.2.1⟩ (ev_of h.2.2.2.1 ⟨spec_fr h.2.2.2.2.1 h.2.2.2.2.2.1 h.2.2.2.2.2.2 (hg h₀ B _ _ _),conv_ev B (by exact Nat.le_trans (Nat.add_le_add_right ‹_› _) (by decide)) _ _ hn _,convF_ev B (by exact Nat.le_trans (Nat.add_le_add_right ‹_› _) (by decide)) _ _ hv _,trivial⟩)
 have ea:n+(1+d1+2)=n+1+d1+2:=by exact ox9
 refine hs.post ?_ (by show n+(1+d1+3)=n+1+d1+3;exact ox9) (by show t+(3+e1+10)=t+3+e1+10;exact ox9)
 rw [ea]
 exact (List.perm_middle (l₁:=tabC w x dx th l (ep+1) [⟨n+1+d1+2,nm,tn,vl,tv⟩] |>.dropLast)).symm
theorem sdf1 {k:Nat} (hk:k≤140) (x dx th l ep tn tv:Nat) {nm vl:Str} (hn:isName nm) (hv:isDots vl) (h0:Hd) (k0:isName h0.k) (e0:decide (lowS h0.k=lowS nm)=false) :
  ∃ a d e,∀(h₀:Heap) (B:Base w h₀) (n t:Nat) (rest:List (Nat×Obj)),Spec w h₀ os k (.call (.ref 220) ⟨[.ref x,.str nm tn,.str vl tv],[]⟩) ⟨tabC w x dx th l ep [h0]++rest,n,t⟩ (.ok (.ret (.str vl tv))) ⟨tabC w x dx th l (ep+1) [h0,⟨n+a,nm,tn,vl,tv⟩]++rest,n+d,t+e⟩:=by
 obtain⟨d1,e1,hg⟩:=get1N (w:=w) (os:=os) (k:=k+21) (by exact Nat.le_trans (Nat.add_le_add_right ‹_› _) (by decide)) x dx th l ep tn hn h0 k0 e0
 refine⟨1+d1+2,1+d1+3,3+e1+10,fun h₀ B n t rest=>?_⟩
 have h:=sdf_1 w n t (n+1+d1) (t+3+e1) x dx th l ep tn tv nm vl h0 rest
 refine sdf_in B (by exact Nat.le_trans ‹_› (by decide)) x tn tv nm vl n t _ ?_
 have hs:=spec_done (os:=os) (k:=k) B ⟨h.1,h.2.1,h.2.2.1⟩ (ev_of h.2.2.2.1 ⟨spec_fr h.2.2.2.2.1 h.2.2.2.2.2.1 h.2.2.2.2.2.2 (hg h₀ B _ _ _),conv_ev B (by exact Nat.le_trans (Nat.add_le_add_right ‹_› _) (by decide)) _ _ hn _,convF_ev B (by exact Nat.le_trans (Nat.add_le_add_right ‹_› _) (by decide)) _ _ hv _,trivial⟩)
 have ea:n+(1+d1+2)=n+1+d1+2:=by exact ox9
 refine hs.post ?_ (by show n+(1+d1+3)=n+1+d1+3;exact ox9) (by show t+(3+e1+10)=t+3+e1+10;exact ox9)
 rw [ea]
 exact (List.perm_middle (l₁:=tabC w x dx th l (ep+1) [h0,⟨n+1+d1+2,nm,tn,vl,tv⟩] |>.dropLast)).symm
theorem sdf2 {k:Nat} (hk:k≤140) (x dx th l ep tn tv:Nat) {nm vl:Str} (hn:isName nm) (hv:isDots vl) (h0:Hd) (h1:Hd) (k0:isName h0.k) (e0:decide (lowS h0.k=lowS nm)=false) (k1:isName h1.k) (e1:decide (lowS h1.k=lowS nm)=false) :
  ∃ a d e,∀(h₀:Heap) (B:Base w h₀) (n t:Nat) (rest:List (Nat×Obj)),Spec w h₀ os k (.call (.ref 220) ⟨[.ref x,.str nm tn,.str vl tv],[]⟩) ⟨tabC w x dx th l ep [h0,h1]++rest,n,t⟩ (.ok (.ret (.str vl tv))) ⟨tabC w x dx th l (ep+1) [h0,h1,⟨n+a,nm,tn,vl,tv⟩]++rest,n+d,t+e⟩:=by
 obtain⟨d1,e1,hg⟩:=get2N (w:=w) (os:=os) (k:=k+21) (by exact Nat.le_trans (Nat.add_le_add_right ‹_› _) (by decide)) x dx th l ep tn hn h0 h1 k0 e0 k1 e1
 refine⟨1+d1+2,1+d1+3,3+e1+10,fun h₀ B n t rest=>?_⟩
 have h:=sdf_2 w n t (n+1+d1) (t+3+e1) x dx th l ep tn tv nm vl h0 h1 rest
 refine sdf_in B (by exact Nat.le_trans ‹_› (by decide)) x tn tv nm vl n t _ ?_
 have hs:=spec_done (os:=os) (k:=k) B ⟨h.1,h.2.1,h.2.2.1⟩ (ev_of h.2.2.2.1 ⟨spec_fr h.2.2.2.2.1 h.2.2.2.2.2.1 h.2.2.2.2.2.2 (hg h₀ B _ _ _),conv_ev B (by exact Nat.le_trans (Nat.add_le_add_right ‹_› _) (by decide)) _ _ hn _,convF_ev B (by exact Nat.le_trans (Nat.add_le_add_right ‹_› _) (by decide)) _ _ hv _,trivial⟩)
 have ea:n+(1+d1+2)=n+1+d1+2:=by exact ox9
 refine hs.post ?_ (by show n+(1+d1+3)=n+1+d1+3;exact ox9) (by show t+(3+e1+10)=t+3+e1+10;exact ox9)
 rw [ea]
 exact (List.perm_middle (l₁:=tabC w x dx th l (ep+1) [h0,h1,⟨n+1+d1+2,nm,tn,vl,tv⟩] |>.dropLast)).symm
theorem sdf3 {k:Nat} (hk:k≤140) (x dx th l ep tn tv:Nat) {nm vl:Str} (hn:isName nm) (hv:isDots vl) (h0:Hd) (h1:Hd) (h2:Hd) (k0:isName h0.k) (e0:decide (lowS h0.k=lowS nm)=false) (k1:isName h1.k) (e1:decide (lowS h1.k=lowS nm)=false) (k2:isName h2.k) (e2:decide (lowS h2.k=lowS nm)=false) :
  ∃ a d e,∀(h₀:Heap) (B:Base w h₀) (n t:Nat) (rest:List (Nat×Obj)),Spec w h₀ os k (.call (.ref 220) ⟨[.ref x,.str nm tn,.str vl tv],[]⟩) ⟨tabC w x dx th l ep [h0,h1,h2]++rest,n,t⟩ (.ok (.ret (.str vl tv))) ⟨tabC w x dx th l (ep+1) [h0,h1,h2,⟨n+a,nm,tn,vl,tv⟩]++rest,n+d,t+e⟩:=by
 obtain⟨d1,e1,hg⟩:=get3N (w:=w) (os:=os) (k:=k+21) (by exact Nat.le_trans (Nat.add_le_add_right ‹_› _) (by decide)) x dx th l ep tn hn h0 h1 h2 k0 e0 k1 e1 k2 e2
 refine⟨1+d1+2,1+d1+3,3+e1+10,fun h₀ B n t rest=>?_⟩
 have h:=sdf_3 w n t (n+1+d1) (t+3+e1) x dx th l ep tn tv nm vl h0 h1 h2 rest
 refine sdf_in B (by exact Nat.le_trans ‹_› (by decide)) x tn tv nm vl n t _ ?_
 have hs:=spec_done (os:=os) (k:=k) B ⟨h.1,h.2.1,h.2.2.1⟩ (ev_of h.2.2.2.1 ⟨spec_fr h.2.2.2.2.1 h.2.2.2.2.2.1 h.2.2.2.2.2.2 (hg h₀ B _ _ _),conv_ev B (by exact Nat.le_trans (Nat.add_le_add_right ‹_› _) (by decide)) _ _ hn _,convF_ev B (by exact Nat.le_trans (Nat.add_le_add_right ‹_› _) (by decide)) _ _ hv _,trivial⟩)
 have ea:n+(1+d1+2)=n+1+d1+2:=by exact ox9
 refine hs.post ?_ (by show n+(1+d1+3)=n+1+d1+3;exact ox9) (by show t+(3+e1+10)=t+3+e1+10;exact ox9)
 rw [ea]
 exact (List.perm_middle (l₁:=tabC w x dx th l (ep+1) [h0,h1,h2,⟨n+1+d1+2,nm,tn,vl,tv⟩] |>.dropLast)).symm
theorem setslP2 (B:Base w h₀) {k:Nat} {l sl nw ep e2 n t:Nat} {x0 x1 y0:Nat} {rest:List (Nat×Obj)} :
  Spec w h₀ os k (.call (.builtin "list.__setitem__") ⟨[.ref l,.ref sl,.ref nw],[]⟩) ⟨(sl,fldO "slice" [.none,.none,.none])::(nw,lstO [.ref y0] e2)::(l,lstO [.ref x0,.ref x1] ep)::rest,n,t⟩ (.ok (.ret .none)) ⟨(sl,fldO "slice" [.none,.none,.none])::(nw,lstO [.ref y0] e2)::(l,lstO [.ref y0] (ep+1))::rest,n,t⟩ :=
 SpecE.post (m':=⟨(l,lstO [.ref y0] (ep+1))::(sl,fldO "slice" [.none,.none,.none])::(nw,lstO [.ref y0] e2)::rest,n,t⟩)
  (SpecE.pre (m:=⟨(l,lstO [.ref x0,.ref x1] ep)::(sl,fldO "slice" [.none,.none,.none])::(nw,lstO [.ref y0] e2)::rest,n,t⟩) (setsl2 B) (rot3 _ _ _ _) rfl rfl) (rot3 _ _ _ _).symm rfl rfl
theorem setslP3 (B:Base w h₀) {k:Nat} {l sl nw ep e2 n t:Nat} {x0 x1 x2 y0 y1:Nat} {rest:List (Nat×Obj)} :
  Spec w h₀ os k (.call (.builtin "list.__setitem__") ⟨[.ref l,.ref sl,.ref nw],[]⟩) ⟨(sl,fldO "slice" [.none,.none,.none])::(nw,lstO [.ref y0,.ref y1] e2)::(l,lstO [.ref x0,.ref x1,.ref x2] ep)::rest,n,t⟩ (.ok (.ret .none)) ⟨(sl,fldO "slice" [.none,.none,.none])::(nw,lstO [.ref y0,.ref y1] e2)::(l,lstO [.ref y0,.ref y1] (ep+1))::rest,n,t⟩ :=
 SpecE.post (m':=⟨(l,lstO [.ref y0,.ref y1] (ep+1))::(sl,fldO "slice" [.none,.none,.none])::(nw,lstO [.ref y0,.ref y1] e2)::rest,n,t⟩)
  (SpecE.pre (m:=⟨(l,lstO [.ref x0,.ref x1,.ref x2] ep)::(sl,fldO "slice" [.none,.none,.none])::(nw,lstO [.ref y0,.ref y1] e2)::rest,n,t⟩) (setsl3 B) (rot3 _ _ _ _) rfl rfl) (rot3 _ _ _ _).symm rfl rfl
theorem setslP4 (B:Base w h₀) {k:Nat} {l sl nw ep e2 n t:Nat} {x0 x1 x2 x3 y0 y1 y2:Nat} {rest:List (Nat×Obj)} :
  Spec w h₀ os k (.call (.builtin "list.__setitem__") ⟨[.ref l,.ref sl,.ref nw],[]⟩) ⟨(sl,fldO "slice" [.none,.none,.none])::(nw,lstO [.ref y0,.ref y1,.ref y2] e2)::(l,lstO [.ref x0,.ref x1,.ref x2,.ref x3] ep)::rest,n,t⟩ (.ok (.ret .none)) ⟨(sl,fldO "slice" [.none,.none,.none])::(nw,lstO [.ref y0,.ref y1,.ref y2] e2)::(l,lstO [.ref y0,.ref y1,.ref y2] (ep+1))::rest,n,t⟩ :=
 SpecE.post (m':=⟨(l,lstO [.ref y0,.ref y1,.ref y2] (ep+1))::(sl,fldO "slice" [.none,.none,.none])::(nw,lstO [.ref y0,.ref y1,.ref y2] e2)::rest,n,t⟩)
  (SpecE.pre (m:=⟨(l,lstO [.ref x0,.ref x1,.ref x2,.ref x3] ep)::(sl,fldO "slice" [.none,.none,.none])::(nw,lstO [.ref y0,.ref y1,.ref y2] e2)::rest,n,t⟩) (setsl4 B) (rot3 _ _ _ _) rfl rfl) (rot3 _ _ _ _).symm rfl rfl
theorem del20 {k:Nat} (hk:k≤150) (x dx th l ep tn:Nat) {nm:Str} (hn:isName nm) (h0:Hd) (h1:Hd) (k0:isName h0.k) (e0:decide (lowS h0.k=lowS nm)=true) (k1:isName h1.k) (e1:decide (lowS h1.k=lowS nm)=false) :
  ∃ d e,∀(h₀:Heap) (B:Base w h₀) (n t:Nat) (rest:List (Nat×Obj)),Spec w h₀ os k (.call (.ref 148) ⟨[.ref x,.str nm tn],[]⟩) ⟨tabC w x dx th l ep [h0,h1]++rest,n,t⟩ (.ok (.ret .none)) ⟨tabC w x dx th l (ep+1) [h1]++rest,n+d,t+e⟩:=by
 refine⟨9,14,fun h₀ B n t rest=>?_⟩
 have h:=del_2_0 w n t x dx th l ep tn nm (lowS nm) h0 (lowS h0.k) h1 (lowS h1.k) rest
 refine del_in B (by exact Nat.le_trans ‹_› (by decide)) x tn nm n t _ ?_
 have hs:=spec_done (os:=os) (k:=k) B ⟨h.1,h.2.1,h.2.2.1⟩ (ev_of h.2.2.2.1 ⟨low_ev B _ hn _,conv_ev B (by exact Nat.le_trans (Nat.add_le_add_right ‹_› _) (by decide)) _ _ (isName_low hn) _,low_ev B _ k0 _,ne_ev B _ _ e0 _,low_ev B _ k1 _,ne_ev B _ _ e1 _,spec_fr h.2.2.2.2.1 h.2.2.2.2.2.1 h.2.2.2.2.2.2 (setslP2 B),trivial⟩)
 exact hs.post (rot3 _ _ _ _).symm rfl rfl
theorem set20 {k:Nat} (hk:k≤120) (x dx th l ep tn tv:Nat) {nm vl:Str} (hn:isName nm) (hv:isDots vl) (h0:Hd) (h1:Hd) (k0:isName h0.k) (e0:decide (lowS h0.k=lowS nm)=true) (k1:isName h1.k) (e1:decide (lowS h1.k=lowS nm)=false) :
  ∃ a d e,∀(h₀:Heap) (B:Base w h₀) (n t:Nat) (rest:List (Nat×Obj)),Spec w h₀ os k (.call (.ref 143) ⟨[.ref x,.str nm tn,.str vl tv],[]⟩) ⟨tabC w x dx th l ep [h0,h1]++rest,n,t⟩ (.ok (.ret .none)) ⟨tabC w x dx th l (ep+1+1) [h1,⟨n+a,nm,tn,vl,tv⟩]++rest,n+d,t+e⟩:=by
 obtain⟨d1,e1,hg⟩:=del20 (w:=w) (os:=os) (k:=k+21) (by exact Nat.le_trans (Nat.add_le_add_right ‹_› _) (by decide)) x dx th l ep tn hn h0 h1 k0 e0 k1 e1
 refine⟨1+d1+2,1+d1+3,3+e1+9,fun h₀ B n t rest=>?_⟩
 have h:=set_2 w n t (n+1+d1) (t+3+e1) x dx th l ep (ep+1) tn tv nm vl h0 h1 h1 rest
 refine set_in B (by exact Nat.le_trans ‹_› (by decide)) x tn tv nm vl n t _ ?_
 have hs:=spec_done (os:=os) (k:=k) B ⟨h.1,h.2.1,h.2.2.1⟩ (ev_of h.2.2.2.1 ⟨spec_fr h.2.2.2.2.1 h.2.2.2.2.2.1 h.2.2.2.2.2.2 (hg h₀ B _ _ _),conv_ev B (by exact Nat.le_trans (Nat.add_le_add_right ‹_› _) (by decide)) _ _ hn _,convF_ev B (by exact Nat.le_trans (Nat.add_le_add_right ‹_› _) (by decide)) _ _ hv _,trivial⟩)
 have ea:n+(1+d1+2)=n+1+d1+2:=by exact ox9
 refine hs.post ?_ (by show n+(1+d1+3)=n+1+d1+3;exact ox9) (by show t+(3+e1+9)=t+3+e1+9;exact ox9)
 rw [ea]
 exact (List.perm_middle (l₁:=tabC w x dx th l (ep+1+1) [h1,⟨n+1+d1+2,nm,tn,vl,tv⟩] |>.dropLast)).symm
theorem del21 {k:Nat} (hk:k≤150) (x dx th l ep tn:Nat) {nm:Str} (hn:isName nm) (h0:Hd) (h1:Hd) (k0:isName h0.k) (e0:decide (lowS h0.k=lowS nm)=false) (k1:isName h1.k) (e1:decide (lowS h1.k=lowS nm)=true) :
  ∃ d e,∀(h₀:Heap) (B:Base w h₀) (n t:Nat) (rest:List (Nat×Obj)),Spec w h₀ os k (.call (.ref 148) ⟨[.ref x,.str nm tn],[]⟩) ⟨tabC w x dx th l ep [h0,h1]++rest,n,t⟩ (.ok (.ret .none)) ⟨tabC w x dx th l (ep+1) [h0]++rest,n+d,t+e⟩:=by
 refine⟨9,14,fun h₀ B n t rest=>?_⟩
 have h:=del_2_1 w n t x dx th l ep tn nm (lowS nm) h0 (lowS h0.k) h1 (lowS h1.k) rest
 refine del_in B (by exact Nat.le_trans ‹_› (by decide)) x tn nm n t _ ?_
 have hs:=spec_done (os:=os) (k:=k) B ⟨h.1,h.2.1,h.2.2.1⟩ (ev_of h.2.2.2.1 ⟨low_ev B _ hn _,conv_ev B (by exact Nat.le_trans (Nat.add_le_add_right ‹_› _) (by decide)) _ _ (isName_low hn) _,low_ev B _ k0 _,ne_ev B _ _ e0 _,low_ev B _ k1 _,ne_ev B _ _ e1 _,spec_fr h.2.2.2.2.1 h.2.2.2.2.2.1 h.2.2.2.2.2.2 (setslP2 B),trivial⟩)
 exact hs.post (rot3 _ _ _ _).symm rfl rfl
theorem set21 {k:Nat} (hk:k≤120) (x dx th l ep tn tv:Nat) {nm vl:Str} (hn:isName nm) (hv:isDots vl) (h0:Hd) (h1:Hd) (k0:isName h0.k) (e0:decide (lowS h0.k=lowS nm)=false) (k1:isName h1.k) (e1:decide (lowS h1.k=lowS nm)=true) :
  ∃ a d e,∀(h₀:Heap) (B:Base w h₀) (n t:Nat) (rest:List (Nat×Obj)),Spec w h₀ os k (.call (.ref 143) ⟨[.ref x,.str nm tn,.str vl tv],[]⟩) ⟨tabC w x dx th l ep [h0,h1]++rest,n,t⟩ (.ok (.ret .none)) ⟨tabC w x dx th l (ep+1+1) [h0,⟨n+a,nm,tn,vl,tv⟩]++rest,n+d,t+e⟩:=by
 obtain⟨d1,e1,hg⟩:=del21 (w:=w) (os:=os) (k:=k+21) (by exact Nat.le_trans (Nat.add_le_add_right ‹_› _) (by decide)) x dx th l ep tn hn h0 h1 k0 e0 k1 e1
 refine⟨1+d1+2,1+d1+3,3+e1+9,fun h₀ B n t rest=>?_⟩
 have h:=set_2 w n t (n+1+d1) (t+3+e1) x dx th l ep (ep+1) tn tv nm vl h0 h1 h0 rest
 refine set_in B (by exact Nat.le_trans ‹_› (by decide)) x tn tv nm vl n t _ ?_
 have hs:=spec_done (os:=os) (k:=k) B ⟨h.1,h.2.1,h.2.2.1⟩ (ev_of h.2.2.2.1 ⟨spec_fr h.2.2.2.2.1 h.2.2.2.2.2.1 h.2.2.2.2.2.2 (hg h₀ B _ _ _),conv_ev B (by exact Nat.le_trans (Nat.add_le_add_right ‹_› _) (by decide)) _ _ hn _,convF_ev B (by exact Nat.le_trans (Nat.add_le_add_right ‹_› _) (by decide)) _ _ hv _,trivial⟩)
 have ea:n+(1+d1+2)=n+1+d1+2:=by exact ox9
 refine hs.post ?_ (by show n+(1+d1+3)=n+1+d1+3;exact ox9) (by show t+(3+e1+9)=t+3+e1+9;exact ox9)
 rw [ea]
 exact (List.perm_middle (l₁:=tabC w x dx th l (ep+1+1) [h0,⟨n+1+d1+2,nm,tn,vl,tv⟩] |>.dropLast)).symm
theorem del30 {k:Nat} (hk:k≤150) (x dx th l ep tn:Nat) {nm:Str} (hn:isName nm) (h0:Hd) (h1:Hd) (h2:Hd) (k0:isName h0.k) (e0:decide (lowS h0.k=lowS nm)=true) (k1:isName h1.k) (e1:decide (lowS h1.k=lowS nm)=false) (k2:isName h2.k) (e2:decide (lowS h2.k=lowS nm)=false) :
  ∃ d e,∀(h₀:Heap) (B:Base w h₀) (n t:Nat) (rest:List (Nat×Obj)),Spec w h₀ os k (.call (.ref 148) ⟨[.ref x,.str nm tn],[]⟩) ⟨tabC w x dx th l ep [h0,h1,h2]++rest,n,t⟩ (.ok (.ret .none)) ⟨tabC w x dx th l (ep+1) [h1,h2]++rest,n+d,t+e⟩:=by
 refine⟨9,17,fun h₀ B n t rest=>?_⟩
 have h:=del_3_0 w n t x dx th l ep tn nm (lowS nm) h0 (lowS h0.k) h1 (lowS h1.k) h2 (lowS h2.k) rest
 refine del_in B (by exact Nat.le_trans ‹_› (by decide)) x tn nm n t _ ?_
 have hs:=spec_done (os:=os) (k:=k) B ⟨h.1,h.2.1,h.2.2.1⟩ (ev_of h.2.2.2.1 ⟨low_ev B _ hn _,conv_ev B (by exact Nat.le_trans (Nat.add_le_add_right ‹_› _) (by decide)) _ _ (isName_low hn) _,low_ev B _ k0 _,ne_ev B _ _ e0 _,low_ev B _ k1 _,ne_ev B _ _ e1 _,low_ev B _ k2 _,ne_ev B _ _ e2 _,spec_fr h.2.2.2.2.1 h.2.2.2.2.2.1 h.2.2.2.2.2.2 (setslP3 B),trivial⟩)
 exact hs.post (rot3 _ _ _ _).symm rfl rfl
theorem set30 {k:Nat} (hk:k≤120) (x dx th l ep tn tv:Nat) {nm vl:Str} (hn:isName nm) (hv:isDots vl) (h0:Hd) (h1:Hd) (h2:Hd) (k0:isName h0.k) (e0:decide (lowS h0.k=lowS nm)=true) (k1:isName h1.k) (e1:decide (lowS h1.k=lowS nm)=false) (k2:isName h2.k) (e2:decide (lowS h2.k=lowS nm)=false) :
  ∃ a d e,∀(h₀:Heap) (B:Base w h₀) (n t:Nat) (rest:List (Nat×Obj)),Spec w h₀ os k (.call (.ref 143) ⟨[.ref x,.str nm tn,.str vl tv],[]⟩) ⟨tabC w x dx th l ep [h0,h1,h2]++rest,n,t⟩ (.ok (.ret .none)) ⟨tabC w x dx th l (ep+1+1) [h1,h2,⟨n+a,nm,tn,vl,tv⟩]++rest,n+d,t+e⟩:=by
 obtain⟨d1,e1,hg⟩:=del30 (w:=w) (os:=os) (k:=k+21) (by exact Nat.le_trans (Nat.add_le_add_right ‹_› _) (by decide)) x dx th l ep tn hn h0 h1 h2 k0 e0 k1 e1 k2 e2
 refine⟨1+d1+2,1+d1+3,3+e1+9,fun h₀ B n t rest=>?_⟩
 have h:=set_3 w n t (n+1+d1) (t+3+e1) x dx th l ep (ep+1) tn tv nm vl h0 h1 h2 h1 h2 rest
 refine set_in B (by exact Nat.le_trans ‹_› (by decide)) x tn tv nm vl n t _ ?_
 have hs:=spec_done (os:=os) (k:=k) B ⟨h.1,h.2.1,h.2.2.1⟩ (ev_of h.2.2.2.1 ⟨spec_fr h.2.2.2.2.1 h.2.2.2.2.2.1 h.2.2.2.2.2.2 (hg h₀ B _ _ _),conv_ev B (by exact Nat.le_trans (Nat.add_le_add_right ‹_› _) (by decide)) _ _ hn _,convF_ev B (by exact Nat.le_trans (Nat.add_le_add_right ‹_› _) (by decide)) _ _ hv _,trivial⟩)
 have ea:n+(1+d1+2)=n+1+d1+2:=by exact ox9
 refine hs.post ?_ (by show n+(1+d1+3)=n+1+d1+3;exact ox9) (by show t+(3+e1+9)=t+3+e1+9;exact ox9)
 rw [ea]
 exact (List.perm_middle (l₁:=tabC w x dx th l (ep+1+1) [h1,h2,⟨n+1+d1+2,nm,tn,vl,tv⟩] |>.dropLast)).symm
theorem del31 {k:Nat} (hk:k≤150) (x dx th l ep tn:Nat) {nm:Str} (hn:isName nm) (h0:Hd) (h1:Hd) (h2:Hd) (k0:isName h0.k) (e0:decide (lowS h0.k=lowS nm)=false) (k1:isName h1.k) (e1:decide (lowS h1.k=lowS nm)=true) (k2:isName h2.k) (e2:decide (lowS h2.k=lowS nm)=false) :
  ∃ d e,∀(h₀:Heap) (B:Base w h₀) (n t:Nat) (rest:List (Nat×Obj)),Spec w h₀ os k (.call (.ref 148) ⟨[.ref x,.str nm tn],[]⟩) ⟨tabC w x dx th l ep [h0,h1,h2]++rest,n,t⟩ (.ok (.ret .none)) ⟨tabC w x dx th l (ep+1) [h0,h2]++rest,n+d,t+e⟩:=by
 refine⟨9,17,fun h₀ B n t rest=>?_⟩
 have h:=del_3_1 w n t x dx th l ep tn nm (lowS nm) h0 (lowS h0.k) h1 (lowS h1.k) h2 (lowS h2.k) rest
 refine del_in B (by exact Nat.le_trans ‹_› (by decide)) x tn nm n t _ ?_
 have hs:=spec_done (os:=os) (k:=k) B ⟨h.1,h.2.1,h.2.2.1⟩ (ev_of h.2.2.2.1 ⟨low_ev B _ hn _,conv_ev B (by exact Nat.le_trans (Nat.add_le_add_right ‹_› _) (by decide)) _ _ (isName_low hn) _,low_ev B _ k0 _,ne_ev B _ _ e0 _,low_ev B _ k1 _,ne_ev B _ _ e1 _,low_ev B _ k2 _,ne_ev B _ _ e2 _,spec_fr h.2.2.2.2.1 h.2.2.2.2.2.1 h.2.2.2.2.2.2 (setslP3 B),trivial⟩)
 exact hs.post (rot3 _ _ _ _).symm rfl rfl
theorem set31 {k:Nat} (hk:k≤120) (x dx th l ep tn tv:Nat) {nm vl:Str} (hn:isName nm) (hv:isDots vl) (h0:Hd) (h1:Hd) (h2:Hd) (k0:isName h0.k) (e0:decide (lowS h0.k=lowS nm)=false) (k1:isName h1.k) (e1:decide (lowS h1.k=lowS nm)=true) (k2:isName h2.k) (e2:decide (lowS h2.k=lowS nm)=false) :
  ∃ a d e,∀(h₀:Heap) (B:Base w h₀) (n t:Nat) (rest:List (Nat×Obj)),Spec w h₀ os k (.call (.ref 143) ⟨[.ref x,.str nm tn,.str vl tv],[]⟩) ⟨tabC w x dx th l ep [h0,h1,h2]++rest,n,t⟩ (.ok (.ret .none)) ⟨tabC w x dx th l (ep+1+1) [h0,h2,⟨n+a,nm,tn,vl,tv⟩]++rest,n+d,t+e⟩:=by
 obtain⟨d1,e1,hg⟩:=del31 (w:=w) (os:=os) (k:=k+21) (by exact Nat.le_trans (Nat.add_le_add_right ‹_› _) (by decide)) x dx th l ep tn hn h0 h1 h2 k0 e0 k1 e1 k2 e2
 refine⟨1+d1+2,1+d1+3,3+e1+9,fun h₀ B n t rest=>?_⟩
 have h:=set_3 w n t (n+1+d1) (t+3+e1) x dx th l ep (ep+1) tn tv nm vl h0 h1 h2 h0 h2 rest
 refine set_in B (by exact Nat.le_trans ‹_› (by decide)) x tn tv nm vl n t _ ?_
 have hs:=spec_done (os:=os) (k:=k) B ⟨h.1,h.2.1,h.2.2.1⟩ (ev_of h.2.2.2.1 ⟨spec_fr h.2.2.2.2.1 h.2.2.2.2.2.1 h.2.2.2.2.2.2 (hg h₀ B _ _ _),conv_ev B (by exact Nat.le_trans (Nat.add_le_add_right ‹_› _) (by decide)) _ _ hn _,convF_ev B (by exact Nat.le_trans (Nat.add_le_add_right ‹_› _) (by decide)) _ _ hv _,trivial⟩)
 have ea:n+(1+d1+2)=n+1+d1+2:=by exact ox9
 refine hs.post ?_ (by show n+(1+d1+3)=n+1+d1+3;exact ox9) (by show t+(3+e1+9)=t+3+e1+9;exact ox9)
 rw [ea]
 exact (List.perm_middle (l₁:=tabC w x dx th l (ep+1+1) [h0,h2,⟨n+1+d1+2,nm,tn,vl,tv⟩] |>.dropLast)).symm
theorem del32 {k:Nat} (hk:k≤150) (x dx th l ep tn:Nat) {nm:Str} (hn:isName nm) (h0:Hd) (h1:Hd) (h2:Hd) (k0:isName h0.k) (e0:decide (lowS h0.k=lowS nm)=false) (k1:isName h1.k) (e1:decide (lowS h1.k=lowS nm)=false) (k2:isName h2.k) (e2:decide (lowS h2.k=lowS nm)=true) :
  ∃ d e,∀(h₀:Heap) (B:Base w h₀) (n t:Nat) (rest:List (Nat×Obj)),Spec w h₀ os k (.call (.ref 148) ⟨[.ref x,.str nm tn],[]⟩) ⟨tabC w x dx th l ep [h0,h1,h2]++rest,n,t⟩ (.ok (.ret .none)) ⟨tabC w x dx th l (ep+1) [h0,h1]++rest,n+d,t+e⟩:=by
 refine⟨9,17,fun h₀ B n t rest=>?_⟩
 have h:=del_3_2 w n t x dx th l ep tn nm (lowS nm) h0 (lowS h0.k) h1 (lowS h1.k) h2 (lowS h2.k) rest
 refine del_in B (by exact Nat.le_trans ‹_› (by decide)) x tn nm n t _ ?_
 have hs:=spec_done (os:=os) (k:=k) B ⟨h.1,h.2.1,h.2.2.1⟩ (ev_of h.2.2.2.1 ⟨low_ev B _ hn _,conv_ev B (by exact Nat.le_trans (Nat.add_le_add_right ‹_› _) (by decide)) _ _ (isName_low hn) _,low_ev B _ k0 _,ne_ev B _ _ e0 _,low_ev B _ k1 _,ne_ev B _ _ e1 _,low_ev B _ k2 _,ne_ev B _ _ e2 _,spec_fr h.2.2.2.2.1 h.2.2.2.2.2.1 h.2.2.2.2.2.2 (setslP3 B),trivial⟩)
 exact hs.post (rot3 _ _ _ _).symm rfl rfl
theorem set32 {k:Nat} (hk:k≤120) (x dx th l ep tn tv:Nat) {nm vl:Str} (hn:isName nm) (hv:isDots vl) (h0:Hd) (h1:Hd) (h2:Hd) (k0:isName h0.k) (e0:decide (lowS h0.k=lowS nm)=false) (k1:isName h1.k) (e1:decide (lowS h1.k=lowS nm)=false) (k2:isName h2.k) (e2:decide (lowS h2.k=lowS nm)=true) :
  ∃ a d e,∀(h₀:Heap) (B:Base w h₀) (n t:Nat) (rest:List (Nat×Obj)),Spec w h₀ os k (.call (.ref 143) ⟨[.ref x,.str nm tn,.str vl tv],[]⟩) ⟨tabC w x dx th l ep [h0,h1,h2]++rest,n,t⟩ (.ok (.ret .none)) ⟨tabC w x dx th l (ep+1+1) [h0,h1,⟨n+a,nm,tn,vl,tv⟩]++rest,n+d,t+e⟩:=by
 obtain⟨d1,e1,hg⟩:=del32 (w:=w) (os:=os) (k:=k+21) (by exact Nat.le_trans (Nat.add_le_add_right ‹_› _) (by decide)) x dx th l ep tn hn h0 h1 h2 k0 e0 k1 e1 k2 e2
 refine⟨1+d1+2,1+d1+3,3+e1+9,fun h₀ B n t rest=>?_⟩
 have h:=set_3 w n t (n+1+d1) (t+3+e1) x dx th l ep (ep+1) tn tv nm vl h0 h1 h2 h0 h1 rest
 refine set_in B (by exact Nat.le_trans ‹_› (by decide)) x tn tv nm vl n t _ ?_
 have hs:=spec_done (os:=os) (k:=k) B ⟨h.1,h.2.1,h.2.2.1⟩ (ev_of h.2.2.2.1 ⟨spec_fr h.2.2.2.2.1 h.2.2.2.2.2.1 h.2.2.2.2.2.2 (hg h₀ B _ _ _),conv_ev B (by exact Nat.le_trans (Nat.add_le_add_right ‹_› _) (by decide)) _ _ hn _,convF_ev B (by exact Nat.le_trans (Nat.add_le_add_right ‹_› _) (by decide)) _ _ hv _,trivial⟩)
 have ea:n+(1+d1+2)=n+1+d1+2:=by exact ox9
 refine hs.post ?_ (by show n+(1+d1+3)=n+1+d1+3;exact ox9) (by show t+(3+e1+9)=t+3+e1+9;exact ox9)
 rw [ea]
 exact (List.perm_middle (l₁:=tabC w x dx th l (ep+1+1) [h0,h1,⟨n+1+d1+2,nm,tn,vl,tv⟩] |>.dropLast)).symm
theorem del40 {k:Nat} (hk:k≤150) (x dx th l ep tn:Nat) {nm:Str} (hn:isName nm) (h0:Hd) (h1:Hd) (h2:Hd) (h3:Hd) (k0:isName h0.k) (e0:decide (lowS h0.k=lowS nm)=true) (k1:isName h1.k) (e1:decide (lowS h1.k=lowS nm)=false) (k2:isName h2.k) (e2:decide (lowS h2.k=lowS nm)=false) (k3:isName h3.k) (e3:decide (lowS h3.k=lowS nm)=false) :
  ∃ d e,∀(h₀:Heap) (B:Base w h₀) (n t:Nat) (rest:List (Nat×Obj)),Spec w h₀ os k (.call (.ref 148) ⟨[.ref x,.str nm tn],[]⟩) ⟨tabC w x dx th l ep [h0,h1,h2,h3]++rest,n,t⟩ (.ok (.ret .none)) ⟨tabC w x dx th l (ep+1) [h1,h2,h3]++rest,n+d,t+e⟩:=by
 refine⟨9,20,fun h₀ B n t rest=>?_⟩
 have h:=del_4_0 w n t x dx th l ep tn nm (lowS nm) h0 (lowS h0.k) h1 (lowS h1.k) h2 (lowS h2.k) h3 (lowS h3.k) rest
 refine del_in B (by exact Nat.le_trans ‹_› (by decide)) x tn nm n t _ ?_
 have hs:=spec_done (os:=os) (k:=k) B ⟨h.1,h.2.1,h.2.2.1⟩ (ev_of h.2.2.2.1 ⟨low_ev B _ hn _,conv_ev B (by exact Nat.le_trans (Nat.add_le_add_right ‹_› _) (by decide)) _ _ (isName_low hn) _,low_ev B _ k0 _,ne_ev B _ _ e0 _,low_ev B _ k1 _,ne_ev B _ _ e1 _,low_ev B _ k2 _,ne_ev B _ _ e2 _,low_ev B _ k3 _,ne_ev B _ _ e3 _,spec_fr h.2.2.2.2.1 h.2.2.2.2.2.1 h.2.2.2.2.2.2 (setslP4 B),trivial⟩)
 exact hs.post (rot3 _ _ _ _).symm rfl rfl
theorem set40 {k:Nat} (hk:k≤120) (x dx th l ep tn tv:Nat) {nm vl:Str} (hn:isName nm) (hv:isDots vl) (h0:Hd) (h1:Hd) (h2:Hd) (h3:Hd) (k0:isName h0.k) (e0:decide (lowS h0.k=lowS nm)=true) (k1:isName h1.k) (e1:decide (lowS h1.k=lowS nm)=false) (k2:isName h2.k) (e2:decide (lowS h2.k=lowS nm)=false) (k3:isName h3.k) (e3:decide (lowS h3.k=lowS nm)=false) :
  ∃ a d e,∀(h₀:Heap) (B:Base w h₀) (n t:Nat) (rest:List (Nat×Obj)),Spec w h₀ os k (.call (.ref 143) ⟨[.ref x,.str nm tn,.str vl tv],[]⟩) ⟨tabC w x dx th l ep [h0,h1,h2,h3]++rest,n,t⟩ (.ok (.ret .none)) ⟨tabC w x dx th l (ep+1+1) [h1,h2,h3,⟨n+a,nm,tn,vl,tv⟩]++rest,n+d,t+e⟩:=by
 obtain⟨d1,e1,hg⟩:=del40 (w:=w) (os:=os) (k:=k+21) (by exact Nat.le_trans (Nat.add_le_add_right ‹_› _) (by decide)) x dx th l ep tn hn h0 h1 h2 h3 k0 e0 k1 e1 k2 e2 k3 e3
 refine⟨1+d1+2,1+d1+3,3+e1+9,fun h₀ B n t rest=>?_⟩
 have h:=set_4 w n t (n+1+d1) (t+3+e1) x dx th l ep (ep+1) tn tv nm vl h0 h1 h2 h3 h1 h2 h3 rest
 refine set_in B (by exact Nat.le_trans ‹_› (by decide)) x tn tv nm vl n t _ ?_
 have hs:=spec_done (os:=os) (k:=k) B ⟨h.1,h.2.1,h.2.2.1⟩ (ev_of h.2.2.2.1 ⟨spec_fr h.2.2.2.2.1 h.2.2.2.2.2.1 h.2.2.2.2.2.2 (hg h₀ B _ _ _),conv_ev B (by exact Nat.le_trans (Nat.add_le_add_right ‹_› _) (by decide)) _ _ hn _,convF_ev B (by exact Nat.le_trans (Nat.add_le_add_right ‹_› _) (by decide)) _ _ hv _,trivial⟩)
 have ea:n+(1+d1+2)=n+1+d1+2:=by exact ox9
 refine hs.post ?_ (by show n+(1+d1+3)=n+1+d1+3;exact ox9) (by show t+(3+e1+9)=t+3+e1+9;exact ox9)
 rw [ea]
 exact (List.perm_middle (l₁:=tabC w x dx th l (ep+1+1) [h1,h2,h3,⟨n+1+d1+2,nm,tn,vl,tv⟩] |>.dropLast)).symm
theorem del41 {k:Nat} (hk:k≤150) (x dx th l ep tn:Nat) {nm:Str} (hn:isName nm) (h0:Hd) (h1:Hd) (h2:Hd) (h3:Hd) (k0:isName h0.k) (e0:decide (lowS h0.k=lowS nm)=false) (k1:isName h1.k) (e1:decide (lowS h1.k=lowS nm)=true) (k2:isName h2.k) (e2:decide (lowS h2.k=lowS nm)=false) (k3:isName h3.k) (e3:decide (lowS h3.k=lowS nm)=false) :
  ∃ d e,∀(h₀:Heap) (B:Base w h₀) (n t:Nat) (rest:List (Nat×Obj)),Spec w h₀ os k (.call (.ref 148) ⟨[.ref x,.str nm tn],[]⟩) ⟨tabC w x dx th l ep [h0,h1,h2,h3]++rest,n,t⟩ (.ok (.ret .none)) ⟨tabC w x dx th l (ep+1) [h0,h2,h3]++rest,n+d,t+e⟩:=by
 refine⟨9,20,fun h₀ B n t rest=>?_⟩
 have h:=del_4_1 w n t x dx th l ep tn nm (lowS nm) h0 (lowS h0.k) h1 (lowS h1.k) h2 (lowS h2.k) h3 (lowS h3.k) rest
 refine del_in B (by exact Nat.le_trans ‹_› (by decide)) x tn nm n t _ ?_
 have hs:=spec_done (os:=os) (k:=k) B ⟨h.1,h.2.1,h.2.2.1⟩ (ev_of h.2.2.2.1 ⟨low_ev B _ hn _,conv_ev B (by exact Nat.le_trans (Nat.add_le_add_right ‹_› _) (by decide)) _ _ (isName_low hn) _,low_ev B _ k0 _,ne_ev B _ _ e0 _,low_ev B _ k1 _,ne_ev B _ _ e1 _,low_ev B _ k2 _,ne_ev B _ _ e2 _,low_ev B _ k3 _,ne_ev B _ _ e3 _,spec_fr h.2.2.2.2.1 h.2.2.2.2.2.1 h.2.2.2.2.2.2 (setslP4 B),trivial⟩)
 exact hs.post (rot3 _ _ _ _).symm rfl rfl
theorem set41 {k:Nat} (hk:k≤120) (x dx th l ep tn tv:Nat) {nm vl:Str} (hn:isName nm) (hv:isDots vl) (h0:Hd) (h1:Hd) (h2:Hd) (h3:Hd) (k0:isName h0.k) (e0:decide (lowS h0.k=lowS nm)=false) (k1:isName h1.k) (e1:decide (lowS h1.k=lowS nm)=true) (k2:isName h2.k) (e2:decide (lowS h2.k=lowS nm)=false) (k3:isName h3.k) (e3:decide (lowS h3.k=lowS nm)=false) :
  ∃ a d e,∀(h₀:Heap) (B:Base w h₀) (n t:Nat) (rest:List (Nat×Obj)),Spec w h₀ os k (.call (.ref 143) ⟨[.ref x,.str nm tn,.str vl tv],[]⟩) ⟨tabC w x dx th l ep [h0,h1,h2,h3]++rest,n,t⟩ (.ok (.ret .none)) ⟨tabC w x dx th l (ep+1+1) [h0,h2,h3,⟨n+a,nm,tn,vl,tv⟩]++rest,n+d,t+e⟩:=by
 obtain⟨d1,e1,hg⟩:=del41 (w:=w) (os:=os) (k:=k+21) (by exact Nat.le_trans (Nat.add_le_add_right ‹_› _) (by decide)) x dx th l ep tn hn h0 h1 h2 h3 k0 e0 k1 e1 k2 e2 k3 e3
 refine⟨1+d1+2,1+d1+3,3+e1+9,fun h₀ B n t rest=>?_⟩
 have h:=set_4 w n t (n+1+d1) (t+3+e1) x dx th l ep (ep+1) tn tv nm vl h0 h1 h2 h3 h0 h2 h3 rest
 refine set_in B (by exact Nat.le_trans ‹_› (by decide)) x tn tv nm vl n t _ ?_
 have hs:=spec_done (os:=os) (k:=k) B ⟨h.1,h.2.1,h.2.2.1⟩ (ev_of h.2.2.2.1 ⟨spec_fr h.2.2.2.2.1 h.2.2.2.2.2.1 h.2.2.2.2.2.2 (hg h₀ B _ _ _),conv_ev B (by exact Nat.le_trans (Nat.add_le_add_right ‹_› _) (by decide)) _ _ hn _,convF_ev B (by exact Nat.le_trans (Nat.add_le_add_right ‹_› _) (by decide)) _ _ hv _,trivial⟩)
 have ea:n+(1+d1+2)=n+1+d1+2:=by exact ox9
 refine hs.post ?_ (by show n+(1+d1+3)=n+1+d1+3;exact ox9) (by show t+(3+e1+9)=t+3+e1+9;exact ox9)
 rw [ea]
 exact (List.perm_middle (l₁:=tabC w x dx th l (ep+1+1) [h0,h2,h3,⟨n+1+d1+2,nm,tn,vl,tv⟩] |>.dropLast)).symm
theorem del42 {k:Nat} (hk:k≤150) (x dx th l ep tn:Nat) {nm:Str} (hn:isName nm) (h0:Hd) (h1:Hd) (h2:Hd) (h3:Hd) (k0:isName h0.k) (e0:decide (lowS h0.k=lowS nm)=false) (k1:isName h1.k) (e1:decide (lowS h1.k=lowS nm)=false) (k2:isName h2.k) (e2:decide (lowS h2.k=lowS nm)=true) (k3:isName h3.k) (e3:decide (lowS h3.k=lowS nm)=false) :
  ∃ d e,∀(h₀:Heap) (B:Base w h₀) (n t:Nat) (rest:List (Nat×Obj)),Spec w h₀ os k (.call (.ref 148) ⟨[.ref x,.str nm tn],[]⟩) ⟨tabC w x dx th l ep [h0,h1,h2,h3]++rest,n,t⟩ (.ok (.ret .none)) ⟨tabC w x dx th l (ep+1) [h0,h1,h3]++rest,n+d,t+e⟩:=by
 refine⟨9,20,fun h₀ B n t rest=>?_⟩
 have h:=del_4_2 w n t x dx th l ep tn nm (lowS nm) h0 (lowS h0.k) h1 (lowS h1.k) h2 (lowS h2.k) h3 (lowS h3.k) rest
 refine del_in B (by exact Nat.le_trans ‹_› (by decide)) x tn nm n t _ ?_
 have hs:=spec_done (os:=os) (k:=k) B ⟨h.1,h.2.1,h.2.2.1⟩ (ev_of h.2.2.2.1 ⟨low_ev B _ hn _,conv_ev B (by exact Nat.le_trans (Nat.add_le_add_right ‹_› _) (by decide)) _ _ (isName_low hn) _,low_ev B _ k0 _,ne_ev B _ _ e0 _,low_ev B _ k1 _,ne_ev B _ _ e1 _,low_ev B _ k2 _,ne_ev B _ _ e2 _,low_ev B _ k3 _,ne_ev B _ _ e3 _,spec_fr h.2.2.2.2.1 h.2.2.2.2.2.1 h.2.2.2.2.2.2 (setslP4 B),trivial⟩)
 exact hs.post (rot3 _ _ _ _).symm rfl rfl
theorem set42 {k:Nat} (hk:k≤120) (x dx th l ep tn tv:Nat) {nm vl:Str} (hn:isName nm) (hv:isDots vl) (h0:Hd) (h1:Hd) (h2:Hd) (h3:Hd) (k0:isName h0.k) (e0:decide (lowS h0.k=lowS nm)=false) (k1:isName h1.k) (e1:decide (lowS h1.k=lowS nm)=false) (k2:isName h2.k) (e2:decide (lowS h2.k=lowS nm)=true) (k3:isName h3.k) (e3:decide (lowS h3.k=lowS nm)=false) :
  ∃ a d e,∀(h₀:Heap) (B:Base w h₀) (n t:Nat) (rest:List (Nat×Obj)),Spec w h₀ os k (.call (.ref 143) ⟨[.ref x,.str nm tn,.str vl tv],[]⟩) ⟨tabC w x dx th l ep [h0,h1,h2,h3]++rest,n,t⟩ (.ok (.ret .none)) ⟨tabC w x dx th l (ep+1+1) [h0,h1,h3,⟨n+a,nm,tn,vl,tv⟩]++rest,n+d,t+e⟩:=by
 obtain⟨d1,e1,hg⟩:=del42 (w:=w) (os:=os) (k:=k+21) (by exact Nat.le_trans (Nat.add_le_add_right ‹_› _) (by decide)) x dx th l ep tn hn h0 h1 h2 h3 k0 e0 k1 e1 k2 e2 k3 e3
 refine⟨1+d1+2,1+d1+3,3+e1+9,fun h₀ B n t rest=>?_⟩
 have h:=set_4 w n t (n+1+d1) (t+3+e1) x dx th l ep (ep+1) tn tv nm vl h0 h1 h2 h3 h0 h1 h3 rest
 refine set_in B (by exact Nat.le_trans ‹_› (by decide)) x tn tv nm vl n t _ ?_
 have hs:=spec_done (os:=os) (k:=k) B ⟨h.1,h.2.1,h.2.2.1⟩ (ev_of h.2.2.2.1 ⟨spec_fr h.2.2.2.2.1 h.2.2.2.2.2.1 h.2.2.2.2.2.2 (hg h₀ B _ _ _),conv_ev B (by exact Nat.le_trans (Nat.add_le_add_right ‹_› _) (by decide)) _ _ hn _,convF_ev B (by exact Nat.le_trans (Nat.add_le_add_right ‹_› _) (by decide)) _ _ hv _,trivial⟩)
 have ea:n+(1+d1+2)=n+1+d1+2:=by exact ox9
 refine hs.post ?_ (by show n+(1+d1+3)=n+1+d1+3;exact ox9) (by show t+(3+e1+9)=t+3+e1+9;exact ox9)
 rw [ea]
 exact (List.perm_middle (l₁:=tabC w x dx th l (ep+1+1) [h0,h1,h3,⟨n+1+d1+2,nm,tn,vl,tv⟩] |>.dropLast)).symm
theorem del43 {k:Nat} (hk:k≤150) (x dx th l ep tn:Nat) {nm:Str} (hn:isName nm) (h0:Hd) (h1:Hd) (h2:Hd) (h3:Hd) (k0:isName h0.k) (e0:decide (lowS h0.k=lowS nm)=false) (k1:isName h1.k) (e1:decide (lowS h1.k=lowS nm)=false) (k2:isName h2.k) (e2:decide (lowS h2.k=lowS nm)=false) (k3:isName h3.k) (e3:decide (lowS h3.k=lowS nm)=true) :
  ∃ d e,∀(h₀:Heap) (B:Base w h₀) (n t:Nat) (rest:List (Nat×Obj)),Spec w h₀ os k (.call (.ref 148) ⟨[.ref x,.str nm tn],[]⟩) ⟨tabC w x dx th l ep [h0,h1,h2,h3]++rest,n,t⟩ (.ok (.ret .none)) ⟨tabC w x dx th l (ep+1) [h0,h1,h2]++rest,n+d,t+e⟩:=by
 refine⟨9,20,fun h₀ B n t rest=>?_⟩
 have h:=del_4_3 w n t x dx th l ep tn nm (lowS nm) h0 (lowS h0.k) h1 (lowS h1.k) h2 (lowS h2.k) h3 (lowS h3.k) rest
 refine del_in B (by exact Nat.le_trans ‹_› (by decide)) x tn nm n t _ ?_
 have hs:=spec_done (os:=os) (k:=k) B ⟨h.1,h.2.1,h.2.2.1⟩ (ev_of h.2.2.2.1 ⟨low_ev B _ hn _,conv_ev B (by exact Nat.le_trans (Nat.add_le_add_right ‹_› _) (by decide)) _ _ (isName_low hn) _,low_ev B _ k0 _,ne_ev B _ _ e0 _,low_ev B _ k1 _,ne_ev B _ _ e1 _,low_ev B _ k2 _,ne_ev B _ _ e2 _,low_ev B _ k3 _,ne_ev B _ _ e3 _,spec_fr h.2.2.2.2.1 h.2.2.2.2.2.1 h.2.2.2.2.2.2 (setslP4 B),trivial⟩)
 exact hs.post (rot3 _ _ _ _).symm rfl rfl
theorem set43 {k:Nat} (hk:k≤120) (x dx th l ep tn tv:Nat) {nm vl:Str} (hn:isName nm) (hv:isDots vl) (h0:Hd) (h1:Hd) (h2:Hd) (h3:Hd) (k0:isName h0.k) (e0:decide (lowS h0.k=lowS nm)=false) (k1:isName h1.k) (e1:decide (lowS h1.k=lowS nm)=false) (k2:isName h2.k) (e2:decide (lowS h2.k=lowS nm)=false) (k3:isName h3.k) (e3:decide (lowS h3.k=lowS nm)=true) :
  ∃ a d e,∀(h₀:Heap) (B:Base w h₀) (n t:Nat) (rest:List (Nat×Obj)),Spec w h₀ os k (.call (.ref 143) ⟨[.ref x,.str nm tn,.str vl tv],[]⟩) ⟨tabC w x dx th l ep [h0,h1,h2,h3]++rest,n,t⟩ (.ok (.ret .none)) ⟨tabC w x dx th l (ep+1+1) [h0,h1,h2,⟨n+a,nm,tn,vl,tv⟩]++rest,n+d,t+e⟩:=by
 obtain⟨d1,e1,hg⟩:=del43 (w:=w) (os:=os) (k:=k+21) (by exact Nat.le_trans (Nat.add_le_add_right ‹_› _) (by decide)) x dx th l ep tn hn h0 h1 h2 h3 k0 e0 k1 e1 k2 e2 k3 e3
 refine⟨1+d1+2,1+d1+3,3+e1+9,fun h₀ B n t rest=>?_⟩
 have h:=set_4 w n t (n+1+d1) (t+3+e1) x dx th l ep (ep+1) tn tv nm vl h0 h1 h2 h3 h0 h1 h2 rest
 refine set_in B (by exact Nat.le_trans ‹_› (by decide)) x tn tv nm vl n t _ ?_
 have hs:=spec_done (os:=os) (k:=k) B ⟨h.1,h.2.1,h.2.2.1⟩ (ev_of h.2.2.2.1 ⟨spec_fr h.2.2.2.2.1 h.2.2.2.2.2.1 h.2.2.2.2.2.2 (hg h₀ B _ _ _),conv_ev B (by exact Nat.le_trans (Nat.add_le_add_right ‹_› _) (by decide)) _ _ hn _,convF_ev B (by exact Nat.le_trans (Nat.add_le_add_right ‹_› _) (by decide)) _ _ hv _,trivial⟩)
 have ea:n+(1+d1+2)=n+1+d1+2:=by exact ox9
 refine hs.post ?_ (by show n+(1+d1+3)=n+1+d1+3;exact ox9) (by show t+(3+e1+9)=t+3+e1+9;exact ox9)
 rw [ea]
 exact (List.perm_middle (l₁:=tabC w x dx th l (ep+1+1) [h0,h1,h2,⟨n+1+d1+2,nm,tn,vl,tv⟩] |>.dropLast)).symm
end
section
variable {w:World} {h₀:Heap} {os:OsState}
theorem getL {k:Nat} (hk:k≤170) (x dx th l ep tn:Nat) {nm:Str} (hn:isName nm):∀(l1 l2:List Hd) (h:Hd),2≤l1.length+l2.length+1→l1.length+l2.length+1≤4→(∀ g∈l1++h::l2,isName g.k)→(∀ g∈l1++l2,decide (lowS g.k=lowS nm)=false)→decide (lowS h.k=lowS nm)=true →
  ∃ d e,∀(h₀:Heap) (B:Base w h₀) (n t:Nat) (rest:List (Nat×Obj)),Spec w h₀ os k (.call (.ref 177) ⟨[.ref x,.str nm tn],[]⟩) ⟨tabC w x dx th l ep (l1++h::l2)++rest,n,t⟩ (.ok (.ret (.str h.v h.z))) ⟨tabC w x dx th l ep (l1++h::l2)++rest,n+d,t+e⟩
 | [],[a1],h,_,_,hN,hF,hT=>get20 hk x dx th l ep tn hn h a1 (hN _ (by simp)) hT
 | [a0],[],h,_,_,hN,hF,hT=>get21 hk x dx th l ep tn hn a0 h (hN _ (by simp)) (hF _ (by simp)) (hN _ (by simp)) hT
 | [],[a1,a2],h,_,_,hN,hF,hT=>get30 hk x dx th l ep tn hn h a1 a2 (hN _ (by simp)) hT
 | [a0],[a2],h,_,_,hN,hF,hT=>get31 hk x dx th l ep tn hn a0 h a2 (hN _ (by simp)) (hF _ (by simp)) (hN _ (by simp)) hT
 | [a0,a1],[],h,_,_,hN,hF,hT=>get32 hk x dx th l ep tn hn a0 a1 h (hN _ (by simp)) (hF _ (by simp)) (hN _ (by simp)) (hF _ (by simp)) (hN _ (by simp)) hT
 | [],[a1,a2,a3],h,_,_,hN,hF,hT=>get40 hk x dx th l ep tn hn h a1 a2 a3 (hN _ (by simp)) hT
 | [a0],[a2,a3],h,_,_,hN,hF,hT=>get41 hk x dx th l ep tn hn a0 h a2 a3 (hN _ (by simp)) (hF _ (by simp)) (hN _ (by simp)) hT
 | [a0,a1],[a3],h,_,_,hN,hF,hT=>get42 hk x dx th l ep tn hn a0 a1 h a3 (hN _ (by simp)) (hF _ (by simp)) (hN _ (by simp)) (hF _ (by simp)) (hN _ (by simp)) hT
 | [a0,a1,a2],[],h,_,_,hN,hF,hT=>get43 hk x dx th l ep tn hn a0 a1 a2 h (hN _ (by simp)) (hF _ (by simp)) (hN _ (by simp)) (hF _ (by simp)) (hN _ (by simp)) (hF _ (by simp)) (hN _ (by simp)) hT
 | [],[],_,q,_,_,_,_=>absurd q (by decide)
 | [],_::_::_::_::_,_,_,q,_,_,_=>absurd q (by simp only [List.length_cons];omega)
 | _::_,_::_::_::_,_,_,q,_,_,_=>absurd q (by simp only [List.length_cons];omega)
 | _::_::_,_::_::_,_,_,q,_,_,_=>absurd q (by simp only [List.length_cons];omega)
 | _::_::_::_,_::_,_,_,q,_,_,_=>absurd q (by simp only [List.length_cons];omega)
 | _::_::_::_::_,_,_,_,q,_,_,_=>absurd q (by simp only [List.length_cons];omega)
theorem setL {k:Nat} (hk:k≤120) (x dx th l ep tn tv:Nat) {nm vl:Str} (hn:isName nm) (hv:isDots vl):∀(l1 l2:List Hd) (h:Hd),2≤l1.length+l2.length+1→l1.length+l2.length+1≤4→(∀ g∈l1++h::l2,isName g.k)→(∀ g∈l1++l2,decide (lowS g.k=lowS nm)=false)→decide (lowS h.k=lowS nm)=true →
  ∃ a d e,∀(h₀:Heap) (B:Base w h₀) (n t:Nat) (rest:List (Nat×Obj)),Spec w h₀ os k (.call (.ref 143) ⟨[.ref x,.str nm tn,.str vl tv],[]⟩) ⟨tabC w x dx th l ep (l1++h::l2)++rest,n,t⟩ (.ok (.ret .none)) ⟨tabC w x dx th l (ep+1+1) (l1++l2++[⟨n+a,nm,tn,vl,tv⟩])++rest,n+d,t+e⟩
 | [],[a1],h,_,_,hN,hF,hT=>set20 hk x dx th l ep tn tv hn hv h a1 (hN _ (by simp)) hT (hN _ (by simp)) (hF _ (by simp))
 | [a0],[],h,_,_,hN,hF,hT=>set21 hk x dx th l ep tn tv hn hv a0 h (hN _ (by simp)) (hF _ (by simp)) (hN _ (by simp)) hT
 | [],[a1,a2],h,_,_,hN,hF,hT=>set30 hk x dx th l ep tn tv hn hv h a1 a2 (hN _ (by simp)) hT (hN _ (by simp)) (hF _ (by simp)) (hN _ (by simp)) (hF _ (by simp))
 | [a0],[a2],h,_,_,hN,hF,hT=>set31 hk x dx th l ep tn tv hn hv a0 h a2 (hN _ (by simp)) (hF _ (by simp)) (hN _ (by simp)) hT (hN _ (by simp)) (hF _ (by simp))
 | [a0,a1],[],h,_,_,hN,hF,hT=>set32 hk x dx th l ep tn tv hn hv a0 a1 h (hN _ (by simp)) (hF _ (by simp)) (hN _ (by simp)) (hF _ (by simp)) (hN _ (by simp)) hT
 | [],[a1,a2,a3],h,_,_,hN,hF,hT=>set40 hk x dx th l ep tn tv hn hv h a1 a2 a3 (hN _ (by simp)) hT (hN _ (by simp)) (hF _ (by simp)) (hN _ (by simp)) (hF _ (by simp)) (hN _ (by simp)) (hF _ (by simp))
 | [a0],[a2,a3],h,_,_,hN,hF,hT=>set41 hk x dx th l ep tn tv hn hv a0 h a2 a3 (hN _ (by simp)) (hF _ (by simp)) (hN _ (by simp)) hT (hN _ (by simp)) (hF _ (by simp)) (hN _ (by simp)) (hF _ (by simp))
 | [a0,a1],[a3],h,_,_,hN,hF,hT=>set42 hk x dx th l ep tn tv hn hv a0 a1 h a3 (hN _ (by simp)) (hF _ (by simp)) (hN _ (by simp)) (hF _ (by simp)) (hN _ (by simp)) hT (hN _ (by simp)) (hF _ (by simp))
 | [a0,a1,a2],[],h,_,_,hN,hF,hT=>set43 hk x dx th l ep tn tv hn hv a0 a1 a2 h (hN _ (by simp)) (hF _ (by simp)) (hN _ (by simp)) (hF _ (by simp)) (hN _ (by simp)) (hF _ (by simp)) (hN _ (by simp)) hT
 | [],[],_,q,_,_,_,_=>absurd q (by decide)
 | [],_::_::_::_::_,_,_,q,_,_,_=>absurd q (by simp only [List.length_cons];omega)
 | _::_,_::_::_::_,_,_,q,_,_,_=>absurd q (by simp only [List.length_cons];omega)
 | _::_::_,_::_::_,_,_,q,_,_,_=>absurd q (by simp only [List.length_cons];omega)
 | _::_::_::_,_::_,_,_,q,_,_,_=>absurd q (by simp only [List.length_cons];omega)
 | _::_::_::_::_,_,_,_,q,_,_,_=>absurd q (by simp only [List.length_cons];omega)
theorem sdfL {k:Nat} (hk:k≤140) (x dx th l ep tn tv:Nat) {nm vl:Str} (hn:isName nm) (hv:isDots vl):∀(hs:List Hd),hs.length≤3→(∀ g∈hs,isName g.k)→(∀ g∈hs,decide (lowS g.k=lowS nm)=false) →
  ∃ a d e,∀(h₀:Heap) (B:Base w h₀) (n t:Nat) (rest:List (Nat×Obj)),Spec w h₀ os k (.call (.ref 220) ⟨[.ref x,.str nm tn,.str vl tv],[]⟩) ⟨tabC w x dx th l ep hs++rest,n,t⟩ (.ok (.ret (.str vl tv))) ⟨tabC w x dx th l (ep+1) (hs++[⟨n+a,nm,tn,vl,tv⟩])++rest,n+d,t+e⟩
 | [],_,hN,hF=>sdf0 hk x dx th l ep tn tv hn hv
 | [a0],_,hN,hF=>sdf1 hk x dx th l ep tn tv hn hv a0 (hN _ (by simp)) (hF _ (by simp))
 | [a0,a1],_,hN,hF=>sdf2 hk x dx th l ep tn tv hn hv a0 a1 (hN _ (by simp)) (hF _ (by simp)) (hN _ (by simp)) (hF _ (by simp))
 | [a0,a1,a2],_,hN,hF=>sdf3 hk x dx th l ep tn tv hn hv a0 a1 a2 (hN _ (by simp)) (hF _ (by simp)) (hN _ (by simp)) (hF _ (by simp)) (hN _ (by simp)) (hF _ (by simp))
 | _::_::_::_::_,q,_,_=>absurd q (by simp only [List.length_cons];omega)
end
theorem rev_2:∀(w:World) (n t l sl t2 ep r0 r1:Nat),GoodP w (.call (.builtin "list.__getitem__") ⟨[(.ref l),(.ref sl)],[]⟩) [(l,lstO [(.ref r0),(.ref r1)] ep)] ⟨[(sl,fldO "slice" [.none,.none,(.int (-1) t2)])],n,t⟩
  [1001,1,1,1,1,1,1001]
  (.ok (.ret (.ref n))) [0,1] 2 ⟨[(n,lstO [(.ref r1),(.ref r0)] 0),(sl,fldO "slice" [.none,.none,(.int (-1) t2)])],(n+1),t⟩:=by
 (intros;exact⟨by kernel_rfl,by kernel_rfl,by kernel_rfl⟩)
theorem rev_3:∀(w:World) (n t l sl t2 ep r0 r1 r2:Nat),GoodP w (.call (.builtin "list.__getitem__") ⟨[(.ref l),(.ref sl)],[]⟩) [(l,lstO [(.ref r0),(.ref r1),(.ref r2)] ep)] ⟨[(sl,fldO "slice" [.none,.none,(.int (-1) t2)])],n,t⟩
  [1001,1,1,1,1,1,1001]
  (.ok (.ret (.ref n))) [0,1] 2 ⟨[(n,lstO [(.ref r2),(.ref r1),(.ref r0)] 0),(sl,fldO "slice" [.none,.none,(.int (-1) t2)])],(n+1),t⟩:=by
 (intros;exact⟨by kernel_rfl,by kernel_rfl,by kernel_rfl⟩)
theorem rev_4:∀(w:World) (n t l sl t2 ep r0 r1 r2 r3:Nat),GoodP w (.call (.builtin "list.__getitem__") ⟨[(.ref l),(.ref sl)],[]⟩) [(l,lstO [(.ref r0),(.ref r1),(.ref r2),(.ref r3)] ep)] ⟨[(sl,fldO "slice" [.none,.none,(.int (-1) t2)])],n,t⟩
  [1001,1,1,1,1,1,1001]
  (.ok (.ret (.ref n))) [0,1] 2 ⟨[(n,lstO [(.ref r3),(.ref r2),(.ref r1),(.ref r0)] 0),(sl,fldO "slice" [.none,.none,(.int (-1) t2)])],(n+1),t⟩:=by
 (intros;exact⟨by kernel_rfl,by kernel_rfl,by kernel_rfl⟩)
noncomputable def nm59:List Str:=[sO "self",sO "left",sO "right",sO "index",sO "direction",sO "l",sO "r"]
theorem cmp_in' {w:World} {h₀:Heap} {os:OsState} (B:Base w h₀) {k:Nat} (hk:k≤200) (jx lf rg:Nat) (n t:Nat) (rest:List (Nat×Obj)) {r:Result} {m':SM}
  (h:Spec w h₀ os k (.func (bodyOf (fdAt w 59)) (envAt w 59 n)) ⟨(n,frN w nm59 (tf t) [(.ref jx),(.ref lf),(.ref rg)])::rest,n+1,t+3⟩ r m') :
  Spec w h₀ os k (.call (.ref 59) ⟨[.ref jx,.ref lf,.ref rg],[]⟩) ⟨rest,n,t⟩ r m' :=
 spec_fn B (by kernel_rfl) (show RT3 (runT w (bindZ (fdAt w 59) ⟨[.ref jx,.ref lf,.ref rg],[]⟩) ⟨rest,n,t⟩ []) (.ok [((sO "self"),(.ref jx)),((sO "left"),(.ref lf)),((sO "right"),(.ref rg))]) ⟨rest,n,t⟩ from⟨by kernel_rfl,by kernel_rfl,by kernel_rfl⟩)
  (show RT3 (runT w (envZ (fdAt w 59).scope (fdAt w 59).globals (fdAt w 59).closure [((sO "self"),(.ref jx)),((sO "left"),(.ref lf)),((sO "right"),(.ref rg))] ((fdAt w 59).qualname++sO ".<locals>.") (some 59) (fdAt w 59).code none (fdAt w 59).builtins) ⟨rest,n,t⟩ [1,1,1,1,1,1]) (.ok (envAt w 59 n)) ⟨(n,frN w nm59 (tf t) [(.ref jx),(.ref lf),(.ref rg)])::rest,n+1,t+3⟩ from⟨by kernel_rfl,by kernel_rfl,by kernel_rfl⟩) h hk
theorem cmf_lt:∀(w:World) (n t jx jd cl c0 c1 tc ce u0 u1 u2 u3 lf rg tq tp tl tq' tp' tl':Nat) (q p q' p':Int) (le le':Str),Good w (.func (bodyOf (fdAt w 59)) (envAt w 59 n)) [(jx,insO 62 jd),(jd,dctO [ez w.params (sO "comp_select_list") tc (.ref cl)] 1),(cl,lstO [(.ref c0),(.ref c1)] ce),(c0,tupO [(.int 0 u0),(.int (-1) u1)]),(c1,tupO [(.int 1 u2),(.int 1 u3)]),(lf,tupO [(.int q tq),(.int p tp),(.str le tl)]),(rg,tupO [(.int q' tq'),(.int p' tp'),(.str le' tl')])] ⟨[(n,frN w nm59 (tf t) [(.ref jx),(.ref lf),(.ref rg)])],(n+1),(t+3)⟩ [1,1001,0,0,0,0,1001,0,0,0,1001,1001,0,1002,1003,1003,0,1003,1,2,1,0,1,1,1,1003,1,1,1,1004,1004,1004,0,1004,1,1,0,1,1,1,1004,1,1,1,0,1,1,1,1004,1,1,1,0,1,1,1,1004,1,1,1,5,5,5,5,5,5,1006,1006,1006,0,1006,1006,5,5,5,5,1007,1007,1007,0,1007,1007,5,5,5,5,1,5,0] [.any (.call (.builtin "int.__lt__") ⟨[(.int q tq),(.int q' tq')],[]⟩) (aVal (.bool true) 0 0)] (.ok (.done (.ret (.int 1 (t+8))))) [] 5 ⟨[],(n+5),(t+9)⟩:=by walk_at "r"
theorem cmf_gt:∀(w:World) (n t jx jd cl c0 c1 tc ce u0 u1 u2 u3 lf rg tq tp tl tq' tp' tl':Nat) (q p q' p':Int) (le le':Str),Good w (.func (bodyOf (fdAt w 59)) (envAt w 59 n)) [(jx,insO 62 jd),(jd,dctO [ez w.params (sO "comp_select_list") tc (.ref cl)] 1),(cl,lstO [(.ref c0),(.ref c1)] ce),(c0,tupO [(.int 0 u0),(.int (-1) u1)]),(c1,tupO [(.int 1 u2),(.int 1 u3)]),(lf,tupO [(.int q tq),(.int p tp),(.str le tl)]),(rg,tupO [(.int q' tq'),(.int p' tp'),(.str le' tl')])] ⟨[(n,frN w nm59 (tf t) [(.ref jx),(.ref lf),(.ref rg)])],(n+1),(t+3)⟩ [1,1001,0,0,0,0,1001,0,0,0,1001,1001,0,1002,1003,1003,0,1003,1,2,1,0,1,1,1,1003,1,1,1,1004,1004,1004,0,1004,1,1,0,1,1,1,1004,1,1,1,0,1,1,1,1004,1,1,1,0,1,1,1,1004,1,1,1,5,5,5,5,5,5,1006,1006,1006,0,1006,1006,5,5,5,5,1007,1007,1007,0,1007,1007,5,5,5,5,1,5,5,1,5] [.any (.call (.builtin "int.__lt__") ⟨[(.int q tq),(.int q' tq')],[]⟩) (aVal (.bool false) 0 0),.any (.call (.builtin "int.__gt__") ⟨[(.int q tq),(.int q' tq')],[]⟩) (aVal (.bool true) 0 0)] (.ok (.done (.ret (.int (-1) u1)))) [] 5 ⟨[],(n+5),(t+8)⟩:=by walk_at "r"
theorem cmf_elt:∀(w:World) (n t jx jd cl c0 c1 tc ce u0 u1 u2 u3 lf rg tq tp tl tq' tp' tl':Nat) (q p q' p':Int) (le le':Str),Good w (.func (bodyOf (fdAt w 59)) (envAt w 59 n)) [(jx,insO 62 jd),(jd,dctO [ez w.params (sO "comp_select_list") tc (.ref cl)] 1),(cl,lstO [(.ref c0),(.ref c1)] ce),(c0,tupO [(.int 0 u0),(.int (-1) u1)]),(c1,tupO [(.int 1 u2),(.int 1 u3)]),(lf,tupO [(.int q tq),(.int p tp),(.str le tl)]),(rg,tupO [(.int q' tq'),(.int p' tp'),(.str le' tl')])] ⟨[(n,frN w nm59 (tf t) [(.ref jx),(.ref lf),(.ref rg)])],(n+1),(t+3)⟩ [1,1001,0,0,0,0,1001,0,0,0,1001,1001,0,1002,1003,1003,0,1003,1,2,1,0,1,1,1,1003,1,1,1,1004,1004,1004,0,1004,1,1,0,1,1,1,1004,1,1,1,0,1,1,1,1004,1,1,1,0,1,1,1,1004,1,1,1,5,5,5,5,5,5,1006,1006,1006,0,1006,1006,5,5,5,5,1007,1007,1007,0,1007,1007,5,5,5,5,1,5,5,1,4,0,4,4,4,1003,4,4,4,1005,1005,1005,0,1005,1,1,0,1,1,1,1005,1,1,1,0,1,1,1,1005,1,1,1,0,1,1,1,1005,1,1,1,8,8,8,8,8,8,1006,1006,1006,0,1006,1006,8,8,8,8,1007,1007,1007,0,1007,1007,8,8,8,8,1,8,0] [.any (.call (.builtin "int.__lt__") ⟨[(.int q tq),(.int q' tq')],[]⟩) (aVal (.bool false) 0 0),.any (.call (.builtin "int.__gt__") ⟨[(.int q tq),(.int q' tq')],[]⟩) (aVal (.bool false) 0 0),.any (.call (.builtin "int.__lt__") ⟨[(.int p tp),(.int p' tp')],[]⟩) (aVal (.bool true) 0 0)] (.ok (.done (.ret (.int (-1) (t+12))))) [] 8 ⟨[],(n+8),(t+13)⟩:=by walk_at "r"
section
variable {w:World} {h₀:Heap} {os:OsState}
theorem lnG {k:Nat} (it l ep n t i:Nat) (vs:List Value) (v:Value) (hv:vs[i]?=some v) (hf:h₀.get? l=some (lstO vs ep)) :
  Spec w h₀ os k (.call (.builtin "list_iterator.__next__") ⟨[.ref it],[]⟩) ⟨[(it,fldO "list_iterator" [.ref l,.int (i:Int) 0])],n,t⟩ (.ok (.ret v)) ⟨[(it,fldO "list_iterator" [.ref l,.int ((i+1:Nat):Int) 0])],n,t⟩:=by
 intro A s R hA D q
 have ho:s.heap.get? it=some (fldO "list_iterator" [.ref l,.int (i:Int) 0]):=(D.cell _ (.head _)).1
 have hl:s.heap.get? l=some (lstO vs ep):=D.keep _ _ hf
 have D1:=D.update (j:=0) (p:=(it,fldO "list_iterator" [.ref l,.int (i:Int) 0])) rfl (f:=Obj.mapFields (·.setIfInBounds 1 (rawInt ((i+1:Nat):Int)))) (by rfl)
 have e1:Obj.mapFields (·.setIfInBounds 1 (rawInt ((i+1:Nat):Int))) (fldO "list_iterator" [.ref l,.int (i:Int) 0])=fldO "list_iterator" [.ref l,.int ((i+1:Nat):Int) 0]:=by
  unfold fldO Obj.mapFields;simp [rawInt]
 rw [e1] at D1
 refine codeAny_call_builtin slot_listiter_next.plain entry_listiter_next (slot_listiter_next.check _ _ _ _ _ _ _ _ ⟨_,ho,rfl⟩ (args_listiter_next _) ?_)
 show wpAny _ _ (field (.ref it) 0 >>= _) _ _ s
 refine wpAny_bind (wpAny_field ho rfl (x:=.ref l) rfl ?_)
 show wpAny _ _ (if (Value.ref l == Value.none)=true then _ else _) _ _ s
 rw [if_neg (show ¬ ((Value.ref l == Value.none)=true) from Bool.false_ne_true)]
 show wpAny _ _ (field (.ref it) 1 >>= _) _ _ s
 refine wpAny_bind (wpAny_field ho rfl (x:=.int i 0) rfl ?_)
 show wpAny _ _ (seqItems? (.ref l) >>= _) _ _ s
 refine wpAny_bind (wpAny_seqItems hl rfl ?_)
 have hx:(vs.toArray)[i]?=some v:=by simpa using hv
 simp only [Int.toNat_natCast,hx]
 exact wpAny_bind (wpAny_setField ho rfl (by simp) (wpAny_pure (q _ D1)))
theorem leG {k:Nat} (it l ep n t i:Nat) (vs:List Value) (hv:vs[i]?=none) (hf:h₀.get? l=some (lstO vs ep)) :
  Spec w h₀ os k (.call (.builtin "list_iterator.__next__") ⟨[.ref it],[]⟩) ⟨[(it,fldO "list_iterator" [.ref l,.int (i:Int) 0])],n,t⟩ (.error (.ref (n+1))) ⟨[(n+1,fldO "StopIteration" [.ref n,.none,.none,.none,.bool false,.none]),(it,fldO "list_iterator" [.none,.int (i:Int) 0])],n+2,t⟩:=by
 intro A s R hA D q
 have ho:s.heap.get? it=some (fldO "list_iterator" [.ref l,.int (i:Int) 0]):=(D.cell _ (.head _)).1
 have hl:s.heap.get? l=some (lstO vs ep):=D.keep _ _ hf
 have D1:=D.update (j:=0) (p:=(it,fldO "list_iterator" [.ref l,.int (i:Int) 0])) rfl (f:=Obj.mapFields (·.setIfInBounds 0 .none)) (by rfl)
 have e1:Obj.mapFields (·.setIfInBounds 0 .none) (fldO "list_iterator" [.ref l,.int (i:Int) 0])=fldO "list_iterator" [.none,.int (i:Int) 0]:=by
  unfold fldO Obj.mapFields;simp
 rw [e1] at D1
 have D2:=D1.alloc (o:=tupO []) (by rfl)
 have D3:=D2.alloc (o:=fldO "StopIteration" [.ref n,.none,.none,.none,.bool false,.none]) (by rfl)
 have hs:s.heap.objs.size=n:=D.size
 refine codeAny_call_builtin slot_listiter_next.plain entry_listiter_next (slot_listiter_next.check _ _ _ _ _ _ _ _ ⟨_,ho,rfl⟩ (args_listiter_next _) ?_)
 show wpAny _ _ (field (.ref it) 0 >>= _) _ _ s
 refine wpAny_bind (wpAny_field ho rfl (x:=.ref l) rfl ?_)
 show wpAny _ _ (if (Value.ref l == Value.none)=true then _ else _) _ _ s
 rw [if_neg (show ¬ ((Value.ref l == Value.none)=true) from Bool.false_ne_true)]
 show wpAny _ _ (field (.ref it) 1 >>= _) _ _ s
 refine wpAny_bind (wpAny_field ho rfl (x:=.int i 0) rfl ?_)
 show wpAny _ _ (seqItems? (.ref l) >>= _) _ _ s
 refine wpAny_bind (wpAny_seqItems hl rfl ?_)
 have hx:(vs.toArray)[i]?=none:=by simpa using hv
 simp only [Int.toNat_natCast,hx]
 refine wpAny_bind (wpAny_rule (wpAny_bind (wpAny_setField ho rfl (by simp) ?_)))
 show wpAny _ _ (newExc (.type "StopIteration") [] >>= _) _ _ _
 refine wpAny_bind ?_
 simp only [newExc,newTuple]
 refine wpAny_bind (wpAny_newObj_type ?_ (by size_fits))
 refine wpAny_bind (m:=firstArgMember _ _) (wpAny_of_eq (a:=Value.none) (by first | rfl | (simp only [firstArgMember];rfl)) ?_)
 refine wpAny_newObj_type ?_ (by size_fits)
 simp only [raiseNew]
 refine wpAny_bind (wpAny_handled ?_)
 rw [show A.in1.handled=none from hA.handled]
 refine wpAny_bind (wpAny_pure (wpAny_throw ?_))
 have hz:(s.heap.update it (Obj.mapFields (·.setIfInBounds 0 .none))).objs.size=n:=by rw [Heap.size_update,hs]
 show R (.error (.ref ((s.heap.update it (Obj.mapFields (·.setIfInBounds 0 .none))).push (tupO [])).objs.size)) { s with heap:=((s.heap.update it (Obj.mapFields (·.setIfInBounds 0 .none))).push (tupO [])).push (fldO "StopIteration" [.ref (s.heap.update it (Obj.mapFields (·.setIfInBounds 0 .none))).objs.size,.none,.none,.none,.bool false,.none]) }
 rw [size_push',hz]
 exact q _ ⟨D3.keep,fun p hp=>D3.cell p (by
  rcases List.mem_cons.mp hp with rfl | hp
  ·exact .head _
  ·exact .tail _ (.tail _ hp)),by
   have:=D3.nodup
   exact this.sublist (.cons_cons _ (.cons _ (List.Sublist.refl _))),D3.size,D3.toks,D3.gens,D3.os⟩
theorem rnG {k:Nat} (it n t:Nat) (x left:Int) (h:0 < left) :
  Spec w h₀ os k (.call (.builtin "range_iterator.__next__") ⟨[.ref it],[]⟩) ⟨[(it,fldO "range_iterator" [.int x 0,.int left 0,.int 1 0])],n,t⟩ (.ok (.ret (.int x t))) ⟨[(it,fldO "range_iterator" [.int (x+1) 0,.int (left - 1) 0,.int 1 0])],n,t+1⟩:=by
 intro A s R hA D q
 have ho:s.heap.get? it=some (fldO "range_iterator" [.int x 0,.int left 0,.int 1 0]):=(D.cell _ (.head _)).1
 have D1:=D.update (j:=0) (p:=(it,fldO "range_iterator" [.int x 0,.int left 0,.int 1 0])) rfl (f:=Obj.mapFields (·.setIfInBounds 0 (rawInt (x+1)))) (by rfl)
 have D2:=D1.update (j:=0) (p:=(it,Obj.mapFields (·.setIfInBounds 0 (rawInt (x+1))) (fldO "range_iterator" [.int x 0,.int left 0,.int 1 0]))) rfl (f:=Obj.mapFields (·.setIfInBounds 1 (rawInt (left - 1)))) (by rfl)
 have e1:Obj.mapFields (·.setIfInBounds 1 (rawInt (left - 1))) (Obj.mapFields (·.setIfInBounds 0 (rawInt (x+1))) (fldO "range_iterator" [.int x 0,.int left 0,.int 1 0]))=fldO "range_iterator" [.int (x+1) 0,.int (left - 1) 0,.int 1 0]:=by
  unfold fldO Obj.mapFields;simp [rawInt]
 rw [e1] at D2
 have ht:s.toks=t:=D.toks
 refine codeAny_call_builtin F.slot_range_iterator_next.plain F.entry_range_iterator_next (F.slot_range_iterator_next.check _ _ _ _ _ _ _ _ ⟨_,ho,rfl⟩ (F.args_range_iterator_next_1 _) (AutoRange.range_iterator___next___range_iterator_1 it x left 1 (by omega) P₀ w A R s ⟨ho,?_⟩))
 rw [ht]
 exact q _ ⟨D2.keep,D2.cell,D2.nodup,D2.size,rfl,D2.gens,D2.os⟩
theorem reG {k:Nat} (it n t:Nat) (x left:Int) (h:left≤0) :
  Spec w h₀ os k (.call (.builtin "range_iterator.__next__") ⟨[.ref it],[]⟩) ⟨[(it,fldO "range_iterator" [.int x 0,.int left 0,.int 1 0])],n,t⟩ (.error (.ref (n+1))) ⟨[(n+1,fldO "StopIteration" [.ref n,.none,.none,.none,.bool false,.none]),(it,fldO "range_iterator" [.int x 0,.int left 0,.int 1 0])],n+2,t⟩:=by
 intro A s R hA D q
 have ho:s.heap.get? it=some (fldO "range_iterator" [.int x 0,.int left 0,.int 1 0]):=(D.cell _ (.head _)).1
 have D2:=D.alloc (o:=tupO []) (by rfl)
 have D3:=D2.alloc (o:=fldO "StopIteration" [.ref n,.none,.none,.none,.bool false,.none]) (by rfl)
 have hs:s.heap.objs.size=n:=D.size
 refine codeAny_call_builtin F.slot_range_iterator_next.plain F.entry_range_iterator_next (F.slot_range_iterator_next.check _ _ _ _ _ _ _ _ ⟨_,ho,rfl⟩ (F.args_range_iterator_next_1 _) ?_)
 show wpAny _ _ (field (.ref it) 0 >>= _) _ _ s
 refine wpAny_bind (wpAny_field ho rfl (x:=.int x 0) rfl ?_)
 show wpAny _ _ (field (.ref it) 1 >>= _) _ _ s
 refine wpAny_bind (wpAny_field ho rfl (x:=.int left 0) rfl ?_)
 show wpAny _ _ (field (.ref it) 2 >>= _) _ _ s
 refine wpAny_bind (wpAny_field ho rfl (x:=.int 1 0) rfl ?_)
 show wpAny _ _ (if left≤0 then _ else _) _ _ s
 rw [if_pos h]
 refine wpAny_bind (wpAny_rule ?_)
 refine wpAny_bind ?_
 show wpAny _ _ (newExc (.type "StopIteration") [] >>= _) _ _ _
 refine wpAny_bind ?_
 simp only [newExc,newTuple]
 refine wpAny_bind (wpAny_newObj_type ?_ (by size_fits))
 refine wpAny_bind (m:=firstArgMember _ _) (wpAny_of_eq (a:=Value.none) (by first | rfl | (simp only [firstArgMember];rfl)) ?_)
 refine wpAny_newObj_type ?_ (by size_fits)
 simp only [raiseNew]
 refine wpAny_bind (wpAny_handled ?_)
 rw [show A.in1.handled=none from hA.handled]
 refine wpAny_bind (wpAny_pure (wpAny_throw ?_))
 show R (.error (.ref ((s.heap.push (tupO [])).objs.size))) { s with heap:=(s.heap.push (tupO [])).push (fldO "StopIteration" [.ref s.heap.objs.size,.none,.none,.none,.bool false,.none]) }
 rw [size_push',hs]
 exact q _ ⟨D3.keep,fun p hp=>D3.cell p (by
  rcases List.mem_cons.mp hp with rfl | hp
  ·exact .head _
  ·exact .tail _ (.tail _ hp)),by
   have:=D3.nodup
   exact this.sublist (.cons_cons _ (.cons _ (List.Sublist.refl _))),D3.size,D3.toks,D3.gens,D3.os⟩
end
noncomputable def one (z a:Nat×Obj):Nat:=by classical exact if a=z then 1 else 0
noncomputable def cnt (z:Nat×Obj):List (Nat×Obj)→Nat
 | []=>0
 | a::l=>one z a+cnt z l
theorem cnt_nil (z:Nat×Obj):cnt z []=0:=rfl
theorem cnt_cons (z a:Nat×Obj) (l:List (Nat×Obj)):cnt z (a::l)=one z a+cnt z l:=rfl
theorem cnt_append (z:Nat×Obj):∀ l l':List (Nat×Obj),cnt z (l++l')=cnt z l+cnt z l'
 | [],l'=>(Nat.zero_add _).symm
 | a::l,l'=>by rw [List.cons_append,cnt_cons,cnt_append z l l',cnt_cons,Nat.add_assoc]
theorem perm_of_cnt {l l':List (Nat×Obj)} (h:∀ z,cnt z l=cnt z l'):l.Perm l':=by
 classical
 rw [List.perm_iff_count]
 intro z
 have e:∀ l:List (Nat×Obj),l.count z=cnt z l:=by
  intro l
  induction l with
  | nil=>rfl
  | cons a l ih =>
   rw [List.count_cons,cnt_cons,ih,Nat.add_comm]
   congr 1
   unfold one
   by_cases h:a=z
   ·simp [h]
   ·simp [h]
 rw [e,e,h]
section
variable {w:World} {h₀:Heap} {os:OsState}
theorem cnt_tab (z:Nat×Obj) (x dx th l ep:Nat) (hs:List Hd):cnt z (tabC w x dx th l ep hs)=one z (x,insO 230 dx)+(one z (dx,dctO [ez w.params (sO "_headers") th (.ref l)] 1)+(one z (l,lstO (hs.map fun h=>.ref h.a) ep)+cnt z (hs.map Hd.cell))):=rfl
theorem fit {k:Nat} {c:Code} {r:Result} {T T' M M':List (Nat×Obj)} (G:List (Nat×Obj)) {n t n' t':Nat} (h:Spec w h₀ os k c ⟨T,n,t⟩ r ⟨T',n',t'⟩) (p1:∀ z,cnt z M=cnt z T) (p2:∀ z,cnt z T'=cnt z M'+cnt z G) :
  Spec w h₀ os k c ⟨M,n,t⟩ r ⟨M',n',t'⟩:=by
 have q2:T'.Perm (M'++G):=perm_of_cnt fun z=>by rw [p2,cnt_append]
 refine SpecE.less (m':=⟨M'++G,n',t'⟩) ?_ (List.sublist_append_left _ _) rfl rfl
 exact SpecE.post (m1:=⟨M'++G,n',t'⟩) (SpecE.pre (m1:=⟨M,n,t⟩) h (perm_of_cnt p1) rfl rfl) q2 rfl rfl
theorem use (B:Base w h₀) {k:Nat} {c:Code} {r:Result} {T T' M M':List (Nat×Obj)} (R G:List (Nat×Obj)) {n t n' t':Nat} (p1:∀ z,cnt z M=cnt z T+cnt z R) (p2:∀ z,cnt z T'+cnt z R=cnt z M'+cnt z G)
  (h:∀ h₁,Base w h₁→Keeps h₀ h₁→Facts h₁ R→Spec w h₁ os k c ⟨T,n,t⟩ r ⟨T',n',t'⟩):Spec w h₀ os k c ⟨M,n,t⟩ r ⟨M',n',t'⟩ :=
 fit G (spec_frz B h) (fun z=>by rw [p1,cnt_append]) fun z=>by rw [cnt_append,p2]
theorem hnewS (B:Base w h₀) {k:Nat} (hk:k≤160) (n t:Nat) (rest:List (Nat×Obj)):Spec w h₀ os k (.call (.ref 230) ⟨[],[]⟩) ⟨rest,n,t⟩ (.ok (.ret (.ref (n+1)))) ⟨tabC w (n+1) n (t+4) (n+3) 0 []++rest,n+7,t+5⟩:=by
 have h:=hnew_r w n t rest
 have z:Spec w h₀ os k (.call (.ref 230) ⟨[],[]⟩) ⟨rest,n,t⟩ (.ok (.ret (.ref (n+1)))) ⟨((n+3),lstO [] 0)::((n+1),insO 230 n)::(n,dctO [ez w.params (sO "_headers") (t+4) (.ref (n+3))] 1)::rest,(n+7),(t+5)⟩:=by
  refine spec_h B ⟨h.1,h.2.1,h.2.2.1⟩ (ev_of h.2.2.2.1 ⟨spec_fr h.2.2.2.2.1 h.2.2.2.2.2.1 h.2.2.2.2.2.2 ?_,trivial⟩)
  refine hin_in B (by exact Nat.le_trans (Nat.add_le_add_right ‹_› _) (by decide)) (n+1) _ _ _ ?_
  have h2:=hin_r w (n+2) t (n+1) n (sep [0,0] (mE (R_hnew_r w n t rest) 0).cells).2
  exact spec_done B ⟨h2.1,h2.2.1,h2.2.2.1⟩ (ev_of h2.2.2.2 trivial)
 exact fit [] z (fun _=>rfl) fun z=>by simp only [cnt_append,cnt_tab,cnt_cons,cnt_nil,List.map_nil];ac_rfl
theorem tnewS (B:Base w h₀) {k:Nat} (hk:k≤160) (n t cl:Nat) (rest:List (Nat×Obj)):Spec w h₀ os k (.call (.ref 62) ⟨[.ref cl],[]⟩) ⟨rest,n,t⟩ (.ok (.ret (.ref (n+1)))) ⟨((n+1),insO 62 n)::(n,dctO [ez w.params (sO "comp_select_list") (t+3) (.ref cl)] 1)::rest,(n+3),(t+4)⟩:=by
 have h:=tnew_r w n t cl rest
 refine spec_h B ⟨h.1,h.2.1,h.2.2.1⟩ (ev_of h.2.2.2.1 ⟨spec_fr h.2.2.2.2.1 h.2.2.2.2.2.1 h.2.2.2.2.2.2 ?_,trivial⟩)
 refine tin_in B (by exact Nat.le_trans (Nat.add_le_add_right ‹_› _) (by decide)) (n+1) cl _ _ _ ?_
 have h2:=tin_r w (n+2) t (n+1) n cl (sep [0,0] (mE (R_tnew_r w n t cl rest) 0).cells).2
 exact spec_done B ⟨h2.1,h2.2.1,h2.2.2.1⟩ (ev_of h2.2.2.2 trivial)
theorem lnx (B:Base w h₀) {k:Nat} (it l ep n t:Nat) (rs:List Nat) (i r:Nat) (_:2≤rs.length) (_:rs.length≤6) (f:h₀.get? l=some (lstO (rs.map .ref) ep)) (e:rs[i]?=some r) :
  Spec w h₀ os k (.call (.builtin "list_iterator.__next__") ⟨[.ref it],[]⟩) ⟨[(it,fldO "list_iterator" [.ref l,.int (i:Int) 0])],n,t⟩ (.ok (.ret (.ref r))) ⟨[(it,fldO "list_iterator" [.ref l,.int ((i+1:Nat):Int) 0])],n,t⟩ :=
 lnG it l ep n t i (rs.map .ref) (.ref r) (by rw [List.getElem?_map,e];rfl) f
theorem lne (B:Base w h₀) {k:Nat} (it l ep n t:Nat) (rs:List Nat) (i:Nat) (_:2≤rs.length) (_:rs.length≤6) (f:h₀.get? l=some (lstO (rs.map .ref) ep)) (e:i=rs.length) :
  Spec w h₀ os k (.call (.builtin "list_iterator.__next__") ⟨[.ref it],[]⟩) ⟨[(it,fldO "list_iterator" [.ref l,.int (i:Int) 0])],n,t⟩ (.error (.ref (n+1))) ⟨[(n+1,fldO "StopIteration" [.ref n,.none,.none,.none,.bool false,.none]),(it,fldO "list_iterator" [.none,.int (i:Int) 0])],n+2,t⟩ :=
 leG it l ep n t i (rs.map .ref) (by rw [List.getElem?_map,List.getElem?_eq_none (Nat.le_of_eq e.symm)];rfl) f
theorem revS (B:Base w h₀) {k:Nat} (l sl t2 ep n t:Nat):∀(rs:List Nat),2≤rs.length→rs.length≤4→h₀.get? l=some (lstO (rs.map .ref) ep) →
  Spec w h₀ os k (.call (.builtin "list.__getitem__") ⟨[.ref l,.ref sl],[]⟩) ⟨[(sl,fldO "slice" [.none,.none,.int (-1) t2])],n,t⟩ (.ok (.ret (.ref n))) ⟨[(n,lstO (rs.reverse.map .ref) 0),(sl,fldO "slice" [.none,.none,.int (-1) t2])],n+1,t⟩
 | [r0,r1],_,_,f=>good_p (rev_2 w n t l sl t2 ep r0 r1) B (facts_nil.cons f)
 | [r0,r1,r2],_,_,f=>good_p (rev_3 w n t l sl t2 ep r0 r1 r2) B (facts_nil.cons f)
 | [r0,r1,r2,r3],_,_,f=>good_p (rev_4 w n t l sl t2 ep r0 r1 r2 r3) B (facts_nil.cons f)
 | [],q,_,_=>absurd q (by decide)
 | [_],q,_,_=>absurd q (by simp only [List.length_cons,List.length_nil];omega)
 | _::_::_::_::_::_,_,q,_=>absurd q (by simp only [List.length_cons];omega)
noncomputable def rngO (i j:Nat):Obj:=fldO "range_iterator" [.int (i:Int) 0,.int (j:Int) 0,.int 1 0]
theorem rnx0 (B:Base w h₀) {k:Nat} (it n t s i:Nat) (_:3≤s) (_:s≤6) (hi:i < s) :
  Spec w h₀ os k (.call (.builtin "range_iterator.__next__") ⟨[.ref it],[]⟩) ⟨[(it,rngO i (s - i))],n,t⟩ (.ok (.ret (.int (i:Int) t))) ⟨[(it,rngO (i+1) (s - (i+1)))],n,t+1⟩:=by
 have h:=rnG (w:=w) (h₀:=h₀) (os:=os) (k:=k) it n t (i:Int) ((s - i:Nat):Int) (by omega)
 rw [show ((s - i:Nat):Int) - 1=((s - (i+1):Nat):Int) by omega] at h
 exact h
theorem rne0 (B:Base w h₀) {k:Nat} (it n t s:Nat) (_:3≤s) (_:s≤6) :
  Spec w h₀ os k (.call (.builtin "range_iterator.__next__") ⟨[.ref it],[]⟩) ⟨[(it,rngO s (s - s))],n,t⟩ (.error (.ref (n+1))) ⟨[(n+1,fldO "StopIteration" [.ref n,.none,.none,.none,.bool false,.none]),(it,rngO s (s - s))],n+2,t⟩ :=
 reG it n t (s:Int) ((s - s:Nat):Int) (by rw [Nat.sub_self];decide)
theorem rnx1 (B:Base w h₀) {k:Nat} (it n t s i:Nat) (_:3≤s) (_:s≤6) (hi:i < s) :
  Spec w h₀ os k (.call (.builtin "range_iterator.__next__") ⟨[.ref it],[]⟩) ⟨[(it,rngO (i+1) (s - i))],n,t⟩ (.ok (.ret (.int ((i+1:Nat):Int) t))) ⟨[(it,rngO (i+1+1) (s - (i+1)))],n,t+1⟩:=by
 have h:=rnG (w:=w) (h₀:=h₀) (os:=os) (k:=k) it n t ((i+1:Nat):Int) ((s - i:Nat):Int) (by omega)
 rw [show ((s - i:Nat):Int) - 1=((s - (i+1):Nat):Int) by omega] at h
 exact h
theorem rne1 (B:Base w h₀) {k:Nat} (it n t s:Nat) (_:3≤s) (_:s≤6) :
  Spec w h₀ os k (.call (.builtin "range_iterator.__next__") ⟨[.ref it],[]⟩) ⟨[(it,rngO (s+1) (s - s))],n,t⟩ (.error (.ref (n+1))) ⟨[(n+1,fldO "StopIteration" [.ref n,.none,.none,.none,.bool false,.none]),(it,rngO (s+1) (s - s))],n+2,t⟩ :=
 reG it n t ((s+1:Nat):Int) ((s - s:Nat):Int) (by rw [Nat.sub_self];decide)
theorem cmpW {k:Nat} (hk:k≤170) (jx jd cl c0 c1 tc ce u0 u1 u2 u3 lf rg tq tp tl tq' tp' tl':Nat) (q p q' p':Int) (le le':Str) (h:q' < q∨q=q'∧p < p') (n t:Nat) :
  ∃ d e u,∀ h₀,Base w h₀→Facts h₀ (judC w jx jd cl c0 c1 tc ce u0 u1 u2 u3++[(lf,offO q tq p tp le tl),(rg,offO q' tq' p' tp' le' tl')])→Spec w h₀ os k (.call (.ref 59) ⟨[.ref jx,.ref lf,.ref rg],[]⟩) ⟨[],n,t⟩ (.ok (.ret (.int (-1) u))) ⟨[],n+d,t+e⟩:=by
 by_cases hq:q' < q
 ·exact⟨_,_,_,fun h₀ B hF=>cmp_in' B (by exact Nat.le_trans ‹_› (by decide)) jx lf rg n t [] (good_done (cmf_gt w n t jx jd cl c0 c1 tc ce u0 u1 u2 u3 lf rg tq tp tl tq' tp' tl' q p q' p' le le') B hF ⟨fun m=>lt_ev _ _ _ _ (by simp;omega) m,fun m=>gt_ev _ _ _ _ (by simp;assumption) m,trivial⟩)⟩
 ·exact⟨_,_,_,fun h₀ B hF=>cmp_in' B (by exact Nat.le_trans ‹_› (by decide)) jx lf rg n t [] (good_done (cmf_elt w n t jx jd cl c0 c1 tc ce u0 u1 u2 u3 lf rg tq tp tl tq' tp' tl' q p q' p' le le') B hF ⟨fun m=>lt_ev _ _ _ _ (by simp;omega) m,fun m=>gt_ev _ _ _ _ (by simp;omega) m,fun m=>lt_ev _ _ _ _ (by simp;omega) m,trivial⟩)⟩
theorem cmpL {k:Nat} (hk:k≤170) (jx jd cl c0 c1 tc ce u0 u1 u2 u3 lf rg tq tp tl tq' tp' tl':Nat) (q p q' p':Int) (le le':Str) (h:q < q') (n t:Nat) :
  ∃ d e u,∀ h₀,Base w h₀→Facts h₀ (judC w jx jd cl c0 c1 tc ce u0 u1 u2 u3++[(lf,offO q tq p tp le tl),(rg,offO q' tq' p' tp' le' tl')])→Spec w h₀ os k (.call (.ref 59) ⟨[.ref jx,.ref lf,.ref rg],[]⟩) ⟨[],n,t⟩ (.ok (.ret (.int 1 u))) ⟨[],n+d,t+e⟩ :=
 ⟨_,_,_,fun h₀ B hF=>cmp_in' B (by exact Nat.le_trans ‹_› (by decide)) jx lf rg n t [] (good_done (cmf_lt w n t jx jd cl c0 c1 tc ce u0 u1 u2 u3 lf rg tq tp tl tq' tp' tl' q p q' p' le le') B hF ⟨fun m=>lt_ev _ _ _ _ (by simp;assumption) m,trivial⟩)⟩
end
noncomputable def nm253:List Str:=[sO "lists",sO "seats",sO "table",sO "place",sO "letter",sO "entry",sO "judge",sO "turn",sO "best",sO "offer",sO "told"]
theorem run_in {w:World} {h₀:Heap} {os:OsState} (B:Base w h₀) {k:Nat} (hk:k≤200) (la ts:Nat) (s:Int) (n t:Nat) (rest:List (Nat×Obj)) {r:Result} {m':SM}
  (h:Spec w h₀ os k (.func (bodyOf (fdAt w 253)) (envAt w 253 n)) ⟨(n,frN w nm253 (tf t) [(.ref la),(.int s ts)])::rest,n+1,t+2⟩ r m') :
  Spec w h₀ os k (.call (.ref 253) ⟨[.ref la,.int s ts],[]⟩) ⟨rest,n,t⟩ r m' :=
 spec_fn B (by kernel_rfl) (show RT3 (runT w (bindZ (fdAt w 253) ⟨[.ref la,.int s ts],[]⟩) ⟨rest,n,t⟩ []) (.ok [((sO "lists"),(.ref la)),((sO "seats"),(.int s ts))]) ⟨rest,n,t⟩ from⟨by kernel_rfl,by kernel_rfl,by kernel_rfl⟩)
  (show RT3 (runT w (envZ (fdAt w 253).scope (fdAt w 253).globals (fdAt w 253).closure [((sO "lists"),(.ref la)),((sO "seats"),(.int s ts))] ((fdAt w 253).qualname++sO ".<locals>.") (some 253) (fdAt w 253).code none (fdAt w 253).builtins) ⟨rest,n,t⟩ [1,1,1,1]) (.ok (envAt w 253 n)) ⟨(n,frN w nm253 (tf t) [(.ref la),(.int s ts)])::rest,n+1,t+2⟩ from⟨by kernel_rfl,by kernel_rfl,by kernel_rfl⟩) h hk
theorem run1_e:∀(w:World) (n t s1 t1 L it st:Nat) (V15:Value) (f1 f2:List Value) (O3:Obj) (rest:List (Nat×Obj)),(fun(A:Nat×Obj)=>GoodH w (loopC (stAt (bodyOf (fdAt w 253)) 1) (.ref it) (envAt w 253 L)) [] ⟨A::(L,O3)::rest,n,t⟩ [1,1,1] [.at (.call (.builtin "list_iterator.__next__") ⟨[(.ref it)],[]⟩) ⟨A::(L,O3)::rest,n,t⟩ (.error (.ref st)) ⟨(st,fldO "StopIteration" [V15,.none,.none,.none,(.bool false),.none])::(it,fldO "list_iterator" f2)::(L,O3)::rest,s1,t1⟩] (.ok .next) [2] 3 ⟨(L,O3)::rest,s1,t1⟩) (it,fldO "list_iterator" f1):=by walk_at "r"
theorem run2_e:∀(w:World) (n t s1 t1 L it st:Nat) (V15:Value) (f1 f2:List Value) (O3:Obj) (rest:List (Nat×Obj)),(fun(A:Nat×Obj)=>GoodH w (loopC (stAt (bodyOf (fdAt w 253)) 3) (.ref it) (envAt w 253 L)) [] ⟨A::(L,O3)::rest,n,t⟩ [1,1,1] [.at (.call (.builtin "range_iterator.__next__") ⟨[(.ref it)],[]⟩) ⟨A::(L,O3)::rest,n,t⟩ (.error (.ref st)) ⟨(st,fldO "StopIteration" [V15,.none,.none,.none,(.bool false),.none])::(it,fldO "range_iterator" f2)::(L,O3)::rest,s1,t1⟩] (.ok .next) [2] 3 ⟨(L,O3)::rest,s1,t1⟩) (it,fldO "range_iterator" f1):=by walk_at "r"
theorem run3_e:∀(w:World) (n t s1 t1 L it st:Nat) (V15:Value) (f1 f2:List Value) (O3:Obj) (rest:List (Nat×Obj)),(fun(A:Nat×Obj)=>GoodH w (loopC (stAt (forB (stAt (bodyOf (fdAt w 253)) 3)) 1) (.ref it) (envAt w 253 L)) [] ⟨A::(L,O3)::rest,n,t⟩ [1,1,1] [.at (.call (.builtin "list_iterator.__next__") ⟨[(.ref it)],[]⟩) ⟨A::(L,O3)::rest,n,t⟩ (.error (.ref st)) ⟨(st,fldO "StopIteration" [V15,.none,.none,.none,(.bool false),.none])::(it,fldO "list_iterator" f2)::(L,O3)::rest,s1,t1⟩] (.ok .next) [2] 3 ⟨(L,O3)::rest,s1,t1⟩) (it,fldO "list_iterator" f1):=by walk_at "r"
theorem run1_f:∀(w:World) (n t s1 t1 L it a e x dx th l tp tl:Nat) (ks:Nat→Nat) (V0 V1:Value) (p:Int) (c:Str) (f1 f2:List Value) (rest rest1:List (Nat×Obj)),(fun(A B C D E F H I:Nat×Obj) (G:Code)=>Good w G [(a,tupO [(.int p tp),(.str c tl),(.ref e)])] ⟨I::F::E::A::rest,n,t⟩ [1,1,1,1001,1001,1001,0,1001,1,1,0,1,1,1,1001,1,1,1,0,1,1,1,1001,1,1,1,0,1,1,1,1001,1,1,1,0,1,1,1,1001,1,1,1,5,5,5,5,5,5,5,6,0,0,0,6,0,0,0,6,0,0,0,0,6,7,5,0,1] [.at (.call (.builtin "list_iterator.__next__") ⟨[(.ref it)],[]⟩) ⟨I::F::E::A::rest,n,t⟩ (.ok (.ret (.ref a))) ⟨D::F::E::A::rest,n,t⟩,.at (.call (.ref 220) ⟨[(.ref x),(.str c tl),(.str (sO ".") (t+3))],[]⟩) ⟨C::((n+1),tupO [])::H::D::B::E::A::rest,(n+3),(t+4)⟩ (.ok (.ret (.str (sO ".") (t+3)))) ⟨C::((n+1),tupO [])::H::D::B::E::A::rest1,s1,t1⟩] (.ok (.again G)) [3,4,5,6] 7 ⟨D::B::E::A::rest1,s1,t1⟩) (dx,dctO [ez w.params (sO "_headers") th (.ref l)] 1) (L,frN w nm253 (upd (upd (upd ks 3 t) 4 (t+1)) 5 (t+2)) [V0,V1,(.ref x),(.int p tp),(.str c tl),(.ref e)]) ((n+2),fldO "StopIteration" [(.ref (n+1)),.none,.none,.none,(.bool false),.none]) (it,fldO "list_iterator" f2) (x,insO 230 dx) (L,frN w nm253 ks [V0,V1,(.ref x)]) (n,fldO "tuple_iterator" [.none,(.int 3 0)]) (it,fldO "list_iterator" f1) (loopC (stAt (bodyOf (fdAt w 253)) 1) (.ref it) (envAt w 253 L)):=by walk_at "r"
theorem run1_l:∀(w:World) (n t s1 t1 L it a e x dx th l tp tl:Nat) (ks:Nat→Nat) (V0 V1 V3 V4 V5:Value) (p:Int) (c:Str) (f1 f2:List Value) (rest rest1:List (Nat×Obj)),(fun(A B C D E F H I:Nat×Obj) (G:Code)=>Good w G [(a,tupO [(.int p tp),(.str c tl),(.ref e)])] ⟨I::C::F::A::rest,n,t⟩ [1,1,1,1001,1001,1001,0,1001,1,1,0,1,1,1,1001,1,1,1,0,1,1,1,1001,1,1,1,0,1,1,1,1001,1,1,1,0,1,1,1,1001,1,1,1,5,5,5,5,5,5,5,6,0,0,0,6,0,0,0,6,0,0,0,0,6,7,5,0,1] [.at (.call (.builtin "list_iterator.__next__") ⟨[(.ref it)],[]⟩) ⟨I::C::F::A::rest,n,t⟩ (.ok (.ret (.ref a))) ⟨E::C::F::A::rest,n,t⟩,.at (.call (.ref 220) ⟨[(.ref x),(.str c tl),(.str (sO ".") (t+3))],[]⟩) ⟨D::((n+1),tupO [])::H::E::B::F::A::rest,(n+3),(t+4)⟩ (.ok (.ret (.str (sO ".") (t+3)))) ⟨D::((n+1),tupO [])::H::E::B::F::A::rest1,s1,t1⟩] (.ok (.again G)) [3,4,5,6] 7 ⟨E::B::F::A::rest1,s1,t1⟩) (dx,dctO [ez w.params (sO "_headers") th (.ref l)] 1) (L,frN w nm253 ks [V0,V1,(.ref x),(.int p tp),(.str c tl),(.ref e)]) (L,frN w nm253 ks [V0,V1,(.ref x),V3,V4,V5]) ((n+2),fldO "StopIteration" [(.ref (n+1)),.none,.none,.none,(.bool false),.none]) (it,fldO "list_iterator" f2) (x,insO 230 dx) (n,fldO "tuple_iterator" [.none,(.int 3 0)]) (it,fldO "list_iterator" f1) (loopC (stAt (bodyOf (fdAt w 253)) 1) (.ref it) (envAt w 253 L)):=by walk_at "r"
theorem run3_f0:∀(w:World) (n t s1 t1 s2 t2 L it a e x dx th l jx jd tc cl tz tp tl tv g:Nat) (ks:Nat→Nat) (V0 V1 V3 V4 V5 V7 V11 V12 V13 V14:Value) (p v:Int) (c:Str) (f1 f2:List Value) (rest:List (Nat×Obj)),(fun(A B C D E G H I:Nat×Obj) (F:Code)=>Good w F [(a,tupO [(.int p tp),(.str c tl),(.ref e)]),(e,tupO [(.int v tv),V11,V12,V13,V14]),(jx,insO 62 jd),(jd,dctO [ez w.params (sO "comp_select_list") tc (.ref cl)] 1)] ⟨I::B::G::A::rest,n,t⟩ [1,1,1,1001,1001,1001,0,1001,1,1,0,1,1,1,1001,1,1,1,0,1,1,1,1001,1,1,1,0,1,1,1,1001,1,1,1,0,1,1,1,1001,1,1,1,5,5,5,5,5,5,5,1002,1002,1002,0,1002,1002,1,0,0,5,6,0,0,0,6,0,0,0,6,0,0,0,0,6,7,5,0,1,1,1,5,5,6,6,6,6,6,6] [.at (.call (.builtin "list_iterator.__next__") ⟨[(.ref it)],[]⟩) ⟨I::B::G::A::rest,n,t⟩ (.ok (.ret (.ref a))) ⟨E::B::G::A::rest,n,t⟩,.any (.call (.builtin "int.__mul__") ⟨[(.int v tv),(.int 60 (t+4))],[]⟩) (aInt (v*60)),.at (.call (.ref 177) ⟨[(.ref x),(.str c tl)],[]⟩) ⟨D::((n+1),tupO [])::H::E::C::G::A::rest,(n+3),(t+6)⟩ (.ok (.ret (.str (dS g) tz))) ⟨D::((n+1),tupO [])::H::E::C::G::A::rest,s1,t1⟩,.any (.call (.builtin "len") ⟨[(.str (dS g) tz)],[]⟩) (aLen g),.any (.call (.builtin "int.__floordiv__") ⟨[(.int (v*60) (t+5)),(.int g (t1+1))],[]⟩) (aInt ((v*60).fdiv g))] (.ok (.again F)) [0,4,5,6,7] 8 ⟨(s1,tupO [(.int ((v*60).fdiv g) (t1+2)),(.int p tp),(.str c tl)])::E::(L,frN w nm253 (upd ks 9 (t1+3)) [V0,V1,(.ref x),(.int p tp),(.str c tl),(.ref e),(.ref jx),V7,(.ref s1),(.ref s1)])::G::A::rest,(s1+1),(t1+5)⟩) (dx,dctO [ez w.params (sO "_headers") th (.ref l)] 1) (L,frN w nm253 ks [V0,V1,(.ref x),V3,V4,V5,(.ref jx),V7,.none]) (L,frN w nm253 ks [V0,V1,(.ref x),(.int p tp),(.str c tl),(.ref e),(.ref jx),V7,.none]) ((n+2),fldO "StopIteration" [(.ref (n+1)),.none,.none,.none,(.bool false),.none]) (it,fldO "list_iterator" f2) (x,insO 230 dx) (n,fldO "tuple_iterator" [.none,(.int 3 0)]) (it,fldO "list_iterator" f1) (loopC (stAt (forB (stAt (bodyOf (fdAt w 253)) 3)) 1) (.ref it) (envAt w 253 L)):=by walk_at "r"
theorem run3_w1:∀(w:World) (n t s1 t1 s2 t2 L it a e x dx th l jx jd tc cl tz tp tl tv g bb u:Nat) (ks:Nat→Nat) (V0 V1 V3 V4 V5 V7 V9 V11 V12 V13 V14:Value) (p v:Int) (c:Str) (f1 f2:List Value) (O3:Obj) (rest:List (Nat×Obj)),(fun(A B C D E F G H I K M:Nat×Obj) (J:Code)=>Good w J [(a,tupO [(.int p tp),(.str c tl),(.ref e)]),(e,tupO [(.int v tv),V11,V12,V13,V14]),(jx,insO 62 jd),(jd,dctO [ez w.params (sO "comp_select_list") tc (.ref cl)] 1)] ⟨M::C::(bb,O3)::H::A::rest,n,t⟩ [1,1,1,1001,1001,1001,0,1001,1,1,0,1,1,1,1001,1,1,1,0,1,1,1,1001,1,1,1,0,1,1,1,1001,1,1,1,0,1,1,1,1001,1,1,1,5,5,5,5,5,5,5,1002,1002,1002,0,1002,1002,1,0,0,5,7,0,0,0,7,0,0,0,7,0,0,0,0,7,8,5,0,1,1,1,5,5,6,6,6,6,1003,0,0,0,1003,0,0,0,1003,0,0,0,0,1003,1004,6,6,0,1,0,6,6,6] [.at (.call (.builtin "list_iterator.__next__") ⟨[(.ref it)],[]⟩) ⟨M::C::(bb,O3)::H::A::rest,n,t⟩ (.ok (.ret (.ref a))) ⟨E::C::(bb,O3)::H::A::rest,n,t⟩,.any (.call (.builtin "int.__mul__") ⟨[(.int v tv),(.int 60 (t+4))],[]⟩) (aInt (v*60)),.at (.call (.ref 177) ⟨[(.ref x),(.str c tl)],[]⟩) ⟨B::K::F::E::I::(bb,O3)::H::A::rest,(n+3),(t+6)⟩ (.ok (.ret (.str (dS g) tz))) ⟨B::K::F::E::I::(bb,O3)::H::A::rest,s1,t1⟩,.any (.call (.builtin "len") ⟨[(.str (dS g) tz)],[]⟩) (aLen g),.any (.call (.builtin "int.__floordiv__") ⟨[(.int (v*60) (t+5)),(.int g (t1+1))],[]⟩) (aInt ((v*60).fdiv g)),.at (.call (.ref 59) ⟨[(.ref jx),(.ref s1),(.ref bb)],[]⟩) ⟨D::B::K::F::E::G::(bb,O3)::H::A::rest,(s1+1),(t1+4)⟩ (.ok (.ret (.int (-1) u))) ⟨D::B::K::F::E::G::(bb,O3)::H::A::rest,s2,t2⟩] (.ok (.again J)) [0,4,5,7,8] 9 ⟨D::E::(L,frN w nm253 ks [V0,V1,(.ref x),(.int p tp),(.str c tl),(.ref e),(.ref jx),V7,(.ref s1),(.ref s1)])::H::A::rest,s2,(t2+2)⟩) (dx,dctO [ez w.params (sO "_headers") th (.ref l)] 1) ((n+2),fldO "StopIteration" [(.ref (n+1)),.none,.none,.none,(.bool false),.none]) (L,frN w nm253 ks [V0,V1,(.ref x),V3,V4,V5,(.ref jx),V7,(.ref bb),V9]) (s1,tupO [(.int ((v*60).fdiv g) (t1+2)),(.int p tp),(.str c tl)]) (it,fldO "list_iterator" f2) (n,fldO "tuple_iterator" [.none,(.int 3 0)]) (L,frN w nm253 ks [V0,V1,(.ref x),(.int p tp),(.str c tl),(.ref e),(.ref jx),V7,(.ref bb),(.ref s1)]) (x,insO 230 dx) (L,frN w nm253 ks [V0,V1,(.ref x),(.int p tp),(.str c tl),(.ref e),(.ref jx),V7,(.ref bb),V9]) ((n+1),tupO []) (it,fldO "list_iterator" f1) (loopC (stAt (forB (stAt (bodyOf (fdAt w 253)) 3)) 1) (.ref it) (envAt w 253 L)):=by walk_at "r"
theorem run3_l1:∀(w:World) (n t s1 t1 s2 t2 L it a e x dx th l jx jd tc cl tz tp tl tv g bb u:Nat) (ks:Nat→Nat) (V0 V1 V3 V4 V5 V7 V9 V11 V12 V13 V14:Value) (p v:Int) (c:Str) (f1 f2:List Value) (O3:Obj) (rest:List (Nat×Obj)),(fun(A B C D E F G H J K M:Nat×Obj) (I:Code)=>Good w I [(a,tupO [(.int p tp),(.str c tl),(.ref e)]),(e,tupO [(.int v tv),V11,V12,V13,V14]),(jx,insO 62 jd),(jd,dctO [ez w.params (sO "comp_select_list") tc (.ref cl)] 1)] ⟨M::D::(bb,O3)::G::A::rest,n,t⟩ [1,1,1,1001,1001,1001,0,1001,1,1,0,1,1,1,1001,1,1,1,0,1,1,1,1001,1,1,1,0,1,1,1,1001,1,1,1,0,1,1,1,1001,1,1,1,5,5,5,5,5,5,5,1002,1002,1002,0,1002,1002,1,0,0,5,7,0,0,0,7,0,0,0,7,0,0,0,0,7,8,5,0,1,1,1,5,5,6,6,6,6,1003,0,0,0,1003,0,0,0,1003,0,0,0,0,1003,1004,6,6,0,1,0] [.at (.call (.builtin "list_iterator.__next__") ⟨[(.ref it)],[]⟩) ⟨M::D::(bb,O3)::G::A::rest,n,t⟩ (.ok (.ret (.ref a))) ⟨E::D::(bb,O3)::G::A::rest,n,t⟩,.any (.call (.builtin "int.__mul__") ⟨[(.int v tv),(.int 60 (t+4))],[]⟩) (aInt (v*60)),.at (.call (.ref 177) ⟨[(.ref x),(.str c tl)],[]⟩) ⟨B::K::F::E::H::(bb,O3)::G::A::rest,(n+3),(t+6)⟩ (.ok (.ret (.str (dS g) tz))) ⟨B::K::F::E::H::(bb,O3)::G::A::rest,s1,t1⟩,.any (.call (.builtin "len") ⟨[(.str (dS g) tz)],[]⟩) (aLen g),.any (.call (.builtin "int.__floordiv__") ⟨[(.int (v*60) (t+5)),(.int g (t1+1))],[]⟩) (aInt ((v*60).fdiv g)),.at (.call (.ref 59) ⟨[(.ref jx),(.ref s1),(.ref bb)],[]⟩) ⟨J::B::K::F::E::C::(bb,O3)::G::A::rest,(s1+1),(t1+4)⟩ (.ok (.ret (.int 1 u))) ⟨J::B::K::F::E::C::(bb,O3)::G::A::rest,s2,t2⟩] (.ok (.again I)) [4,5,6,7,8] 9 ⟨E::C::(bb,O3)::G::A::rest,s2,(t2+1)⟩) (dx,dctO [ez w.params (sO "_headers") th (.ref l)] 1) ((n+2),fldO "StopIteration" [(.ref (n+1)),.none,.none,.none,(.bool false),.none]) (L,frN w nm253 ks [V0,V1,(.ref x),(.int p tp),(.str c tl),(.ref e),(.ref jx),V7,(.ref bb),(.ref s1)]) (L,frN w nm253 ks [V0,V1,(.ref x),V3,V4,V5,(.ref jx),V7,(.ref bb),V9]) (it,fldO "list_iterator" f2) (n,fldO "tuple_iterator" [.none,(.int 3 0)]) (x,insO 230 dx) (L,frN w nm253 ks [V0,V1,(.ref x),(.int p tp),(.str c tl),(.ref e),(.ref jx),V7,(.ref bb),V9]) (s1,tupO [(.int ((v*60).fdiv g) (t1+2)),(.int p tp),(.str c tl)]) ((n+1),tupO []) (it,fldO "list_iterator" f1) (loopC (stAt (forB (stAt (bodyOf (fdAt w 253)) 3)) 1) (.ref it) (envAt w 253 L)):=by walk_at "r"
theorem run3_f2:∀(w:World) (n t s1 t1 s2 t2 L it a e x dx th l jx jd tc cl tz tp tl tv g:Nat) (ks:Nat→Nat) (V0 V1 V3 V4 V5 V7 V9 V10 V11 V12 V13 V14:Value) (p v:Int) (c:Str) (f1 f2:List Value) (rest:List (Nat×Obj)),(fun(A B C D E G H I:Nat×Obj) (F:Code)=>Good w F [(a,tupO [(.int p tp),(.str c tl),(.ref e)]),(e,tupO [(.int v tv),V11,V12,V13,V14]),(jx,insO 62 jd),(jd,dctO [ez w.params (sO "comp_select_list") tc (.ref cl)] 1)] ⟨I::B::G::A::rest,n,t⟩ [1,1,1,1001,1001,1001,0,1001,1,1,0,1,1,1,1001,1,1,1,0,1,1,1,1001,1,1,1,0,1,1,1,1001,1,1,1,0,1,1,1,1001,1,1,1,5,5,5,5,5,5,5,1002,1002,1002,0,1002,1002,1,0,0,5,6,0,0,0,6,0,0,0,6,0,0,0,0,6,7,5,0,1,1,1,5,5,6,6,6,6,6,6] [.at (.call (.builtin "list_iterator.__next__") ⟨[(.ref it)],[]⟩) ⟨I::B::G::A::rest,n,t⟩ (.ok (.ret (.ref a))) ⟨E::B::G::A::rest,n,t⟩,.any (.call (.builtin "int.__mul__") ⟨[(.int v tv),(.int 60 (t+4))],[]⟩) (aInt (v*60)),.at (.call (.ref 177) ⟨[(.ref x),(.str c tl)],[]⟩) ⟨D::((n+1),tupO [])::H::E::C::G::A::rest,(n+3),(t+6)⟩ (.ok (.ret (.str (dS g) tz))) ⟨D::((n+1),tupO [])::H::E::C::G::A::rest,s1,t1⟩,.any (.call (.builtin "len") ⟨[(.str (dS g) tz)],[]⟩) (aLen g),.any (.call (.builtin "int.__floordiv__") ⟨[(.int (v*60) (t+5)),(.int g (t1+1))],[]⟩) (aInt ((v*60).fdiv g))] (.ok (.again F)) [0,4,5,6,7] 8 ⟨(s1,tupO [(.int ((v*60).fdiv g) (t1+2)),(.int p tp),(.str c tl)])::E::(L,frN w nm253 ks [V0,V1,(.ref x),(.int p tp),(.str c tl),(.ref e),(.ref jx),V7,(.ref s1),(.ref s1),V10])::G::A::rest,(s1+1),(t1+5)⟩) (dx,dctO [ez w.params (sO "_headers") th (.ref l)] 1) (L,frN w nm253 ks [V0,V1,(.ref x),V3,V4,V5,(.ref jx),V7,.none,V9,V10]) (L,frN w nm253 ks [V0,V1,(.ref x),(.int p tp),(.str c tl),(.ref e),(.ref jx),V7,.none,V9,V10]) ((n+2),fldO "StopIteration" [(.ref (n+1)),.none,.none,.none,(.bool false),.none]) (it,fldO "list_iterator" f2) (x,insO 230 dx) (n,fldO "tuple_iterator" [.none,(.int 3 0)]) (it,fldO "list_iterator" f1) (loopC (stAt (forB (stAt (bodyOf (fdAt w 253)) 3)) 1) (.ref it) (envAt w 253 L)):=by walk_at "r"
theorem run3_w2:∀(w:World) (n t s1 t1 s2 t2 L it a e x dx th l jx jd tc cl tz tp tl tv g bb u:Nat) (ks:Nat→Nat) (V0 V1 V3 V4 V5 V7 V9 V10 V11 V12 V13 V14:Value) (p v:Int) (c:Str) (f1 f2:List Value) (O3:Obj) (rest:List (Nat×Obj)),(fun(A B C D E F G H I K M:Nat×Obj) (J:Code)=>Good w J [(a,tupO [(.int p tp),(.str c tl),(.ref e)]),(e,tupO [(.int v tv),V11,V12,V13,V14]),(jx,insO 62 jd),(jd,dctO [ez w.params (sO "comp_select_list") tc (.ref cl)] 1)] ⟨M::C::(bb,O3)::I::A::rest,n,t⟩ [1,1,1,1001,1001,1001,0,1001,1,1,0,1,1,1,1001,1,1,1,0,1,1,1,1001,1,1,1,0,1,1,1,1001,1,1,1,0,1,1,1,1001,1,1,1,5,5,5,5,5,5,5,1002,1002,1002,0,1002,1002,1,0,0,5,7,0,0,0,7,0,0,0,7,0,0,0,0,7,8,5,0,1,1,1,5,5,6,6,6,6,1003,0,0,0,1003,0,0,0,1003,0,0,0,0,1003,1004,6,6,0,1,0,6,6,6] [.at (.call (.builtin "list_iterator.__next__") ⟨[(.ref it)],[]⟩) ⟨M::C::(bb,O3)::I::A::rest,n,t⟩ (.ok (.ret (.ref a))) ⟨E::C::(bb,O3)::I::A::rest,n,t⟩,.any (.call (.builtin "int.__mul__") ⟨[(.int v tv),(.int 60 (t+4))],[]⟩) (aInt (v*60)),.at (.call (.ref 177) ⟨[(.ref x),(.str c tl)],[]⟩) ⟨B::K::F::E::H::(bb,O3)::I::A::rest,(n+3),(t+6)⟩ (.ok (.ret (.str (dS g) tz))) ⟨B::K::F::E::H::(bb,O3)::I::A::rest,s1,t1⟩,.any (.call (.builtin "len") ⟨[(.str (dS g) tz)],[]⟩) (aLen g),.any (.call (.builtin "int.__floordiv__") ⟨[(.int (v*60) (t+5)),(.int g (t1+1))],[]⟩) (aInt ((v*60).fdiv g)),.at (.call (.ref 59) ⟨[(.ref jx),(.ref s1),(.ref bb)],[]⟩) ⟨D::B::K::F::E::G::(bb,O3)::I::A::rest,(s1+1),(t1+4)⟩ (.ok (.ret (.int (-1) u))) ⟨D::B::K::F::E::G::(bb,O3)::I::A::rest,s2,t2⟩] (.ok (.again J)) [0,4,5,7,8] 9 ⟨D::E::(L,frN w nm253 ks [V0,V1,(.ref x),(.int p tp),(.str c tl),(.ref e),(.ref jx),V7,(.ref s1),(.ref s1),V10])::I::A::rest,s2,(t2+2)⟩) (dx,dctO [ez w.params (sO "_headers") th (.ref l)] 1) ((n+2),fldO "StopIteration" [(.ref (n+1)),.none,.none,.none,(.bool false),.none]) (L,frN w nm253 ks [V0,V1,(.ref x),V3,V4,V5,(.ref jx),V7,(.ref bb),V9,V10]) (s1,tupO [(.int ((v*60).fdiv g) (t1+2)),(.int p tp),(.str c tl)]) (it,fldO "list_iterator" f2) (n,fldO "tuple_iterator" [.none,(.int 3 0)]) (L,frN w nm253 ks [V0,V1,(.ref x),(.int p tp),(.str c tl),(.ref e),(.ref jx),V7,(.ref bb),(.ref s1),V10]) (L,frN w nm253 ks [V0,V1,(.ref x),(.int p tp),(.str c tl),(.ref e),(.ref jx),V7,(.ref bb),V9,V10]) (x,insO 230 dx) ((n+1),tupO []) (it,fldO "list_iterator" f1) (loopC (stAt (forB (stAt (bodyOf (fdAt w 253)) 3)) 1) (.ref it) (envAt w 253 L)):=by walk_at "r"
theorem run3_l2:∀(w:World) (n t s1 t1 s2 t2 L it a e x dx th l jx jd tc cl tz tp tl tv g bb u:Nat) (ks:Nat→Nat) (V0 V1 V3 V4 V5 V7 V9 V10 V11 V12 V13 V14:Value) (p v:Int) (c:Str) (f1 f2:List Value) (O3:Obj) (rest:List (Nat×Obj)),(fun(A B C D E F G H J K M:Nat×Obj) (I:Code)=>Good w I [(a,tupO [(.int p tp),(.str c tl),(.ref e)]),(e,tupO [(.int v tv),V11,V12,V13,V14]),(jx,insO 62 jd),(jd,dctO [ez w.params (sO "comp_select_list") tc (.ref cl)] 1)] ⟨M::D::(bb,O3)::H::A::rest,n,t⟩ [1,1,1,1001,1001,1001,0,1001,1,1,0,1,1,1,1001,1,1,1,0,1,1,1,1001,1,1,1,0,1,1,1,1001,1,1,1,0,1,1,1,1001,1,1,1,5,5,5,5,5,5,5,1002,1002,1002,0,1002,1002,1,0,0,5,7,0,0,0,7,0,0,0,7,0,0,0,0,7,8,5,0,1,1,1,5,5,6,6,6,6,1003,0,0,0,1003,0,0,0,1003,0,0,0,0,1003,1004,6,6,0,1,0] [.at (.call (.builtin "list_iterator.__next__") ⟨[(.ref it)],[]⟩) ⟨M::D::(bb,O3)::H::A::rest,n,t⟩ (.ok (.ret (.ref a))) ⟨E::D::(bb,O3)::H::A::rest,n,t⟩,.any (.call (.builtin "int.__mul__") ⟨[(.int v tv),(.int 60 (t+4))],[]⟩) (aInt (v*60)),.at (.call (.ref 177) ⟨[(.ref x),(.str c tl)],[]⟩) ⟨B::K::F::E::G::(bb,O3)::H::A::rest,(n+3),(t+6)⟩ (.ok (.ret (.str (dS g) tz))) ⟨B::K::F::E::G::(bb,O3)::H::A::rest,s1,t1⟩,.any (.call (.builtin "len") ⟨[(.str (dS g) tz)],[]⟩) (aLen g),.any (.call (.builtin "int.__floordiv__") ⟨[(.int (v*60) (t+5)),(.int g (t1+1))],[]⟩) (aInt ((v*60).fdiv g)),.at (.call (.ref 59) ⟨[(.ref jx),(.ref s1),(.ref bb)],[]⟩) ⟨J::B::K::F::E::C::(bb,O3)::H::A::rest,(s1+1),(t1+4)⟩ (.ok (.ret (.int 1 u))) ⟨J::B::K::F::E::C::(bb,O3)::H::A::rest,s2,t2⟩] (.ok (.again I)) [4,5,6,7,8] 9 ⟨E::C::(bb,O3)::H::A::rest,s2,(t2+1)⟩) (dx,dctO [ez w.params (sO "_headers") th (.ref l)] 1) ((n+2),fldO "StopIteration" [(.ref (n+1)),.none,.none,.none,(.bool false),.none]) (L,frN w nm253 ks [V0,V1,(.ref x),(.int p tp),(.str c tl),(.ref e),(.ref jx),V7,(.ref bb),(.ref s1),V10]) (L,frN w nm253 ks [V0,V1,(.ref x),V3,V4,V5,(.ref jx),V7,(.ref bb),V9,V10]) (it,fldO "list_iterator" f2) (n,fldO "tuple_iterator" [.none,(.int 3 0)]) (L,frN w nm253 ks [V0,V1,(.ref x),(.int p tp),(.str c tl),(.ref e),(.ref jx),V7,(.ref bb),V9,V10]) (x,insO 230 dx) (s1,tupO [(.int ((v*60).fdiv g) (t1+2)),(.int p tp),(.str c tl)]) ((n+1),tupO []) (it,fldO "list_iterator" f1) (loopC (stAt (forB (stAt (bodyOf (fdAt w 253)) 3)) 1) (.ref it) (envAt w 253 L)):=by walk_at "r"
noncomputable def old3 (V9 V10:Value):Bool→List Value
 | true=>[V9,V10]
 | false=>[]
noncomputable def told3 (V10:Value):Bool→Option Value
 | true=>some V10
 | false=>none
noncomputable def fr2 (V7 V8 V9 V10:Value):Nat→List Value
 | 0=>[]
 | _+1=>[V7,V8,V9,V10]
noncomputable def ol:Nat→Bool
 | 0=>false
 | _+1=>true
noncomputable def kq (i:Nat) (ks:Nat→Nat) (t:Nat):Nat→Nat:=match i with
 | 0=>upd (upd ks 7 (t+1)) 8 (t+2)
 | _+1=>ks
noncomputable def kr (i:Nat) (ks:Nat→Nat) (t:Nat):Nat→Nat:=match i with
 | 0=>upd ks 10 (t+14)
 | _+1=>ks
noncomputable abbrev Run2T (i:Nat) (nm:Str→Str) (tk:Nat→Nat→Nat):Prop:=∀(w:World) (n t s1 t1 s2 t2 s3 t3 s4 t4 L it la le l2 ep2 x dx th l bb tq tp tl tz g:Nat) (ks ks2:Nat→Nat) (V1 V3 V4 V5 V6 V7 V8 V9 V10 V11 V12 V13 V14:Value) (p q:Int) (c:Str) (f1 f2 vs vt:List Value) (rest rest1 rest2:List (Nat×Obj)),(fun(A B C D E F G H I J K N O:Nat×Obj) (M:Code)=>Good w M [(la,lstO vs le)] ⟨O::J::H::A::rest,n,t⟩ [1,1,2,2,2,2,2,0,1001,1001,1001,1,1,1,0,1,1,1,0,1,4,0,0,0,4,0,0,0,4,0,0,0,0,4,5,1,2,2,2,0,2,2,0,1,2,1,1,1,1,0,1,1,0,1,0,1,2,2,2,0,1,3,3,4,4,4,0,4,4,3,4,4,4,0,4,4,1,4,1,1,1,1,0,1,1,0,7,0,7,0,0,0,0,1] [.at (.call (.builtin "range_iterator.__next__") ⟨[(.ref it)],[]⟩) ⟨O::J::H::A::rest,n,t⟩ (.ok (.ret (.int (i:Int) t))) ⟨C::J::H::A::rest,n,(t+1)⟩,.at (.call (.builtin "list.__getitem__") ⟨[(.ref la),(.ref n)],[]⟩) ⟨K::C::G::H::A::rest,(n+1),(t+5)⟩ (.ok (.ret (.ref l2))) ⟨(l2,lstO vt ep2)::K::C::G::H::A::rest,s1,t1⟩,.at (loopC (stAt (forB (stAt (bodyOf (fdAt w 253)) 3)) 1) (.ref s1) (envAt w 253 L)) ⟨(s1,fldO "list_iterator" [(.ref l2),(.int 0 0)])::(l2,lstO vt ep2)::K::C::G::H::A::rest,(s1+1),t1⟩ (.ok .next) ⟨F::D::C::H::A::rest1,s2,t2⟩,.at (.call (.ref 177) ⟨[(.ref x),(.str c tl)],[]⟩) ⟨F::D::C::H::A::rest1,s2,(t2+1)⟩ (.ok (.ret (.str (dS g) tz))) ⟨F::D::C::H::A::rest1,s3,t3⟩,.any (.call (.builtin "int.__mod__") ⟨[(.int (i:Int) t),(.int 3 (t3+3))],[]⟩) (aInt ((i:Int).fmod 3)),.any (.call (.builtin "str.__add__") ⟨[(.str (dS g) tz),(.str (sepS (i % 3)) (t3+i % 3))],[]⟩) (aStr (dP g (i % 3))),.any (.call (.ref 97) ⟨[(.str (dP g (i % 3)) (t3+5))],[]⟩) (aQuo (dE (g+1))),.at (.call (.builtin "str.__getitem__") ⟨[(.str (dE (g+1)) (t3+13)),(.ref (s3+4))],[]⟩) ⟨I::E::B::D::C::H::A::rest1,(s3+5),(t3+17)⟩ (.ok (.ret (.str (dS (g+1)) (t3+17)))) ⟨I::E::B::D::C::H::A::rest1,(s3+5),(t3+18)⟩,.any (.call (.builtin "str.upper") ⟨[(.str c tl)],[]⟩) (aStr (upS c)),.any (.call (.builtin "int.__mod__") ⟨[(.int (i:Int) t),(.int 2 (t3+21))],[]⟩) (aInt ((i:Int).fmod 2)),.at (.call (.ref 143) ⟨[(.ref x),(.str (nm c) (tk tl t3)),(.str (dS (g+1)) (t3+17))],[]⟩) ⟨N::I::E::B::D::C::H::A::rest1,(s3+6),(t3+23)⟩ (.ok (.ret .none)) ⟨N::I::E::B::D::C::H::A::rest2,s4,t4⟩] (.ok (.again M)) [3,5,6,7] 8 ⟨B::C::H::A::rest2,s4,t4⟩) (dx,dctO [ez w.params (sO "_headers") th (.ref l)] 1) (L,frN w nm253 (kr i ks2 t3) [(.ref la),V1,(.ref x),V11,V12,V13,V6,(.int (i:Int) t),(.ref bb),V14,(.str (dE (g+1)) (t3+13))]) (it,fldO "range_iterator" f2) (bb,tupO [(.int q tq),(.int p tp),(.str c tl)]) (s3,lstO [(.str (sO "\n") t3),(.str (sO "\x0d") (t3+1)),(.str (sO "\x0d\n") (t3+2))] 0) (L,frN w nm253 ks2 ([(.ref la),V1,(.ref x),V11,V12,V13,V6,(.int (i:Int) t),(.ref bb),V14]++(told3 V10 (ol i)).toList)) (L,frN w nm253 (kq i ks t) ([(.ref la),V1,(.ref x),V3,V4,V5,V6,(.int (i:Int) t),.none]++old3 V9 V10 (ol i))) (x,insO 230 dx) ((s3+4),fldO "slice" [.none,(.int (-2) (t3+16)),.none]) (L,frN w nm253 ks ([(.ref la),V1,(.ref x),V3,V4,V5,V6]++fr2 V7 V8 V9 V10 i)) (n,fldO "slice" [.none,.none,(.int (-1) (t+4))]) ((s3+5),lstO [(.str c tl),(.str (upS c) (t3+20))] 0) (it,fldO "range_iterator" f1) (loopC (stAt (bodyOf (fdAt w 253)) 3) (.ref it) (envAt w 253 L))
theorem run2_t0:Run2T 0 (fun c=>c) (fun tl _=>tl):=by walk_at "r"
theorem run2_t1:Run2T 1 (fun c=>upS c) (fun _ t=>t+20):=by walk_at "r"
theorem run2_t2:Run2T 2 (fun c=>c) (fun tl _=>tl):=by walk_at "r"
theorem run2_t3:Run2T 3 (fun c=>upS c) (fun _ t=>t+20):=by walk_at "r"
theorem run2_t4:Run2T 4 (fun c=>c) (fun tl _=>tl):=by walk_at "r"
theorem run2_t5:Run2T 5 (fun c=>upS c) (fun _ t=>t+20):=by walk_at "r"
noncomputable def ltr:Nat→Str
 | 0=>sO "a"
 | 1=>sO "b"
 | 2=>sO "c"
 | _=>sO "d"
theorem ltr_is (p:Nat):ltr p=sO "a"∨ltr p=sO "b"∨ltr p=sO "c"∨ltr p=sO "d":=by
 unfold ltr;split<;>simp
structure Li where
 a:Nat
 tp:Nat
 tl:Nat
 e:Nat
 tv:Nat
 p:Nat
 v:Nat
 V1:Value
 V2:Value
 V3:Value
 V4:Value
structure LisIn (h:Heap) (la le:Nat) (ls:List Li):Prop where
 l:h.get? la=some (lstO ((ls.map (·.a)).map .ref) le)
 t:∀ y∈ls,h.get? y.a=some (tupO [.int y.p y.tp,.str (ltr y.p) y.tl,.ref y.e])
 e:∀ y∈ls,h.get? y.e=some (tupO [.int y.v y.tv,y.V1,y.V2,y.V3,y.V4])
theorem LisIn.keeps {h h':Heap} {la le:Nat} {ls:List Li} (H:LisIn h la le ls) (K:Keeps h h'):LisIn h' la le ls :=
 ⟨K _ _ H.l,fun y hy=>K _ _ (H.t y hy),fun y hy=>K _ _ (H.e y hy)⟩
noncomputable def scan (g:Nat→Nat):List (Nat×Nat)→Nat×Nat→Nat×Nat
 | [],b=>b
 | (p,v)::r,b=>if b.1≤v*60 / g p then scan g r (v*60 / g p,p) else scan g r b
theorem divpy (x:Int):∀ {g:Nat},1≤g→g≤7→¬ Builtin.divisionGoesByPylong x (g:Int)=true
 | 1,_,_ | 2,_,_ | 3,_,_ | 4,_,_ | 5,_,_ | 6,_,_ | 7,_,_=>fun h=>by
  unfold Builtin.divisionGoesByPylong at h
  dsimp only at h
  have:=(Bool.and_eq_true_iff.mp h).1
  revert this;decide
 | g+8,_,h=>by omega
theorem fdiv_nat (v g:Nat):((v:Int)*60).fdiv g=((v*60 / g:Nat):Int):=by
 have e:((v:Int)*60)=((v*60:Nat):Int):=by omega
 rw [e]
 exact (Int.ofNat_fdiv _ _).symm
noncomputable abbrev S31 (w:World):Stmt:=stAt (forB (stAt (bodyOf (fdAt w 253)) 3)) 1
noncomputable abbrev S3 (w:World):Stmt:=stAt (bodyOf (fdAt w 253)) 3
noncomputable abbrev S1' (w:World):Stmt:=stAt (bodyOf (fdAt w 253)) 1
noncomputable def GetOk (w:World) (os:OsState) (k:Nat) (x dx th l ep:Nat) (hs:List Hd) (g:Nat→Nat) (p:Nat):Prop :=
 ∀ tl,∃ d e tz,∀ h,Base w h→∀ n t,Spec w h os k (.call (.ref 177) ⟨[.ref x,.str (ltr p) tl],[]⟩) ⟨tabC w x dx th l ep hs,n,t⟩ (.ok (.ret (.str (dS (g p)) tz))) ⟨tabC w x dx th l ep hs,n+d,t+e⟩
section
variable {w:World} {os:OsState}
theorem in3 {k:Nat} (hk:k≤140) (L it l2 e2 la le x dx th l ep jx jd cl c0 c1 tc ce u0 u1 u2 u3:Nat) (V0 V1 V7:Value) (told:Option Value) (hs:List Hd) (g:Nat→Nat) (ls:List Li) (rs:List Nat)
  (hr2:2≤rs.length) (hr6:rs.length≤6)
  (hg:∀ y∈ls,1≤g y.p∧g y.p≤7) (hG:∀ y∈ls,GetOk w os (k+21) x dx th l ep hs g y.p) :
  ∀(xs:List Li) (i:Nat),(∀ y∈xs,y∈ls)→rs.drop i=xs.map (·.a)→(i+xs.length=rs.length)→xs.Pairwise (fun a b=>b.p < a.p) →
   ∀(ks:Nat→Nat) (V3 V4 V5 V9:Value) (bb q0 p0 tq tp tl n t:Nat),(∀ y∈xs,y.p < p0) →
   ∃(ks':Nat→Nat) (V3' V4' V5' V9':Value) (bb' tq' tp' tl' n' t':Nat),∀(h₀:Heap),Base w h₀→LisIn h₀ la le ls→Facts h₀ (judC w jx jd cl c0 c1 tc ce u0 u1 u2 u3)→h₀.get? l2=some (lstO (rs.map .ref) e2)→Spec w h₀ os k (loopC (S31 w) (.ref it) (envAt w 253 L))
    ⟨(it,fldO "list_iterator" [.ref l2,.int (i:Int) 0])::(L,frN w nm253 ks ([V0,V1,.ref x,V3,V4,V5,.ref jx,V7,.ref bb,V9]++told.toList))::(bb,offO q0 tq p0 tp (ltr p0) tl)::tabC w x dx th l ep hs,n,t⟩ (.ok .next)
    ⟨(L,frN w nm253 ks' ([V0,V1,.ref x,V3',V4',V5',.ref jx,V7,.ref bb',V9']++told.toList))::(bb',offO (scan g (xs.map fun y=>(y.p,y.v)) (q0,p0)).1 tq' (scan g (xs.map fun y=>(y.p,y.v)) (q0,p0)).2 tp' (ltr (scan g (xs.map fun y=>(y.p,y.v)) (q0,p0)).2) tl')::tabC w x dx th l ep hs,n',t'⟩
 | [],i,_,hd,hi,_=>by
  intro ks V3 V4 V5 V9 bb q0 p0 tq tp tl n t _
  refine⟨ks,V3,V4,V5,V9,bb,tq,tp,tl,n+2,t,fun h₀ B hL hJ hl2=>?_⟩
  have hi:i=rs.length:=by simpa using hi
  exact good_h (run3_e w n t (n+2) t L it (n+1) (.ref n) [.ref l2,.int (i:Int) 0] [.none,.int (i:Int) 0] _ _) B facts_nil ⟨midH B (fun h₁ B1 K1 F1=>lne B1 it l2 e2 n t rs i hr2 hr6 (K1 _ _ hl2) hi) rfl rfl,trivial⟩
 | y::xs,i,hm,hd,hi,hp=>by
  intro ks V3 V4 V5 V9 bb q0 p0 tq tp tl n t h0
  have hy:=hm y (.head _)
  obtain⟨d,e,tz,hget⟩:=hG y hy y.tl
  obtain⟨g1,g7⟩:=hg y hy
  have hri:rs[i]?=some y.a:=by
   have:=congrArg (fun l=>l[0]?) hd
   simpa using this
  have hd':rs.drop (i+1)=xs.map (·.a):=by
   have:=congrArg List.tail hd
   simpa using this
  have hi':i+1+xs.length=rs.length:=by rw [List.length_cons] at hi;exact ox3 ‹_›
  have hgz:(g y.p:Int)≠0:=by omega
  have hq:((y.v:Int)*60).fdiv (g y.p)=((y.v*60 / g y.p:Nat):Int):=fdiv_nat _ _
  have hp0:y.p < p0:=h0 y (.head _)
  by_cases hc:q0≤y.v*60 / g y.p
  ·have hsc:scan g ((y::xs).map fun y=>(y.p,y.v)) (q0,p0)=scan g (xs.map fun y=>(y.p,y.v)) (y.v*60 / g y.p,y.p):=by
    show (if q0≤y.v*60 / g y.p then _ else _)=_
    rw [if_pos hc]
   rw [hsc]
   obtain⟨d2,e3,u,hcmp⟩:=cmpW (w:=w) (os:=os) (k:=k+21) (by exact Nat.le_trans (Nat.add_le_add_right ‹_› _) (by decide)) jx jd cl c0 c1 tc ce u0 u1 u2 u3 (n+3+d) bb (t+6+e+2) y.tp y.tl tq tp tl ((y.v:Int)*60 |>.fdiv (g y.p)) y.p q0 p0 (ltr y.p) (ltr p0) (by rw [hq];omega) (n+3+d+1) (t+6+e+4)
   obtain⟨ks',V3',V4',V5',V9',bb',tq',tp',tl',n',t',hnext⟩:=in3 hk L it l2 e2 la le x dx th l ep jx jd cl c0 c1 tc ce u0 u1 u2 u3 V0 V1 V7 told hs g ls rs hr2 hr6 hg hG xs (i+1) (fun z hz=>hm z (.tail _ hz)) hd' hi' (List.pairwise_cons.mp hp).2
    ks (.int y.p y.tp) (.str (ltr y.p) y.tl) (.ref y.e) (.ref (n+3+d)) (n+3+d) (y.v*60 / g y.p) y.p (t+6+e+2) y.tp y.tl (n+3+d+1+d2) (t+6+e+4+e3+2) (fun z hz=>(List.pairwise_cons.mp hp).1 z hz)
   refine⟨ks',V3',V4',V5',V9',bb',tq',tp',tl',n',t',fun h₀ B hL hJ hl2=>?_⟩
   have hnext:=hnext h₀ B hL hJ hl2
   have hro:Facts h₀ [(y.a,tupO [(.int y.p y.tp),(.str (ltr y.p) y.tl),(.ref y.e)]),(y.e,tupO [(.int y.v y.tv),y.V1,y.V2,y.V3,y.V4]),(jx,insO 62 jd),(jd,dctO [ez w.params (sO "comp_select_list") tc (.ref cl)] 1)] :=
    Facts.cons (hL.t y hy) (Facts.cons (hL.e y hy) (hJ.sub fun p hp=>by simp only [judC];simp only [List.mem_cons,List.not_mem_nil,or_false] at hp ⊢;rcases hp with rfl | rfl<;>simp))
   cases told with
   | none =>
    have gR:=run3_w1 w n t (n+3+d) (t+6+e) (n+3+d+1+d2) (t+6+e+4+e3) L it y.a y.e x dx th l jx jd tc cl tz y.tp y.tl y.tv (g y.p) bb u ks V0 V1 V3 V4 V5 V7 V9 y.V1 y.V2 y.V3 y.V4 y.p y.v (ltr y.p) [.ref l2,.int (i:Int) 0] [.ref l2,.int ((i+1:Nat):Int) 0] (offO q0 tq p0 tp (ltr p0) tl) ((l,lstO (hs.map fun h=>.ref h.a) ep)::hs.map Hd.cell)
    refine good_again gR B hro ⟨?_,?_,?_,?_,?_,?_,trivial⟩ ?_
    ·exact midH B (fun h₁ B1 K1 F1=>lnx B1 it l2 e2 n t rs i y.a hr2 hr6 (K1 _ _ hl2) hri) rfl rfl
    ·exact fun m=>mul_ev _ _ _ _ (by decide) m
    ·exact midE B 6 (fun h₁ B1 K1 F1=>hget h₁ B1 _ _) rfl rfl
    ·exact fun m=>len_ev B _ g1 g7 m
    ·exact fun m=>div_ev _ _ _ _ hgz (divpy _ g1 g7) m
    ·exact mid_ B (fun h₁ B1 K1 F1=>hcmp h₁ B1 ((hJ.keeps K1).append (F1.sub fun p hp=>by simp only [List.mem_cons,List.not_mem_nil,or_false] at hp;rcases hp with rfl | rfl<;>simp [offO])))
    ·exact fit [] hnext (fun z=>by simp only [cnt_cons,cnt_tab,cnt_nil,offO,hq,Option.toList,List.append_nil,List.cons_append,List.nil_append];try ac_rfl) (fun _=>rfl)
   | some V10 =>
    have gR:=run3_w2 w n t (n+3+d) (t+6+e) (n+3+d+1+d2) (t+6+e+4+e3) L it y.a y.e x dx th l jx jd tc cl tz y.tp y.tl y.tv (g y.p) bb u ks V0 V1 V3 V4 V5 V7 V9 V10 y.V1 y.V2 y.V3 y.V4 y.p y.v (ltr y.p) [.ref l2,.int (i:Int) 0] [.ref l2,.int ((i+1:Nat):Int) 0] (offO q0 tq p0 tp (ltr p0) tl) ((l,lstO (hs.map fun h=>.ref h.a) ep)::hs.map Hd.cell)
    refine good_again gR B hro ⟨?_,?_,?_,?_,?_,?_,trivial⟩ ?_
    ·exact midH B (fun h₁ B1 K1 F1=>lnx B1 it l2 e2 n t rs i y.a hr2 hr6 (K1 _ _ hl2) hri) rfl rfl
    ·exact fun m=>mul_ev _ _ _ _ (by decide) m
    ·exact midE B 6 (fun h₁ B1 K1 F1=>hget h₁ B1 _ _) rfl rfl
    ·exact fun m=>len_ev B _ g1 g7 m
    ·exact fun m=>div_ev _ _ _ _ hgz (divpy _ g1 g7) m
    ·exact mid_ B (fun h₁ B1 K1 F1=>hcmp h₁ B1 ((hJ.keeps K1).append (F1.sub fun p hp=>by simp only [List.mem_cons,List.not_mem_nil,or_false] at hp;rcases hp with rfl | rfl<;>simp [offO])))
    ·exact fit [] hnext (fun z=>by simp only [cnt_cons,cnt_tab,cnt_nil,offO,hq,Option.toList,List.append_nil,List.cons_append,List.nil_append];try ac_rfl) (fun _=>rfl)
  ·have hsc:scan g ((y::xs).map fun y=>(y.p,y.v)) (q0,p0)=scan g (xs.map fun y=>(y.p,y.v)) (q0,p0):=by
    show (if q0≤y.v*60 / g y.p then _ else _)=_
    rw [if_neg hc]
   rw [hsc]
   obtain⟨d2,e3,u,hcmp⟩:=cmpL (w:=w) (os:=os) (k:=k+21) (by exact Nat.le_trans (Nat.add_le_add_right ‹_› _) (by decide)) jx jd cl c0 c1 tc ce u0 u1 u2 u3 (n+3+d) bb (t+6+e+2) y.tp y.tl tq tp tl ((y.v:Int)*60 |>.fdiv (g y.p)) y.p q0 p0 (ltr y.p) (ltr p0) (by rw [hq];omega) (n+3+d+1) (t+6+e+4)
   obtain⟨ks',V3',V4',V5',V9',bb',tq',tp',tl',n',t',hnext⟩:=in3 hk L it l2 e2 la le x dx th l ep jx jd cl c0 c1 tc ce u0 u1 u2 u3 V0 V1 V7 told hs g ls rs hr2 hr6 hg hG xs (i+1) (fun z hz=>hm z (.tail _ hz)) hd' hi' (List.pairwise_cons.mp hp).2
    ks (.int y.p y.tp) (.str (ltr y.p) y.tl) (.ref y.e) (.ref (n+3+d)) bb q0 p0 tq tp tl (n+3+d+1+d2) (t+6+e+4+e3+1) (fun z hz=>h0 z (.tail _ hz))
   refine⟨ks',V3',V4',V5',V9',bb',tq',tp',tl',n',t',fun h₀ B hL hJ hl2=>?_⟩
   have hnext:=hnext h₀ B hL hJ hl2
   have hro:Facts h₀ [(y.a,tupO [(.int y.p y.tp),(.str (ltr y.p) y.tl),(.ref y.e)]),(y.e,tupO [(.int y.v y.tv),y.V1,y.V2,y.V3,y.V4]),(jx,insO 62 jd),(jd,dctO [ez w.params (sO "comp_select_list") tc (.ref cl)] 1)] :=
    Facts.cons (hL.t y hy) (Facts.cons (hL.e y hy) (hJ.sub fun p hp=>by simp only [judC];simp only [List.mem_cons,List.not_mem_nil,or_false] at hp ⊢;rcases hp with rfl | rfl<;>simp))
   cases told with
   | none =>
    have gR:=run3_l1 w n t (n+3+d) (t+6+e) (n+3+d+1+d2) (t+6+e+4+e3) L it y.a y.e x dx th l jx jd tc cl tz y.tp y.tl y.tv (g y.p) bb u ks V0 V1 V3 V4 V5 V7 V9 y.V1 y.V2 y.V3 y.V4 y.p y.v (ltr y.p) [.ref l2,.int (i:Int) 0] [.ref l2,.int ((i+1:Nat):Int) 0] (offO q0 tq p0 tp (ltr p0) tl) ((l,lstO (hs.map fun h=>.ref h.a) ep)::hs.map Hd.cell)
    refine good_again gR B hro ⟨?_,?_,?_,?_,?_,?_,trivial⟩ ?_
    ·exact midH B (fun h₁ B1 K1 F1=>lnx B1 it l2 e2 n t rs i y.a hr2 hr6 (K1 _ _ hl2) hri) rfl rfl
    ·exact fun m=>mul_ev _ _ _ _ (by decide) m
    ·exact midE B 6 (fun h₁ B1 K1 F1=>hget h₁ B1 _ _) rfl rfl
    ·exact fun m=>len_ev B _ g1 g7 m
    ·exact fun m=>div_ev _ _ _ _ hgz (divpy _ g1 g7) m
    ·exact mid_ B (fun h₁ B1 K1 F1=>hcmp h₁ B1 ((hJ.keeps K1).append (F1.sub fun p hp=>by simp only [List.mem_cons,List.not_mem_nil,or_false] at hp;rcases hp with rfl | rfl<;>simp [offO])))
    ·exact fit [] hnext (fun z=>by simp only [cnt_cons,cnt_tab,cnt_nil,offO,hq,Option.toList,List.append_nil,List.cons_append,List.nil_append];try ac_rfl) (fun _=>rfl)
   | some V10 =>
    have gR:=run3_l2 w n t (n+3+d) (t+6+e) (n+3+d+1+d2) (t+6+e+4+e3) L it y.a y.e x dx th l jx jd tc cl tz y.tp y.tl y.tv (g y.p) bb u ks V0 V1 V3 V4 V5 V7 V9 V10 y.V1 y.V2 y.V3 y.V4 y.p y.v (ltr y.p) [.ref l2,.int (i:Int) 0] [.ref l2,.int ((i+1:Nat):Int) 0] (offO q0 tq p0 tp (ltr p0) tl) ((l,lstO (hs.map fun h=>.ref h.a) ep)::hs.map Hd.cell)
    refine good_again gR B hro ⟨?_,?_,?_,?_,?_,?_,trivial⟩ ?_
    ·exact midH B (fun h₁ B1 K1 F1=>lnx B1 it l2 e2 n t rs i y.a hr2 hr6 (K1 _ _ hl2) hri) rfl rfl
    ·exact fun m=>mul_ev _ _ _ _ (by decide) m
    ·exact midE B 6 (fun h₁ B1 K1 F1=>hget h₁ B1 _ _) rfl rfl
    ·exact fun m=>len_ev B _ g1 g7 m
    ·exact fun m=>div_ev _ _ _ _ hgz (divpy _ g1 g7) m
    ·exact mid_ B (fun h₁ B1 K1 F1=>hcmp h₁ B1 ((hJ.keeps K1).append (F1.sub fun p hp=>by simp only [List.mem_cons,List.not_mem_nil,or_false] at hp;rcases hp with rfl | rfl<;>simp [offO])))
    ·exact fit [] hnext (fun z=>by simp only [cnt_cons,cnt_tab,cnt_nil,offO,hq,Option.toList,List.append_nil,List.cons_append,List.nil_append];try ac_rfl) (fun _=>rfl)
theorem in1 {k:Nat} (hk:k≤140) (L it l2 e2 la le x dx th l ep jx jd cl c0 c1 tc ce u0 u1 u2 u3:Nat) (V0 V1 V7 V9 V10:Value) (old:Bool) (hs:List Hd) (g:Nat→Nat) (ls:List Li) (rs:List Nat)
  (hr2:2≤rs.length) (hr6:rs.length≤6)
  (hg:∀ y∈ls,1≤g y.p∧g y.p≤7) (hG:∀ y∈ls,GetOk w os (k+21) x dx th l ep hs g y.p)
  (y:Li) (xs:List Li) (hm:∀ z∈y::xs,z∈ls) (hd:rs=(y::xs).map (·.a)) (hp:(y::xs).Pairwise (fun a b=>b.p < a.p)) (ks:Nat→Nat) (V3 V4 V5:Value) (n t:Nat) :
   ∃(ks':Nat→Nat) (V3' V4' V5' V9':Value) (bb' tq' tp' tl' n' t':Nat),∀(h₀:Heap),Base w h₀→LisIn h₀ la le ls→Facts h₀ (judC w jx jd cl c0 c1 tc ce u0 u1 u2 u3)→h₀.get? l2=some (lstO (rs.map .ref) e2)→Spec w h₀ os k (loopC (S31 w) (.ref it) (envAt w 253 L))
    ⟨(it,fldO "list_iterator" [.ref l2,.int ((0:Nat):Int) 0])::(L,frN w nm253 ks ([V0,V1,.ref x,V3,V4,V5,.ref jx,V7,.none]++old3 V9 V10 old))::tabC w x dx th l ep hs,n,t⟩ (.ok .next)
    ⟨(L,frN w nm253 ks' ([V0,V1,.ref x,V3',V4',V5',.ref jx,V7,.ref bb',V9']++(told3 V10 old).toList))::(bb',offO (scan g (xs.map fun y=>(y.p,y.v)) (y.v*60 / g y.p,y.p)).1 tq' (scan g (xs.map fun y=>(y.p,y.v)) (y.v*60 / g y.p,y.p)).2 tp' (ltr (scan g (xs.map fun y=>(y.p,y.v)) (y.v*60 / g y.p,y.p)).2) tl')::tabC w x dx th l ep hs,n',t'⟩:=by
 have hy:=hm y (.head _)
 obtain⟨d,e,tz,hget⟩:=hG y hy y.tl
 obtain⟨g1,g7⟩:=hg y hy
 have hri:rs[0]?=some y.a:=by rw [hd];rfl
 have hd':rs.drop (0+1)=xs.map (·.a):=by rw [hd];rfl
 have hi':0+1+xs.length=rs.length:=by rw [hd,List.length_map,List.length_cons];exact oxd
 have hgz:(g y.p:Int)≠0:=by omega
 have hq:((y.v:Int)*60).fdiv (g y.p)=((y.v*60 / g y.p:Nat):Int):=fdiv_nat _ _
 obtain⟨ks',V3',V4',V5',V9',bb',tq',tp',tl',n',t',hnext⟩:=in3 hk L it l2 e2 la le x dx th l ep jx jd cl c0 c1 tc ce u0 u1 u2 u3 V0 V1 V7 (told3 V10 old) hs g ls rs hr2 hr6 hg hG xs (0+1) (fun z hz=>hm z (.tail _ hz)) hd' hi' (List.pairwise_cons.mp hp).2
  (match old with | true=>ks | false=>upd ks 9 (t+6+e+3)) (.int y.p y.tp) (.str (ltr y.p) y.tl) (.ref y.e) (.ref (n+3+d)) (n+3+d) (y.v*60 / g y.p) y.p (t+6+e+2) y.tp y.tl (n+3+d+1) (t+6+e+5) (fun z hz=>(List.pairwise_cons.mp hp).1 z hz)
 refine⟨ks',V3',V4',V5',V9',bb',tq',tp',tl',n',t',fun h₀ B hL hJ hl2=>?_⟩
 have hnext:=hnext h₀ B hL hJ hl2
 have hro:Facts h₀ [(y.a,tupO [(.int y.p y.tp),(.str (ltr y.p) y.tl),(.ref y.e)]),(y.e,tupO [(.int y.v y.tv),y.V1,y.V2,y.V3,y.V4]),(jx,insO 62 jd),(jd,dctO [ez w.params (sO "comp_select_list") tc (.ref cl)] 1)] :=
  Facts.cons (hL.t y hy) (Facts.cons (hL.e y hy) (hJ.sub fun p hp=>by simp only [judC];simp only [List.mem_cons,List.not_mem_nil,or_false] at hp ⊢;rcases hp with rfl | rfl<;>simp))
 cases old with
 | false =>
  simp only [told3] at hnext
  have gR:=run3_f0 w n t (n+3+d) (t+6+e) 0 0 L it y.a y.e x dx th l jx jd tc cl tz y.tp y.tl y.tv (g y.p) ks V0 V1 V3 V4 V5 V7 y.V1 y.V2 y.V3 y.V4 y.p y.v (ltr y.p) [.ref l2,.int ((0:Nat):Int) 0] [.ref l2,.int ((0+1:Nat):Int) 0] ((l,lstO (hs.map fun h=>.ref h.a) ep)::hs.map Hd.cell)
  refine good_again gR B hro ⟨?_,?_,?_,?_,?_,trivial⟩ ?_
  ·exact midH B (fun h₁ B1 K1 F1=>lnx B1 it l2 e2 n t rs 0 y.a hr2 hr6 (K1 _ _ hl2) hri) rfl rfl
  ·exact fun m=>mul_ev _ _ _ _ (by decide) m
  ·exact midE B 5 (fun h₁ B1 K1 F1=>hget h₁ B1 _ _) rfl rfl
  ·exact fun m=>len_ev B _ g1 g7 m
  ·exact fun m=>div_ev _ _ _ _ hgz (divpy _ g1 g7) m
  ·exact fit [] hnext (fun z=>by simp only [cnt_cons,cnt_tab,cnt_nil,offO,hq,Option.toList,Option.map,List.append_nil,List.cons_append,List.nil_append];try ac_rfl) (fun _=>rfl)
 | true =>
  simp only [told3] at hnext
  have gR:=run3_f2 w n t (n+3+d) (t+6+e) 0 0 L it y.a y.e x dx th l jx jd tc cl tz y.tp y.tl y.tv (g y.p) ks V0 V1 V3 V4 V5 V7 V9 V10 y.V1 y.V2 y.V3 y.V4 y.p y.v (ltr y.p) [.ref l2,.int ((0:Nat):Int) 0] [.ref l2,.int ((0+1:Nat):Int) 0] ((l,lstO (hs.map fun h=>.ref h.a) ep)::hs.map Hd.cell)
  refine good_again gR B hro ⟨?_,?_,?_,?_,?_,trivial⟩ ?_
  ·exact midH B (fun h₁ B1 K1 F1=>lnx B1 it l2 e2 n t rs 0 y.a hr2 hr6 (K1 _ _ hl2) hri) rfl rfl
  ·exact fun m=>mul_ev _ _ _ _ (by decide) m
  ·exact midE B 5 (fun h₁ B1 K1 F1=>hget h₁ B1 _ _) rfl rfl
  ·exact fun m=>len_ev B _ g1 g7 m
  ·exact fun m=>div_ev _ _ _ _ hgz (divpy _ g1 g7) m
  ·exact fit [] hnext (fun z=>by simp only [cnt_cons,cnt_tab,cnt_nil,offO,hq,Option.toList,Option.map,List.append_nil,List.cons_append,List.nil_append];try ac_rfl) (fun _=>rfl)
end
noncomputable def nmS (p:Nat):Bool→Str
 | true=>upS (ltr p)
 | false=>ltr p
noncomputable abbrev PT:=List (Nat×Bool×Nat)
noncomputable def hdF (h:Hd):Str×Str:=(h.k,h.v)
noncomputable def ptF (e:Nat×Bool×Nat):Str×Str:=(nmS e.1 e.2.1,dS e.2.2)
noncomputable def TabIs (hs:List Hd) (T:PT):Prop:=hs.map hdF=T.map ptF
noncomputable def dots (T:PT) (p:Nat):Nat:=match T.find? (fun e=>e.1 == p) with
 | some e=>e.2.2
 | none=>1
structure PTok (T:PT):Prop where
 nd:(T.map (·.1)).Nodup
 lt:∀ e∈T,e.1 < 4
 ge:∀ e∈T,1≤e.2.2
theorem nm_is:∀ {p:Nat} (u:Bool),p < 4→isName (nmS p u)
 | 0,true,_ | 0,false,_ | 1,true,_ | 1,false,_ | 2,true,_ | 2,false,_ | 3,true,_ | 3,false,_=>by unfold isName;decide +kernel
 | p+4,_,h=>absurd h (by omega)
theorem low_nm:∀ {p:Nat} (u:Bool),p < 4→lowS (nmS p u)=ltr p
 | 0,true,_ | 0,false,_ | 1,true,_ | 1,false,_ | 2,true,_ | 2,false,_ | 3,true,_ | 3,false,_=>by decide +kernel
 | p+4,_,h=>absurd h (by omega)
theorem ltr_inj:∀ {p q:Nat},p < 4→q < 4→ltr p=ltr q→p=q
 | 0,0,_,_,_ | 1,1,_,_,_ | 2,2,_,_,_ | 3,3,_,_,_=>rfl
 | 0,1,_,_,h | 0,2,_,_,h | 0,3,_,_,h | 1,0,_,_,h | 1,2,_,_,h | 1,3,_,_,h | 2,0,_,_,h | 2,1,_,_,h | 2,3,_,_,h | 3,0,_,_,h | 3,1,_,_,h | 3,2,_,_,h=>absurd h (by decide +kernel)
 | p+4,_,h,_,_=>absurd h (by omega)
 | _,q+4,_,h,_=>absurd h (by omega)
theorem dots_eq {T1 T2:PT} {e:Nat×Bool×Nat} (h:PTok (T1++e::T2)):dots (T1++e::T2) e.1=e.2.2:=by
 have nd:=h.nd
 rw [List.map_append,List.map_cons] at nd
 have h1:∀ z∈T1,z.1≠e.1:=fun z hz=>(List.nodup_append.mp nd).2.2 _ (List.mem_map_of_mem hz) _ (.head _)
 unfold dots
 rw [List.find?_append,List.find?_eq_none.mpr (fun z hz=>by simpa using h1 z hz)]
 simp
theorem others {T1 T2:PT} {e:Nat×Bool×Nat} (h:PTok (T1++e::T2)):∀ z∈T1++T2,z.1≠e.1:=by
 have nd:=h.nd
 rw [List.map_append,List.map_cons] at nd
 intro z hz
 rcases List.mem_append.mp hz with hz | hz
 ·exact (List.nodup_append.mp nd).2.2 _ (List.mem_map_of_mem hz) _ (.head _)
 ·intro q
  have:=(List.nodup_cons.mp (List.nodup_append.mp nd).2.1).1
  exact this (q▸List.mem_map_of_mem hz)
theorem without {T1 T2:PT} {e:Nat×Bool×Nat} (h:PTok (T1++e::T2)):(T1++e::T2).filter (fun z=>!(z.1 == e.1))=T1++T2:=by
 have o:=others h
 rw [List.filter_append,List.filter_cons]
 have a1:T1.filter (fun z=>!(z.1 == e.1))=T1:=List.filter_eq_self.mpr fun z hz=>by simpa using o z (List.mem_append_left _ hz)
 have a2:T2.filter (fun z=>!(z.1 == e.1))=T2:=List.filter_eq_self.mpr fun z hz=>by simpa using o z (List.mem_append_right _ hz)
 rw [a1,a2]
 simp
theorem tab_split {hs:List Hd} {T1 T2:PT} {e:Nat×Bool×Nat} (hT:TabIs hs (T1++e::T2)):∃ l1 h l2,hs=l1++h::l2∧l1.map hdF=T1.map ptF∧hdF h=ptF e∧l2.map hdF=T2.map ptF:=by
 unfold TabIs at hT
 rw [List.map_append,List.map_cons] at hT
 obtain⟨l1,r,e1,e2,e3⟩:=List.map_eq_append_iff.mp hT
 obtain⟨h,l2,e4,e5,e6⟩:=List.map_eq_cons_iff.mp e3
 exact⟨l1,h,l2,by rw [e1,e4],e2,e5,e6⟩
theorem tab_names {l:List Hd} {T:PT} (h:l.map hdF=T.map ptF):∀ g∈l,∃ e∈T,g.k=nmS e.1 e.2.1:=by
 intro g hg
 have:hdF g∈T.map ptF:=h▸List.mem_map_of_mem hg
 obtain⟨e,he,q⟩:=List.mem_map.mp this
 exact⟨e,he,(congrArg Prod.fst q).symm⟩
section
variable {w:World} {os:OsState}
theorem names_of {hs:List Hd} {T1 T2:PT} {e:Nat×Bool×Nat} {l1 l2:List Hd} {h:Hd} (ok:PTok (T1++e::T2)) (a:l1.map hdF=T1.map ptF) (b:hdF h=ptF e) (c:l2.map hdF=T2.map ptF) {nm:Str} (hlow:lowS nm=ltr e.1) :
  (∀ g∈l1++h::l2,isName g.k)∧(∀ g∈l1++l2,decide (lowS g.k=lowS nm)=false)∧decide (lowS h.k=lowS nm)=true:=by
 have he4:e.1 < 4:=ok.lt e (by simp)
 have hk:h.k=nmS e.1 e.2.1:=congrArg Prod.fst b
 have ac:(l1++l2).map hdF=(T1++T2).map ptF:=by rw [List.map_append,List.map_append,a,c]
 have o:=others ok
 have key:∀ g∈l1++l2,∃ z∈T1++T2,g.k=nmS z.1 z.2.1:=tab_names ac
 have lt4:∀ z∈T1++T2,z.1 < 4:=fun z hz=>ok.lt z (by rcases List.mem_append.mp hz with q | q;exact List.mem_append_left _ q;exact List.mem_append_right _ (.tail _ q))
 refine⟨fun g hg=>?_,fun g hg=>?_,?_⟩
 ·rcases List.mem_append.mp hg with q | q
  ·obtain⟨z,hz,e1⟩:=key g (List.mem_append_left _ q);rw [e1];exact nm_is _ (lt4 z hz)
  ·rcases List.mem_cons.mp q with rfl | q
   ·rw [hk];exact nm_is _ he4
   ·obtain⟨z,hz,e1⟩:=key g (List.mem_append_right _ q);rw [e1];exact nm_is _ (lt4 z hz)
 ·obtain⟨z,hz,e1⟩:=key g hg
  rw [e1,low_nm _ (lt4 z hz),hlow]
  exact decide_eq_false fun q=>o z hz (ltr_inj (lt4 z hz) he4 q)
 ·rw [hk,low_nm _ he4,hlow]
  exact decide_eq_true rfl
theorem len_tab {hs:List Hd} {T:PT} (hT:TabIs hs T):hs.length=T.length:=by
 have:=congrArg List.length hT
 simpa using this
theorem getT {k:Nat} (hk:k≤170) (x dx th l ep:Nat) {hs:List Hd} {T:PT} (hT:TabIs hs T) (ok:PTok T) (h2:2≤T.length) (h4:T.length≤4) {e:Nat×Bool×Nat} (he:e∈T) {nm:Str} (hn:isName nm) (hlow:lowS nm=ltr e.1) (tn:Nat) :
  ∃ d e' tz,∀(h₀:Heap) (B:Base w h₀) (n t:Nat) (rest:List (Nat×Obj)),Spec w h₀ os k (.call (.ref 177) ⟨[.ref x,.str nm tn],[]⟩) ⟨tabC w x dx th l ep hs++rest,n,t⟩ (.ok (.ret (.str (dS (dots T e.1)) tz))) ⟨tabC w x dx th l ep hs++rest,n+d,t+e'⟩:=by
 obtain⟨T1,T2,rfl⟩:=List.append_of_mem he
 obtain⟨l1,h,l2,rfl,a,b,c⟩:=tab_split hT
 obtain⟨n1,n2,n3⟩:=names_of (hs:=[]) ok a b c hlow
 have hlen:=len_tab hT
 simp only [List.length_append,List.length_cons] at hlen h2 h4
 obtain⟨d,e',hg⟩:=getL (w:=w) (os:=os) hk x dx th l ep tn hn l1 l2 h (by exact Nat.le_trans ‹_› (Nat.le_of_eq (Eq.symm ‹_›))) (by exact Nat.le_trans (Nat.le_of_eq ‹_›) (Nat.le_trans ‹_› (by decide))) n1 n2 n3
 have hv:h.v=dS e.2.2:=congrArg Prod.snd b
 rw [hv] at hg
 rw [dots_eq ok]
 exact⟨d,e',h.z,hg⟩
theorem setT {k:Nat} (hk:k≤120) (x dx th l ep:Nat) {hs:List Hd} {T:PT} (hT:TabIs hs T) (ok:PTok T) (h2:2≤T.length) (h4:T.length≤4) {e:Nat×Bool×Nat} (he:e∈T) {nm vl:Str} (hn:isName nm) (hlow:lowS nm=ltr e.1) (hv:isDots vl) (tn tv:Nat) :
  ∃ l' a d e',l'.map hdF=(T.filter (fun z=>!(z.1 == e.1))).map ptF∧∀(h₀:Heap) (B:Base w h₀) (n t:Nat) (rest:List (Nat×Obj)),Spec w h₀ os k (.call (.ref 143) ⟨[.ref x,.str nm tn,.str vl tv],[]⟩) ⟨tabC w x dx th l ep hs++rest,n,t⟩ (.ok (.ret .none)) ⟨tabC w x dx th l (ep+1+1) (l'++[⟨n+a,nm,tn,vl,tv⟩])++rest,n+d,t+e'⟩:=by
 obtain⟨T1,T2,rfl⟩:=List.append_of_mem he
 obtain⟨l1,h,l2,rfl,a,b,c⟩:=tab_split hT
 obtain⟨n1,n2,n3⟩:=names_of (hs:=[]) ok a b c hlow
 have hlen:=len_tab hT
 simp only [List.length_append,List.length_cons] at hlen h2 h4
 obtain⟨a',d,e',hg⟩:=setL (w:=w) (os:=os) hk x dx th l ep tn tv hn hv l1 l2 h (by exact Nat.le_trans ‹_› (Nat.le_of_eq (Eq.symm ‹_›))) (by exact Nat.le_trans (Nat.le_of_eq ‹_›) (Nat.le_trans ‹_› (by decide))) n1 n2 n3
 rw [without ok]
 exact⟨l1++l2,a',d,e',by rw [List.map_append,List.map_append,a,c],hg⟩
theorem sdfT {k:Nat} (hk:k≤140) (x dx th l ep:Nat) {hs:List Hd} {T:PT} (hT:TabIs hs T) (ok:PTok T) (h3:T.length≤3) {p:Nat} (hp:p < 4) (hne:∀ e∈T,e.1≠p) (tn tv:Nat) {vl:Str} (hv:isDots vl) :
  ∃ a d e',∀(h₀:Heap) (B:Base w h₀) (n t:Nat) (rest:List (Nat×Obj)),Spec w h₀ os k (.call (.ref 220) ⟨[.ref x,.str (ltr p) tn,.str vl tv],[]⟩) ⟨tabC w x dx th l ep hs++rest,n,t⟩ (.ok (.ret (.str vl tv))) ⟨tabC w x dx th l (ep+1) (hs++[⟨n+a,ltr p,tn,vl,tv⟩])++rest,n+d,t+e'⟩:=by
 have hl:lowS (ltr p)=ltr p:=low_nm (p:=p) false hp
 refine sdfL (w:=w) (os:=os) hk x dx th l ep tn tv (nm_is (p:=p) false hp) hv hs (by rw [len_tab hT];exact h3) (fun g hg=>?_) (fun g hg=>?_)
 ·obtain⟨z,hz,e1⟩:=tab_names hT g hg;rw [e1];exact nm_is _ (ok.lt z hz)
 ·obtain⟨z,hz,e1⟩:=tab_names hT g hg
  rw [e1,low_nm _ (ok.lt z hz)]
  refine decide_eq_false fun q=>hne z hz (ltr_inj (ok.lt z hz) hp ?_)
  rw [q];exact hl
end
noncomputable abbrev RunB (S:Int):Prop:=∀(w:World) (n t s1 t1 s2 t2 s3 t3 s4 t4 la le x dx th l jx jd tc ts:Nat) (ks ks2:Nat→Nat) (V3 V4 V5 V6 V7 V8 V9 V10 V11 V12 V13:Value) (vs:List Value) (rest rest1 rest2:List (Nat×Obj)),(fun(A B C D E F G H:Nat×Obj) (I:Env)=>Good w (.func (bodyOf (fdAt w 253)) I) [(la,lstO vs le)] ⟨[E],(n+1),(t+2)⟩ [0,0,0,1,1,1,1,1001,1001,0,1001,1,1,0,0,0,0,1,6,6,0,0,6,0,0,1,1,0,1,1,1,1,0,1,1,1,1,1,1,1] [.at (.call (.ref 230) ⟨[],[]⟩) ⟨[E],(n+1),(t+2)⟩ (.ok (.ret (.ref x))) ⟨E::D::A::rest,s1,t1⟩,.at (loopC (stAt (bodyOf (fdAt w 253)) 1) (.ref s1) I) ⟨(s1,fldO "list_iterator" [(.ref la),(.int 0 0)])::(n,frN w nm253 (upd (tf t) 2 t1) [(.ref la),(.int S ts),(.ref x)])::D::A::rest,(s1+1),(t1+1)⟩ (.ok .next) ⟨B::D::A::rest1,s2,t2⟩,.at (.call (.ref 62) ⟨[(.ref (s2+2))],[]⟩) ⟨F::C::G::B::D::A::rest1,(s2+3),(t2+5)⟩ (.ok (.ret (.ref jx))) ⟨(jx,insO 62 jd)::H::F::C::G::B::D::A::rest1,s3,t3⟩,.at (loopC (stAt (bodyOf (fdAt w 253)) 3) (.ref (s3+1)) I) ⟨((s3+1),fldO "range_iterator" [(.int 0 0),(.int S 0),(.int 1 0)])::(s3,fldO "range" [(.int 0 (t3+1)),(.int S ts),(.int 1 (t3+2))])::(jx,insO 62 jd)::H::F::C::G::(n,frN w nm253 (upd ks 6 t3) [(.ref la),(.int S ts),(.ref x),V3,V4,V5,(.ref jx)])::D::A::rest1,(s3+2),(t3+3)⟩ (.ok .next) ⟨(n,frN w nm253 ks2 [(.ref la),(.int S ts),(.ref x),V6,V7,V8,V9,V10,V11,V12,V13])::D::A::rest2,s4,t4⟩] (.ok (.done (.ret (.ref x)))) [1,2] 3 ⟨D::A::rest2,s4,t4⟩) (dx,dctO [ez w.params (sO "_headers") th (.ref l)] 1) (n,frN w nm253 ks [(.ref la),(.int S ts),(.ref x),V3,V4,V5]) ((s2+1),tupO [(.int 1 (t2+3)),(.int 1 (t2+4))]) (x,insO 230 dx) (n,frN w nm253 (tf t) [(.ref la),(.int S ts)]) ((s2+2),lstO [(.ref s2),(.ref (s2+1))] 0) (s2,tupO [(.int 0 t2),(.int (-1) (t2+2))]) (jd,dctO [ez w.params (sO "comp_select_list") tc (.ref (s2+2))] 1) (envAt w 253 n)
theorem run_b3:RunB 3:=by walk_at "r"
theorem run_b4:RunB 4:=by walk_at "r"
theorem run_b5:RunB 5:=by walk_at "r"
theorem run_b6:RunB 6:=by walk_at "r"
theorem run_b {s:Nat} (h3:3≤s) (h6:s≤6):RunB s:=by
 have h:s=3∨s=4∨s=5∨s=6:=by exact oxe ‹_› ‹_›
 rcases h with rfl | rfl | rfl | rfl
 ·exact run_b3
 ·exact run_b4
 ·exact run_b5
 ·exact run_b6
theorem TabIs.snoc {hs l':List Hd} {T:PT} {h:Hd} {e:Nat×Bool×Nat} (a:l'.map hdF=T.map ptF) (b:hdF h=ptF e):TabIs (l'++[h]) (T++[e]):=by
 unfold TabIs;rw [List.map_append,List.map_append,a];simp [b]
theorem PTok.snoc {T:PT} (h:PTok T) {e:Nat×Bool×Nat} (h1:∀ z∈T,z.1≠e.1) (h2:e.1 < 4) (h3:1≤e.2.2):PTok (T++[e]):=by
 refine⟨?_,fun z hz=>?_,fun z hz=>?_⟩
 ·rw [List.map_append]
  refine List.nodup_append.mpr ⟨h.nd,by simp,?_⟩
  intro a ha b hb
  obtain⟨z,hz,rfl⟩:=List.mem_map.mp ha
  simp only [List.map_cons,List.map_nil,List.mem_singleton] at hb
  rw [hb];exact h1 z hz
 ·rcases List.mem_append.mp hz with q | q
  ·exact h.lt z q
  ·rw [List.mem_singleton.mp q];exact h2
 ·rcases List.mem_append.mp hz with q | q
  ·exact h.ge z q
  ·rw [List.mem_singleton.mp q];exact h3
theorem PTok.filter {T:PT} (h:PTok T) (f:Nat×Bool×Nat→Bool):PTok (T.filter f) :=
 ⟨h.nd.sublist ((List.filter_sublist (p:=f)).map _),fun z hz=>h.lt z (List.mem_filter.mp hz).1,fun z hz=>h.ge z (List.mem_filter.mp hz).1⟩
noncomputable def pt0 (l:List Nat):PT:=l.map fun p=>(p,false,1)
noncomputable def win (g:Nat→Nat):List (Nat×Nat)→Nat
 | []=>0
 | (p,v)::r=>(scan g r (v*60 / g p,p)).2
noncomputable def stepT (pl:List (Nat×Nat)) (T:PT) (i:Nat):PT:=T.filter (fun z=>!(z.1 == win (dots T) pl.reverse))++[(win (dots T) pl.reverse,i % 2 == 1,dots T (win (dots T) pl.reverse)+1)]
noncomputable def runN (pl:List (Nat×Nat)):PT→Nat→Nat→PT
 | T,_,0=>T
 | T,i,j+1=>runN pl (stepT pl T i) (i+1) j
noncomputable def plOf (ls:List Li):List (Nat×Nat):=ls.map fun y=>(y.p,y.v)
theorem scan_mem (g:Nat→Nat):∀(l:List (Nat×Nat)) (b:Nat×Nat),(scan g l b).2=b.2∨∃ z∈l,(scan g l b).2=z.1
 | [],b=>.inl rfl
 | (p,v)::r,b=>by
  unfold scan
  split
  ·rcases scan_mem g r (v*60 / g p,p) with h | ⟨z,hz,h⟩
   ·exact .inr ⟨_,.head _,h⟩
   ·exact .inr ⟨z,.tail _ hz,h⟩
  ·rcases scan_mem g r b with h | ⟨z,hz,h⟩
   ·exact .inl h
   ·exact .inr ⟨z,.tail _ hz,h⟩
theorem win_mem (g:Nat→Nat) {l:List (Nat×Nat)} (h:l≠[]):∃ z∈l,win g l=z.1:=by
 match l,h with
 | (p,v)::r,_ =>
  rcases scan_mem g r (v*60 / g p,p) with h | ⟨z,hz,h⟩
  ·exact⟨_,.head _,h⟩
  ·exact⟨z,.tail _ hz,h⟩
structure Run (pl:List (Nat×Nat)) (T:PT) (m:Nat):Prop where
 ok:PTok T
 len:T.length=pl.length
 all:∀ z∈pl,∃ e∈T,e.1=z.1
 le:∀ e∈T,e.2.2≤m
theorem dots_mem {T:PT} (ok:PTok T) {e:Nat×Bool×Nat} (he:e∈T):dots T e.1=e.2.2:=by
 obtain⟨T1,T2,rfl⟩:=List.append_of_mem he
 exact dots_eq ok
theorem Run.step {pl:List (Nat×Nat)} {T:PT} {m:Nat} (h:Run pl T m) (hne:pl≠[]) (i:Nat):Run pl (stepT pl T i) (m+1):=by
 obtain⟨z,hz,hw⟩:=win_mem (dots T) (l:=pl.reverse) (by simpa using hne)
 obtain⟨e,he,hez⟩:=h.all z (List.mem_reverse.mp hz)
 have hwe:win (dots T) pl.reverse=e.1:=by rw [hw,hez]
 have hd:=dots_mem h.ok he
 unfold stepT
 rw [hwe]
 refine⟨(h.ok.filter _).snoc (fun y hy=>?_) (h.ok.lt e he) (by show 1≤_+1;exact Nat.succ_pos _),?_,fun y hy=>?_,fun y hy=>?_⟩
 ·have:=(List.mem_filter.mp hy).2
  simpa using this
 ·obtain⟨T1,T2,rfl⟩:=List.append_of_mem he
  rw [without h.ok,← h.len]
  simp only [List.length_append,List.length_cons,List.length_nil]
  exact oxa
 ·obtain⟨e',he',h'⟩:=h.all y hy
  by_cases q:e'.1=e.1
  ·exact⟨_,List.mem_append_right _ (.head _),by rw [← h',q]⟩
  ·exact⟨e',List.mem_append_left _ (List.mem_filter.mpr ⟨he',by simpa using q⟩),h'⟩
 ·rcases List.mem_append.mp hy with q | q
  ·have:=h.le y (List.mem_filter.mp q).1;omega
  ·rw [List.mem_singleton.mp q]
   show dots T e.1+1≤m+1
   have:=h.le e he;omega
section
variable {w:World} {os:OsState}
theorem lp1 {k:Nat} (hk:k≤110) (L it la le x dx th l:Nat) (V1:Value) (ls:List Li) (h2:2≤ls.length) (h4:ls.length≤4):∀(ys:List Li) (i:Nat),(∀ y∈ys,y∈ls)→(ls.map (·.a)).drop i=ys.map (·.a)→i+ys.length=ls.length→ys.Pairwise (fun a b=>a.p≠b.p)→(∀ y∈ys,y.p < 4) →
  ∀(done:List Nat),PTok (pt0 done)→done.length=i→(∀ y∈ys,∀ p∈done,p≠y.p)→∀(hs:List Hd) (ep:Nat),TabIs hs (pt0 done)→∀(ks:Nat→Nat) (V3 V4 V5:Value) (n t:Nat),
  ∃(ks':Nat→Nat) (V3' V4' V5':Value) (hs':List Hd) (ep' n' t':Nat),TabIs hs' (pt0 (done++ys.map (·.p)))∧∀(h₀:Heap),Base w h₀→LisIn h₀ la le ls →
   Spec w h₀ os k (loopC (S1' w) (.ref it) (envAt w 253 L)) ⟨(it,fldO "list_iterator" [.ref la,.int (i:Int) 0])::(L,frN w nm253 ks [.ref la,V1,.ref x,V3,V4,V5])::tabC w x dx th l ep hs,n,t⟩ (.ok .next)
    ⟨(L,frN w nm253 ks' [.ref la,V1,.ref x,V3',V4',V5'])::tabC w x dx th l ep' hs',n',t'⟩
 | [],i,_,hd,hi,_,_=>by
  intro done _ _ _ hs ep hT ks V3 V4 V5 n t
  refine⟨ks,V3,V4,V5,hs,ep,n+2,t,by rw [List.map_nil,List.append_nil];exact hT,fun h₀ B hL=>?_⟩
  have hi:i=(ls.map (·.a)).length:=by simpa using hi
  exact good_h (run1_e w n t (n+2) t L it (n+1) (.ref n) [.ref la,.int (i:Int) 0] [.none,.int (i:Int) 0] _ _) B facts_nil ⟨midH B (fun h₁ B1 K1 F1=>lne B1 it la le n t (ls.map (·.a)) i (by simpa using h2) (by rw [List.length_map];exact Nat.le_trans ‹_› (by decide)) (K1 _ _ hL.l) hi) rfl rfl,trivial⟩
 | y::ys,i,hm,hd,hi,hp,h4'=>by
  intro done hok hdl hne hs ep hT ks V3 V4 V5 n t
  have hri:(ls.map (·.a))[i]?=some y.a:=by
   have:=congrArg (fun l=>l[0]?) hd
   simpa using this
  have hd':(ls.map (·.a)).drop (i+1)=ys.map (·.a):=by
   have:=congrArg List.tail hd
   simpa using this
  rw [List.length_cons] at hi
  have hok':PTok (pt0 (done++[y.p])):=by
   unfold pt0;rw [List.map_append]
   refine hok.snoc (fun z hz=>?_) (h4' y (.head _)) (Nat.le_refl _)
   obtain⟨p,hp,rfl⟩:=List.mem_map.mp hz
   exact hne y (.head _) p hp
  obtain⟨a,d,e,hsd⟩:=sdfT (w:=w) (os:=os) (k:=k+21) (by exact Nat.le_trans (Nat.add_le_add_right ‹_› _) (by decide)) x dx th l ep hT hok (by unfold pt0;rw [List.length_map];omega) (h4' y (.head _)) (fun z hz=>by
   obtain⟨p,hp,rfl⟩:=List.mem_map.mp hz
   exact hne y (.head _) p hp) y.tl (t+3) (isDots_dS 1)
  have hT':TabIs (hs++[(⟨n+3+a,ltr y.p,y.tl,dS 1,t+3⟩:Hd)]) (pt0 (done++[y.p])):=by
   unfold pt0;rw [List.map_append]
   exact TabIs.snoc (hs:=[]) hT rfl
  obtain⟨ks',V3',V4',V5',hs',ep',n',t',hT2,hnext⟩:=lp1 hk L it la le x dx th l V1 ls h2 h4 ys (i+1) (fun z hz=>hm z (.tail _ hz)) hd' (by exact ox3 ‹_›) (List.pairwise_cons.mp hp).2 (fun z hz=>h4' z (.tail _ hz)) (done++[y.p]) hok' (by rw [List.length_append,hdl];rfl)
   (fun z hz p hp'=>by
    rcases List.mem_append.mp hp' with q | q
    ·exact hne z (.tail _ hz) p q
    ·rw [List.mem_singleton.mp q];exact (List.pairwise_cons.mp hp).1 z hz) _ (ep+1) hT' ks (.int y.p y.tp) (.str (ltr y.p) y.tl) (.ref y.e) (n+3+d) (t+4+e)
  refine⟨ks',V3',V4',V5',hs',ep',n',t',by rw [List.append_assoc] at hT2;exact hT2,fun h₀ B hL=>?_⟩
  have gR:=run1_l w n t (n+3+d) (t+4+e) L it y.a y.e x dx th l y.tp y.tl ks (.ref la) V1 V3 V4 V5 y.p (ltr y.p) [.ref la,.int (i:Int) 0] [.ref la,.int ((i+1:Nat):Int) 0] ((l,lstO (hs.map fun h=>.ref h.a) ep)::hs.map Hd.cell) ((l,lstO ((hs++[(⟨n+3+a,ltr y.p,y.tl,dS 1,t+3⟩:Hd)]).map fun h=>.ref h.a) (ep+1))::(hs++[(⟨n+3+a,ltr y.p,y.tl,dS 1,t+3⟩:Hd)]).map Hd.cell)
  refine good_again gR B (facts_nil.cons (hL.t y (hm y (.head _)))) ⟨?_,?_,trivial⟩ ?_
  ·exact midH B (fun h₁ B1 K1 F1=>lnx B1 it la le n t (ls.map (·.a)) i y.a (by simpa using h2) (by rw [List.length_map];exact Nat.le_trans ‹_› (by decide)) (K1 _ _ hL.l) hri) rfl rfl
  ·refine midE B 5 (T:=tabC w x dx th l ep hs) (T':=tabC w x dx th l (ep+1) (hs++[(⟨n+3+a,ltr y.p,y.tl,dS 1,t+3⟩:Hd)])) (fun h₁ B1 K1 F1=>?_) rfl rfl
   have:=hsd h₁ B1 (n+3) (t+4) []
   rw [List.append_nil,List.append_nil] at this
   exact this
  ·exact hnext h₀ B hL
theorem lp1_all {k:Nat} (hk:k≤110) (L it la le x dx th l ep:Nat) (V1:Value) (ls:List Li) (h2:2≤ls.length) (h4:ls.length≤4) (hp:ls.Pairwise (fun a b=>a.p≠b.p)) (hl4:∀ y∈ls,y.p < 4) (ks:Nat→Nat) (n t:Nat) :
  ∃(ks':Nat→Nat) (V3' V4' V5':Value) (hs':List Hd) (ep' n' t':Nat),TabIs hs' (pt0 (ls.map (·.p)))∧∀(h₀:Heap),Base w h₀→LisIn h₀ la le ls →
   Spec w h₀ os k (loopC (S1' w) (.ref it) (envAt w 253 L)) ⟨(it,fldO "list_iterator" [.ref la,.int ((0:Nat):Int) 0])::(L,frN w nm253 ks [.ref la,V1,.ref x])::tabC w x dx th l ep [],n,t⟩ (.ok .next)
    ⟨(L,frN w nm253 ks' [.ref la,V1,.ref x,V3',V4',V5'])::tabC w x dx th l ep' hs',n',t'⟩:=by
 match ls,h2 with
 | y::ys,h2' =>
  have hok:PTok (pt0 []):=⟨by simp [pt0],fun e he=>(nomatch he),fun e he=>(nomatch he)⟩
  have hok':PTok (pt0 [y.p]):=⟨by simp [pt0],fun e he=>by rw [List.mem_singleton.mp he];exact hl4 y (.head _),fun e he=>by rw [List.mem_singleton.mp he];exact Nat.le_refl _⟩
  obtain⟨a,d,e,hsd⟩:=sdfT (w:=w) (os:=os) (k:=k+21) (by exact Nat.le_trans (Nat.add_le_add_right ‹_› _) (by decide)) x dx th l ep (hs:=[]) (T:=pt0 []) rfl hok (by simp [pt0]) (hl4 y (.head _)) (fun z hz=>(nomatch hz)) y.tl (t+3) (isDots_dS 1)
  have hT':TabIs [⟨n+3+a,ltr y.p,y.tl,dS 1,t+3⟩] (pt0 [y.p]):=rfl
  obtain⟨ks',V3',V4',V5',hs',ep',n',t',hT2,hnext⟩:=lp1 (w:=w) (os:=os) hk L it la le x dx th l V1 (y::ys) h2' h4 ys (0+1) (fun z hz=>.tail _ hz) rfl (by rw [List.length_cons];exact oxd) (List.pairwise_cons.mp hp).2 (fun z hz=>hl4 z (.tail _ hz)) [y.p] hok' rfl
   (fun z hz p hp'=>by rw [List.mem_singleton.mp hp'];exact (List.pairwise_cons.mp hp).1 z hz) _ (ep+1) hT' (upd (upd (upd ks 3 t) 4 (t+1)) 5 (t+2)) (.int y.p y.tp) (.str (ltr y.p) y.tl) (.ref y.e) (n+3+d) (t+4+e)
  refine⟨ks',V3',V4',V5',hs',ep',n',t',hT2,fun h₀ B hL=>?_⟩
  have gR:=run1_f w n t (n+3+d) (t+4+e) L it y.a y.e x dx th l y.tp y.tl ks (.ref la) V1 y.p (ltr y.p) [.ref la,.int ((0:Nat):Int) 0] [.ref la,.int ((0+1:Nat):Int) 0] ((l,lstO [] ep)::[]) ((l,lstO ([(⟨n+3+a,ltr y.p,y.tl,dS 1,t+3⟩:Hd)].map fun h=>.ref h.a) (ep+1))::[(⟨n+3+a,ltr y.p,y.tl,dS 1,t+3⟩:Hd)].map Hd.cell)
  refine good_again gR B (facts_nil.cons (hL.t y (.head _))) ⟨?_,?_,trivial⟩ ?_
  ·exact midH B (fun h₁ B1 K1 F1=>lnx B1 it la le n t ((y::ys).map (·.a)) 0 y.a (by simpa using h2') (by rw [List.length_map];exact Nat.le_trans ‹_› (by decide)) (K1 _ _ hL.l) rfl) rfl rfl
  ·refine midE B 5 (T:=tabC w x dx th l ep []) (T':=tabC w x dx th l (ep+1) [(⟨n+3+a,ltr y.p,y.tl,dS 1,t+3⟩:Hd)]) (fun h₁ B1 K1 F1=>?_) rfl rfl
   have:=hsd h₁ B1 (n+3) (t+4) []
   rw [List.append_nil,List.append_nil] at this
   exact this
  ·exact hnext h₀ B hL
end
theorem plOf_ne {ls:List Li} (h:2≤ls.length):plOf ls≠[]∧(plOf ls).reverse≠[]:=by
 match ls,h with
 | a::l,_=>exact⟨by simp [plOf],by simp [plOf]⟩
theorem run2T:∀ {i:Nat},i < 6→∃ tk nm,(∀ p,nm (ltr p)=nmS p (i % 2 == 1))∧Run2T i nm tk
 | 0,_=>⟨_,_,fun _=>rfl,run2_t0⟩
 | 1,_=>⟨_,_,fun _=>rfl,run2_t1⟩
 | 2,_=>⟨_,_,fun _=>rfl,run2_t2⟩
 | 3,_=>⟨_,_,fun _=>rfl,run2_t3⟩
 | 4,_=>⟨_,_,fun _=>rfl,run2_t4⟩
 | 5,_=>⟨_,_,fun _=>rfl,run2_t5⟩
 | i+6,h=>absurd h (by omega)
theorem win_eq (g:Nat→Nat) {ls:List Li} {y:Li} {xs:List Li} (h:ls.reverse=y::xs):(scan g (xs.map fun y=>(y.p,y.v)) (y.v*60 / g y.p,y.p)).2=win g (plOf ls).reverse:=by
 unfold plOf;rw [← List.map_reverse,h];rfl
section
variable {w:World} {os:OsState}
theorem lp2 {k:Nat} (hk:k≤90) (L it la le x dx th l jx jd cl c0 c1 tc ce u0 u1 u2 u3:Nat) (V1:Value) (ls:List Li) (h2:2≤ls.length) (h4:ls.length≤4) (hp:ls.Pairwise (fun a b=>a.p < b.p)) (hl4:∀ y∈ls,y.p < 4) (s:Nat) (s3':3≤s) (s6':s≤6) :
  ∀(j i:Nat),i+j=s→∀(T:PT),Run (plOf ls) T (i+1)→∀(hs:List Hd) (ep:Nat),TabIs hs T→∀(ks:Nat→Nat) (V3 V4 V5 V7 V8 V9 V10:Value) (n t:Nat),
  ∃(ks':Nat→Nat) (V3' V4' V5' V7' V8' V9' V10':Value) (hs':List Hd) (ep' n' t':Nat),TabIs hs' (runN (plOf ls) T i j)∧∀(h₀:Heap),Base w h₀→LisIn h₀ la le ls→Facts h₀ (judC w jx jd cl c0 c1 tc ce u0 u1 u2 u3) →
   Spec w h₀ os k (loopC (S3 w) (.ref it) (envAt w 253 L)) ⟨(it,rngO i (s - i))::(L,frN w nm253 ks ([.ref la,V1,.ref x,V3,V4,V5,.ref jx]++fr2 V7 V8 V9 V10 i))::tabC w x dx th l ep hs,n,t⟩ (.ok .next)
    ⟨(L,frN w nm253 ks' [.ref la,V1,.ref x,V3',V4',V5',.ref jx,V7',V8',V9',V10'])::tabC w x dx th l ep' hs',n',t'⟩
 | 0,i,hij=>by
  intro T hR hs ep hT ks V3 V4 V5 V7 V8 V9 V10 n t
  obtain rfl:i=s:=by assumption
  refine⟨ks,V3,V4,V5,V7,V8,V9,V10,hs,ep,n+2,t,hT,fun h₀ B hL hJ=>?_⟩
  have e:=run2_e w n t (n+2) t L it (n+1) (.ref n) [.int (i:Int) 0,.int ((i - i:Nat):Int) 0,.int 1 0] [.int (i:Int) 0,.int ((i - i:Nat):Int) 0,.int 1 0] (frN w nm253 ks ([.ref la,V1,.ref x,V3,V4,V5,.ref jx]++fr2 V7 V8 V9 V10 i)) (tabC w x dx th l ep hs)
  have hf:fr2 V7 V8 V9 V10 i=[V7,V8,V9,V10]:=by
   obtain⟨i',rfl⟩:∃ i',i=i'+1:=⟨i - 1,by exact oxc ‹_› (by decide)⟩
   rfl
  have z:=good_h (k:=k) (os:=os) e B facts_nil ⟨midH B (fun h₁ B1 K1 F1=>rne0 B1 it n t i s3' s6') rfl rfl,trivial⟩
  rw [hf] at z ⊢
  exact z
 | j+1,i,hij=>by
  intro T hR hs ep hT ks V3 V4 V5 V7 V8 V9 V10 n t
  obtain⟨y,xs,hrev⟩:∃ y xs,ls.reverse=y::xs:=by
   cases q:ls.reverse with
   | nil=>have:=congrArg List.length q;rw [List.length_reverse,List.length_nil] at this;omega
   | cons y xs=>exact⟨y,xs,rfl⟩
  have hmem:∀ z∈y::xs,z∈ls:=fun z hz=>List.mem_reverse.mp (hrev▸hz)
  have hTl:T.length=ls.length:=by rw [hR.len];simp [plOf]
  have hpl:∀ z∈ls,∃ e∈T,e.1=z.p:=fun z hz=>hR.all (z.p,z.v) (List.mem_map_of_mem (f:=fun y:Li=>(y.p,y.v)) hz)
  have hdm:∀ z∈ls,1≤dots T z.p∧dots T z.p≤i+1:=fun z hz=>by
   obtain⟨e,he,q⟩:=hpl z hz
   rw [← q,dots_mem hR.ok he]
   exact⟨hR.ok.ge e he,hR.le e he⟩
  have hG:∀ z∈ls,GetOk w os (k+21+21) x dx th l ep hs (dots T) z.p:=fun z hz tl=>by
   obtain⟨e,he,q⟩:=hpl z hz
   obtain⟨d,e',tz,hg⟩:=getT (w:=w) (os:=os) (k:=k+21+21) (by exact Nat.le_trans (Nat.add_le_add_right (Nat.add_le_add_right ‹_› _) _) (by decide)) x dx th l ep hT hR.ok (by exact Nat.le_trans ‹_› (Nat.le_of_eq (Eq.symm ‹_›))) (by exact Nat.le_trans (Nat.le_of_eq ‹_›) (Nat.le_trans ‹_› (by decide))) he (nm_is (p:=z.p) false (hl4 z hz)) (by rw [q];exact low_nm (p:=z.p) false (hl4 z hz)) tl
   refine⟨d,e',tz,fun h B n t=>?_⟩
   have:=hg h B n t []
   rw [List.append_nil,q] at this
   exact this
  have hrp:(y::xs).Pairwise (fun a b=>b.p < a.p):=by
   rw [← hrev];exact List.pairwise_reverse.mpr hp
  obtain⟨ks1,W3,W4,W5,W9,bb,tq,tp,tl,n1,t1,hin⟩:=in1 (w:=w) (os:=os) (k:=k+21) (by exact Nat.le_trans (Nat.add_le_add_right ‹_› _) (by decide)) L (n+2) (n+1) 0 la le x dx th l ep jx jd cl c0 c1 tc ce u0 u1 u2 u3 (.ref la) V1 (.int (i:Int) t) V9 V10 (ol i) hs (dots T) ls ((ls.map (·.a)).reverse) (by simpa using h2) (by rw [List.length_reverse,List.length_map];exact Nat.le_trans ‹_› (by decide))
   (fun z hz=>⟨(hdm z hz).1,by have:=(hdm z hz).2;omega⟩) hG y xs hmem (by rw [← List.map_reverse,hrev]) hrp (kq i ks t) V3 V4 V5 (n+3) (t+5)
  have hw:=win_eq (dots T) hrev
  generalize hsc:scan (dots T) (xs.map fun y=>(y.p,y.v)) (y.v*60 / dots T y.p,y.p)=sc at hin hw
  obtain⟨zw,hzw,hwz⟩:=win_mem (dots T) (l:=(plOf ls).reverse) (plOf_ne h2).2
  obtain⟨yw,hyw,hyz⟩:=List.mem_map.mp (List.mem_reverse.mp hzw)
  have hsy:sc.2=yw.p:=by rw [hw,hwz,← hyz]
  obtain⟨e,he,hey⟩:=hpl yw hyw
  have hes:e.1=sc.2:=by rw [hey,hsy]
  have hs4:sc.2 < 4:=by rw [hsy];exact hl4 yw hyw
  obtain⟨d2,e2,tz,hget⟩:=getT (w:=w) (os:=os) (k:=k+21) (by exact Nat.le_trans (Nat.add_le_add_right ‹_› _) (by decide)) x dx th l ep hT hR.ok (by exact Nat.le_trans ‹_› (Nat.le_of_eq (Eq.symm ‹_›))) (by exact Nat.le_trans (Nat.le_of_eq ‹_›) (Nat.le_trans ‹_› (by decide))) he (nm_is (p:=sc.2) false hs4) (by rw [hes];exact low_nm (p:=sc.2) false hs4) tl
  rw [hes] at hget
  have hg1:1≤dots T sc.2:=by rw [hsy];exact (hdm yw hyw).1
  have hgi:dots T sc.2≤i+1:=by rw [hsy];exact (hdm yw hyw).2
  have hg6:dots T sc.2≤6:=by omega
  have hRn:=hR.step (plOf_ne h2).1 i
  obtain⟨tk,nm,hnm,rule⟩:=run2T (i:=i) (by exact ox7 ‹_› (Nat.le_trans ‹_› (by decide)))
  obtain⟨l',a,d3,e3,hl',hset⟩:=setT (w:=w) (os:=os) (k:=k+21) (by exact Nat.le_trans (Nat.add_le_add_right ‹_› _) (by decide)) x dx th l ep hT hR.ok (by exact Nat.le_trans ‹_› (Nat.le_of_eq (Eq.symm ‹_›))) (by exact Nat.le_trans (Nat.le_of_eq ‹_›) (Nat.le_trans ‹_› (by decide))) he (nm:=nmS sc.2 (i % 2 == 1)) (nm_is (p:=sc.2) (i % 2 == 1) hs4) (by rw [hes];exact low_nm (p:=sc.2) (i % 2 == 1) hs4) (isDots_dS (dots T sc.2+1)) (tk tl (t1+1+e2)) (t1+1+e2+17)
  have hT':TabIs (l'++[(⟨n1+d2+6+a,nmS sc.2 (i % 2 == 1),tk tl (t1+1+e2),dS (dots T sc.2+1),t1+1+e2+17⟩:Hd)]) (stepT (plOf ls) T i):=by
   unfold stepT
   rw [← hw,← hes]
   refine TabIs.snoc (hs:=[]) hl' ?_
   rw [hes];rfl
  obtain⟨ks',W3',W4',W5',W7',W8',W9',W10',hs',ep',n',t',hT2,hnext⟩:=lp2 hk L it la le x dx th l jx jd cl c0 c1 tc ce u0 u1 u2 u3 V1 ls h2 h4 hp hl4 s s3' s6' j (i+1) (by exact ox3 ‹_›) (stepT (plOf ls) T i) hRn _ (ep+1+1) hT' (kr i ks1 (t1+1+e2)) W3 W4 W5 (.int (i:Int) t) (.ref bb) W9 (.str (dE (dots T sc.2+1)) (t1+1+e2+13)) (n1+d2+6+d3) (t1+1+e2+23+e3)
  refine⟨ks',W3',W4',W5',W7',W8',W9',W10',hs',ep',n',t',hT2,fun h₀ B hL hJ=>?_⟩
  have gR:=rule w n t (n+2) (t+5) n1 t1 (n1+d2) (t1+1+e2) (n1+d2+6+d3) (t1+1+e2+23+e3) L it la le (n+1) 0 x dx th l bb tq tp tl tz (dots T sc.2) ks ks1 V1 V3 V4 V5 (.ref jx) V7 V8 V9 V10 W3 W4 W5 W9 sc.2 sc.1 (ltr sc.2)
   [.int (i:Int) 0,.int ((s - i:Nat):Int) 0,.int 1 0] [.int ((i+1:Nat):Int) 0,.int ((s - (i+1):Nat):Int) 0,.int 1 0] ((ls.map (·.a)).map .ref) ((ls.map (·.a)).reverse.map .ref)
   ((l,lstO (hs.map fun h=>.ref h.a) ep)::hs.map Hd.cell) ((l,lstO (hs.map fun h=>.ref h.a) ep)::hs.map Hd.cell) ((l,lstO ((l'++[(⟨n1+d2+6+a,nmS sc.2 (i % 2 == 1),tk tl (t1+1+e2),dS (dots T sc.2+1),t1+1+e2+17⟩:Hd)]).map fun h=>.ref h.a) (ep+1+1))::(l'++[(⟨n1+d2+6+a,nmS sc.2 (i % 2 == 1),tk tl (t1+1+e2),dS (dots T sc.2+1),t1+1+e2+17⟩:Hd)]).map Hd.cell)
  rw [hnm] at gR
  refine good_again gR B (facts_nil.cons hL.l) ⟨?_,?_,?_,?_,?_,?_,?_,?_,?_,?_,?_,trivial⟩ ?_
  ·exact midH B (fun h₁ B1 K1 F1=>rnx0 B1 it n t s i s3' s6' (by exact ox1 ‹_›)) rfl rfl
  ·exact midH B (fun h₁ B1 K1 F1=>revS B1 la n (t+4) le (n+1) (t+5) (ls.map (·.a)) (by simpa using h2) (by rw [List.length_map];assumption) (K1 _ _ hL.l)) rfl rfl
  ·refine use B [(n+1,lstO ((ls.map (·.a)).reverse.map .ref) 0),(n,fldO "slice" [.none,.none,.int (-1) (t+4)]),(it,rngO (i+1) (s - (i+1)))] [(n+1,lstO ((ls.map (·.a)).reverse.map .ref) 0),(n,fldO "slice" [.none,.none,.int (-1) (t+4)])] (fun z=>?_) (fun z=>?_) (fun h₁ B1 K1 F1=>hin h₁ B1 (hL.keeps K1) (hJ.keeps K1) (F1 _ (.head _)))
   ·simp only [cnt_cons,cnt_tab,cnt_nil,rngO];(try ac_rfl)
   ·simp only [cnt_cons,cnt_tab,cnt_nil,rngO,offO];(try ac_rfl)
  ·refine midE B 3 (T:=tabC w x dx th l ep hs) (T':=tabC w x dx th l ep hs) (fun h₁ B1 K1 F1=>?_) rfl rfl
   have:=hget h₁ B1 n1 (t1+1) []
   rw [List.append_nil] at this
   exact this
  ·exact fun m=>mod_ev (i:Int) 3 _ _ (by decide) m
  ·exact fun m=>add_ev B _ _ hg1 hg6 (Nat.mod_lt _ (by decide)) m
  ·exact fun m=>quo_ev B (by exact Nat.le_trans (Nat.add_le_add_right ‹_› _) (by decide)) _ hg1 hg6 (Nat.mod_lt _ (by decide)) m
  ·exact midH B (fun h₁ B1 K1 F1=>sli_ev B1 _ _ _ _ _ [] (by omega) (by exact Nat.le_trans (Nat.add_le_add_right ‹_› _) (by decide))) rfl rfl
  ·exact fun m=>up_ev B _ (ltr_is _) m
  ·exact fun m=>mod_ev (i:Int) 2 _ _ (by decide) m
  ·refine midE B 6 (T:=tabC w x dx th l ep hs) (T':=tabC w x dx th l (ep+1+1) (l'++[(⟨n1+d2+6+a,nmS sc.2 (i % 2 == 1),tk tl (t1+1+e2),dS (dots T sc.2+1),t1+1+e2+17⟩:Hd)])) (fun h₁ B1 K1 F1=>?_) rfl rfl
   have:=hset h₁ B1 (n1+d2+6) (t1+1+e2+23) []
   rw [List.append_nil,List.append_nil] at this
   exact this
  ·exact fit [] (hnext h₀ B hL hJ) (fun z=>by simp only [cnt_cons,cnt_tab,cnt_nil,rngO,fr2,List.cons_append,List.nil_append];try ac_rfl) (fun _=>rfl)
end
section
variable {w:World} {os:OsState}
theorem run_ok {k:Nat} (hk:k≤60) (la le ts n t:Nat) (ls:List Li) (h2:2≤ls.length) (h4:ls.length≤4) (hp:ls.Pairwise (fun a b=>a.p < b.p)) (hl4:∀ y∈ls,y.p < 4) (s:Nat) (s3:3≤s) (s6:s≤6) :
  ∃(x dx th l ep:Nat) (hs:List Hd) (n' t':Nat),TabIs hs (runN (plOf ls) (pt0 (ls.map (·.p))) 0 s)∧∀(h₀:Heap),Base w h₀→LisIn h₀ la le ls →
   Spec w h₀ os k (.call (.ref 253) ⟨[.ref la,.int s ts],[]⟩) ⟨[],n,t⟩ (.ok (.ret (.ref x))) ⟨tabC w x dx th l ep hs,n',t'⟩:=by
 have hp':ls.Pairwise (fun a b=>a.p≠b.p):=hp.imp fun h=>Nat.ne_of_lt h
 obtain⟨ks1,A3,A4,A5,hs1,ep1,n1,t1,hT1,hl1⟩:=lp1_all (w:=w) (os:=os) (k:=k+21) (by exact Nat.le_trans (Nat.add_le_add_right ‹_› _) (by decide)) n (n+8) la le (n+1+1) (n+1) (t+2+4) (n+1+3) 0 (.int s ts) ls h2 h4 hp' hl4 (upd (tf t) 2 (t+7)) (n+9) (t+8)
 have hR0:Run (plOf ls) (pt0 (ls.map (·.p))) (0+1):=by
  refine⟨⟨?_,?_,?_⟩,by simp [pt0,plOf],?_,?_⟩
  ·unfold pt0;rw [List.map_map]
   show ((ls.map (·.p)).map fun p=>p).Nodup
   rw [List.map_id']
   exact List.pairwise_map.mpr hp'
  ·intro e he
   obtain⟨p,hp,rfl⟩:=List.mem_map.mp he
   obtain⟨y,hy,rfl⟩:=List.mem_map.mp hp
   exact hl4 y hy
  ·intro e he
   obtain⟨p,hp,rfl⟩:=List.mem_map.mp he
   exact Nat.le_refl _
  ·intro z hz
   obtain⟨y,hy,rfl⟩:=List.mem_map.mp hz
   exact⟨(y.p,false,1),List.mem_map_of_mem (List.mem_map_of_mem hy),rfl⟩
  ·intro e he
   obtain⟨p,hp,rfl⟩:=List.mem_map.mp he
   exact Nat.le_refl _
 obtain⟨ks2,B3,B4,B5,B7,B8,B9,B10,hs2,ep2,n2,t2,hT2,hl2⟩:=lp2 (w:=w) (os:=os) (k:=k+21) (by exact Nat.le_trans (Nat.add_le_add_right ‹_› _) (by decide)) n (n1+6+1) la le (n+1+1) (n+1) (t+2+4) (n+1+3) (n1+3+1) (n1+3) (n1+2) n1 (n1+1) (t1+5+3) 0 t1 (t1+2) (t1+3) (t1+4) (.int s ts) ls h2 h4 hp hl4 s s3 s6 s 0 (by exact Nat.zero_add _) _ hR0 hs1 ep1 hT1 (upd ks1 6 (t1+9)) A3 A4 A5 .none .none .none .none (n1+6+2) (t1+9+3)
 refine⟨n+1+1,n+1,t+2+4,n+1+3,ep2,hs2,n2,t2,hT2,fun h₀ B hL=>?_⟩
 refine run_in B (by exact Nat.le_trans ‹_› (by decide)) la ts s n t [] ?_
 have gR:=run_b s3 s6 w n t (n+8) (t+7) n1 t1 (n1+6) (t1+9) n2 t2 la le (n+1+1) (n+1) (t+2+4) (n+1+3) (n1+3+1) (n1+3) (t1+5+3) ts ks1 ks2 A3 A4 A5 B3 B4 B5 (.ref (n1+3+1)) B7 B8 B9 B10 ((ls.map (·.a)).map .ref) [(n+1+3,lstO [] 0)] ((n+1+3,lstO (hs1.map fun h=>.ref h.a) ep1)::hs1.map Hd.cell) ((n+1+3,lstO (hs2.map fun h=>.ref h.a) ep2)::hs2.map Hd.cell)
 refine good_done gR B (facts_nil.cons hL.l) ⟨?_,?_,?_,?_,trivial⟩
 ·refine midE B 1 (T:=[]) (T':=tabC w (n+1+1) (n+1) (t+2+4) (n+1+3) 0 []) (fun h₁ B1 K1 F1=>?_) rfl rfl
  exact hnewS B1 (by exact Nat.le_trans (Nat.add_le_add_right ‹_› _) (by decide)) (n+1) (t+2) []
 ·exact hl1 h₀ B hL
 ·exact tnewS B (by exact Nat.le_trans (Nat.add_le_add_right ‹_› _) (by decide)) (n1+3) (t1+5) (n1+2) _
 ·refine use B ((n1+6,fldO "range" [(.int 0 (t1+9+1)),(.int s ts),(.int 1 (t1+9+2))])::judC w (n1+3+1) (n1+3) (n1+2) n1 (n1+1) (t1+5+3) 0 t1 (t1+2) (t1+3) (t1+4)) ((n1+6,fldO "range" [(.int 0 (t1+9+1)),(.int s ts),(.int 1 (t1+9+2))])::judC w (n1+3+1) (n1+3) (n1+2) n1 (n1+1) (t1+5+3) 0 t1 (t1+2) (t1+3) (t1+4)) (fun z=>?_) (fun z=>?_) (fun h₁ B1 K1 F1=>hl2 h₁ B1 (hL.keeps K1) (F1.sub fun p hp=>.tail _ hp))
  ·rw [show rngO 0 (s - 0)=fldO "range_iterator" [(.int 0 0),(.int s 0),(.int 1 0)] from rfl]
   simp only [cnt_cons,cnt_tab,cnt_nil,judC,fr2,List.cons_append,List.nil_append,List.append_nil]
   try ac_rfl
  ·simp only [cnt_cons,cnt_tab,cnt_nil,judC]
   try ac_rfl
end
theorem mls_2:∀(w:World) (n t tv tu:Nat) (rest:List (Nat×Obj)),GoodP w (.call (.builtin "str.__mul__") ⟨[.str (sO ".") tv,.int 2 tu],[]⟩) [] ⟨rest,n,t⟩ []  (.ok (.ret (.str (sO "..") t))) [] 0 ⟨rest,n,(t+1)⟩:=by
 refine byRow2 "special-get-raises" ?_ ?_<;>(intros;exact⟨by kernel_rfl,by kernel_rfl,by kernel_rfl⟩)
theorem mls_3:∀(w:World) (n t tv tu:Nat) (rest:List (Nat×Obj)),GoodP w (.call (.builtin "str.__mul__") ⟨[.str (sO ".") tv,.int 3 tu],[]⟩) [] ⟨rest,n,t⟩ []  (.ok (.ret (.str (sO "...") t))) [] 0 ⟨rest,n,(t+1)⟩:=by
 refine byRow2 "special-get-raises" ?_ ?_<;>(intros;exact⟨by kernel_rfl,by kernel_rfl,by kernel_rfl⟩)
theorem mls_4:∀(w:World) (n t tv tu:Nat) (rest:List (Nat×Obj)),GoodP w (.call (.builtin "str.__mul__") ⟨[.str (sO ".") tv,.int 4 tu],[]⟩) [] ⟨rest,n,t⟩ []  (.ok (.ret (.str (sO "....") t))) [] 0 ⟨rest,n,(t+1)⟩:=by
 refine byRow2 "special-get-raises" ?_ ?_<;>(intros;exact⟨by kernel_rfl,by kernel_rfl,by kernel_rfl⟩)
theorem mls_5:∀(w:World) (n t tv tu:Nat) (rest:List (Nat×Obj)),GoodP w (.call (.builtin "str.__mul__") ⟨[.str (sO ".") tv,.int 5 tu],[]⟩) [] ⟨rest,n,t⟩ []  (.ok (.ret (.str (sO ".....") t))) [] 0 ⟨rest,n,(t+1)⟩:=by
 refine byRow2 "special-get-raises" ?_ ?_<;>(intros;exact⟨by kernel_rfl,by kernel_rfl,by kernel_rfl⟩)
theorem mls_6:∀(w:World) (n t tv tu:Nat) (rest:List (Nat×Obj)),GoodP w (.call (.builtin "str.__mul__") ⟨[.str (sO ".") tv,.int 6 tu],[]⟩) [] ⟨rest,n,t⟩ []  (.ok (.ret (.str (sO "......") t))) [] 0 ⟨rest,n,(t+1)⟩:=by
 refine byRow2 "special-get-raises" ?_ ?_<;>(intros;exact⟨by kernel_rfl,by kernel_rfl,by kernel_rfl⟩)
theorem mls_7:∀(w:World) (n t tv tu:Nat) (rest:List (Nat×Obj)),GoodP w (.call (.builtin "str.__mul__") ⟨[.str (sO ".") tv,.int 7 tu],[]⟩) [] ⟨rest,n,t⟩ []  (.ok (.ret (.str (sO ".......") t))) [] 0 ⟨rest,n,(t+1)⟩:=by
 refine byRow2 "special-get-raises" ?_ ?_<;>(intros;exact⟨by kernel_rfl,by kernel_rfl,by kernel_rfl⟩)
section
variable {w:World} {h₀:Heap} {os:OsState}
theorem neg_ev {k:Nat} (a:Int) (t:Nat) (m:SM):Spec w h₀ os k (.call (.builtin "int.__neg__") ⟨[.int a t],[]⟩) m (aInt (-a) m).1 (aInt (-a) m).2 :=
 spec_gives_int F.slot_int_neg (fun s=>typeIs_int s a t) F.entry_int_neg (F.args_int_neg_1 _) (AutoIntG9.int___neg___int_0 a t) m
theorem addi_ev {k:Nat} (a b:Int) (t u:Nat) (m:SM):Spec w h₀ os k (.call (.builtin "int.__add__") ⟨[.int a t,.int b u],[]⟩) m (aInt (a+b) m).1 (aInt (a+b) m).2 :=
 spec_gives_int F.slot_int_add (fun s=>typeIs_int s a t) F.entry_int_add (F.args_int_add_2 _ _) (AutoIntG4.int___add___int_int_0 a t b u) m
theorem subi_ev {k:Nat} (a b:Int) (t u:Nat) (m:SM):Spec w h₀ os k (.call (.builtin "int.__sub__") ⟨[.int a t,.int b u],[]⟩) m (aInt (a - b) m).1 (aInt (a - b) m).2 :=
 spec_gives_int F.slot_int_sub (fun s=>typeIs_int s a t) F.entry_int_sub (F.args_int_sub_2 _ _) (AutoIntG9.int___sub___int_int_0 a t b u) m
theorem mls_ev (B:Base w h₀) {k:Nat} (tv tu:Nat) (c:Nat) (i:Int) (hi:i=(c:Int)) (h2:2≤c) (h7:c≤7) (m:SM):Spec w h₀ os k (.call (.builtin "str.__mul__") ⟨[.str (sO ".") tv,.int i tu],[]⟩) m (aStr (dS c) m).1 (aStr (dS c) m).2:=by
 have:c=2∨c=3∨c=4∨c=5∨c=6∨c=7:=by omega
 rcases this with rfl | rfl | rfl | rfl | rfl | rfl
 ·obtain rfl:i=2:=by assumption
  exact good_p (mls_2 w m.sz m.tk tv tu m.cells) B facts_nil
 ·obtain rfl:i=3:=by assumption
  exact good_p (mls_3 w m.sz m.tk tv tu m.cells) B facts_nil
 ·obtain rfl:i=4:=by assumption
  exact good_p (mls_4 w m.sz m.tk tv tu m.cells) B facts_nil
 ·obtain rfl:i=5:=by assumption
  exact good_p (mls_5 w m.sz m.tk tv tu m.cells) B facts_nil
 ·obtain rfl:i=6:=by assumption
  exact good_p (mls_6 w m.sz m.tk tv tu m.cells) B facts_nil
 ·obtain rfl:i=7:=by assumption
  exact good_p (mls_7 w m.sz m.tk tv tu m.cells) B facts_nil
theorem git_ev' (B:Base w h₀) {k:Nat} (l ep n t u:Nat) (x:Int) (vs:List Value) (v:Value) (h0:0≤x) (hi:x < 1000) (hv:vs[x.toNat]?=some v) (hf:h₀.get? l=some (lstO vs ep)) :
  Spec w h₀ os k (.call (.builtin "list.__getitem__") ⟨[.ref l,.int x u],[]⟩) ⟨[],n,t⟩ (.ok (.ret v)) ⟨[],n,t⟩:=by
 intro A s R hA D q
 have ho:s.heap.get? l=some (lstO vs ep):=D.keep _ _ hf
 refine codeAny_call_builtin F.slot_list_getitem.plain F.entry_list_getitem (F.slot_list_getitem.check _ _ _ _ _ _ _ _ ⟨_,ho,rfl⟩ (F.args_list_getitem_2 _ _) ?_)
 show wpAny _ _ (Builtin.List.listSubscript? (.int x u) >>= _) _ _ s
 refine wpAny_bind (wpAny_listSubscript_int (fitsIndex_of (by assumption) (by omega)) ?_)
 clear hi
 obtain⟨i,rfl⟩:=Int.eq_ofNat_of_zero_le h0
 show wpAny _ _ ((seqItemAt l i >>= fun r=>pure (r.map (i,·))) >>= _) _ _ s
 refine wpAny_bind (wpAny_bind (wpAny_seqItemAt ho rfl (wpAny_pure ?_)))
 have e:(vs.toArray)[i]?=some v:=by simpa using hv
 rw [e]
 first
  | exact wpAny_bind (wpAny_pure (wpAny_pure (q _ D)))
  | exact wpAny_pure (q _ D)
theorem git_ev (B:Base w h₀) {k:Nat} (l ep n t i u:Nat) (vs:List Value) (v:Value) (hi:i < 1000) (hv:vs[i]?=some v) (hf:h₀.get? l=some (lstO vs ep)) :
  Spec w h₀ os k (.call (.builtin "list.__getitem__") ⟨[.ref l,.int (i:Int) u],[]⟩) ⟨[],n,t⟩ (.ok (.ret v)) ⟨[],n,t⟩ :=
 git_ev' B l ep n t u i vs v (by omega) (by omega) (by simpa using hv) hf
theorem lsl_ev (B:Base w h₀) {k:Nat} (l ep sl n t:Nat) (vs:List Value) (vl vu:Value) (lo hi:Option Int) (pl:IsPart vl lo) (pu:IsPart vu hi) (hz:vs.length≤100) (hf:h₀.get? l=some (lstO vs ep)) :
  Spec w h₀ os k (.call (.builtin "list.__getitem__") ⟨[.ref l,.ref sl],[]⟩) ⟨[(sl,fldO "slice" [vl,vu,.none])],n,t⟩ (.ok (.ret (.ref n))) ⟨[(n,lstO (kms_pick vs lo hi) 0),(sl,fldO "slice" [vl,vu,.none])],n+1,t⟩:=by
 intro A s R hA D q
 have ho:s.heap.get? l=some (lstO vs ep):=D.keep _ _ hf
 have hs:s.heap.get? sl=some (fldO "slice" [vl,vu,.none]):=(D.cell _ (.head _)).1
 have hTs:s.TypeIs (.ref sl) "slice":=⟨_,hs,rfl⟩
 refine codeAny_call_builtin F.slot_list_getitem.plain F.entry_list_getitem (F.slot_list_getitem.check _ _ _ _ _ _ _ _ ⟨_,ho,rfl⟩ (F.args_list_getitem_2 _ _) ?_)
 show wpAny _ _ (Builtin.List.listSubscript? (.ref sl) >>= _) _ _ s
 refine wpAny_bind ?_
 unfold Builtin.List.listSubscript?
 refine wpAny_bind (wpAny_specialOf hTs slice_no_index ?_)
 simp only [Option.isNone_none,if_true]
 refine wpAny_pure ?_
 show wpAny _ _ (typeOf (.ref sl) >>= _) _ _ s
 refine wpAny_bind (wpAny_typeOf hTs ?_)
 rw [if_neg (by decide)]
 rw [listSliceParts_eq]
 refine wpAny_bind (wpAny_bind (wpAny_field hs rfl (x:=.none) rfl (wpAny_bind (wpAny_listPart .none ?_))))
 rw [if_neg (show ¬ ((rawPart none == rawInt 0)=true) from Bool.false_ne_true)]
 refine wpAny_bind (wpAny_field hs rfl (x:=vl) rfl (wpAny_bind (wpAny_listPart pl ?_)))
 refine wpAny_bind (wpAny_field hs rfl (x:=vu) rfl (wpAny_bind (wpAny_listPart pu (wpAny_pure ?_))))
 refine wpAny_bind (m:=Builtin.List.listItems (.ref l)) ?_
 unfold Builtin.List.listItems
 refine wpAny_bind (wpAny_seqItems ho rfl (wpAny_pure ?_))
 refine wpAny_bind (wpAny_of_eq (sliceIndices_raw lo hi none vs.toArray.size (by simp)) ?_)
 have hsz:s.heap.objs.size=n:=D.size
 have D1:=D.alloc (o:=lstO (kms_pick vs lo hi) 0) (by rfl)
 refine wpAny_bind (wpAny_newObj_type (wpAny_pure ?_) (Nat.le_trans (slicePick_size_le vs.toArray lo hi none) (by rw [List.size_toArray,sizeLine_eq];exact Nat.le_trans ‹_› (by decide))))
 show R (.ok (.ret (.ref s.heap.objs.size))) { s with heap:=s.heap.push (seqObj "list" (slicePick vs.toArray lo hi none) 0) }
 rw [kms_pick_eq,hsz]
 exact q _ D1
theorem pick_to (vs:List Value) (b:Nat):kms_pick vs none (some (b:Int))=vs.take b:=by
 unfold kms_pick kms_lo kms_hi
 dsimp only
 rw [if_neg (by omega),List.drop_zero,Nat.sub_zero,Int.toNat_natCast,List.take_eq_take_iff]
 omega
theorem pick_from (vs:List Value) (a:Nat):kms_pick vs (some (a:Int)) none=vs.drop a:=by
 unfold kms_pick kms_lo kms_hi
 dsimp only
 rw [if_neg (by omega),Int.toNat_natCast]
 by_cases h:a≤vs.length
 ·rw [Nat.min_eq_left h,List.take_of_length_le (by simp)]
 ·rw [Nat.min_eq_right (by omega),List.drop_of_length_le (Nat.le_refl _),List.drop_of_length_le (by omega)]
  simp
end
section
variable {w:World} {h₀:Heap} {os:OsState}
theorem mapSeq_push (vs:List Value) (ep:Nat) (v:Value):(Obj.mapSeq (fun x=>x.push v) (lstO vs ep))=lstO (vs++[v]) (ep+1):=by
 unfold lstO Obj.mapSeq
 simp
theorem app_ev (B:Base w h₀) {k:Nat} (l ep n t:Nat) (vs:List Value) (v:Value) (hz:vs.length≤100) :
  Spec w h₀ os k (.call (.builtin "list.append") ⟨[.ref l,v],[]⟩) ⟨[(l,lstO vs ep)],n,t⟩ (.ok (.ret .none)) ⟨[(l,lstO (vs++[v]) (ep+1))],n,t⟩:=by
 intro A s R hA D q
 have hl:s.heap.get? l=some (lstO vs ep):=(D.cell _ (.head _)).1
 refine codeAny_call_builtin F.slot_list_append.plain F.entry_list_append (F.slot_list_append.check _ _ _ _ _ _ _ _ ⟨_,hl,rfl⟩ (F.args_list_append_2 _ _) (AutoListH.list_append_list_val_0 l vs.toArray ep v (by show vs.length≤_;rw [sizeLine_eq];exact Nat.le_trans ‹_› (by decide)) P₀ w A R s ⟨hl,?_⟩))
 have D':=D.update (j:=0) rfl (f:=Obj.mapSeq fun x=>x.push v) (by show (Obj.mapSeq (fun x=>x.push v) (lstO vs ep)).isFreed=false;rw [mapSeq_push];rfl)
 refine q _ ?_
 have e:(⟨[(l,lstO (vs++[v]) (ep+1))],n,t⟩:SM)=⟨[(l,lstO vs ep)].set 0 (l,Obj.mapSeq (fun x=>x.push v) (lstO vs ep)),n,t⟩:=by rw [mapSeq_push];rfl
 rw [e]
 exact D'
noncomputable def strL (cs:List (Str×Nat)):List Value:=cs.map fun c=>.str c.1 c.2
noncomputable def isS (x:Str):Value→Bool
 | .str a _=>a == x
 | _=>false
theorem isS_gives {cs:List (Str×Nat)} (x:Str) (u:Nat):∀ y,y∈(strL cs).toArray→MeetsSeq.EqGives y (.str x u) (isS x y):=by
 intro y hy
 have hy:y∈strL cs:=by simpa using hy
 obtain⟨c,_,rfl⟩:=List.mem_map.mp hy
 exact eqGives_str c.1 x c.2 u
theorem has_ev (B:Base w h₀) {k:Nat} (l ep n t u:Nat) (cs:List (Str×Nat)) (x:Str) (hf:h₀.get? l=some (lstO (strL cs) ep)) :
  Spec w h₀ os k (.call (.builtin "list.__contains__") ⟨[.ref l,.str x u],[]⟩) ⟨[],n,t⟩ (.ok (.ret (.bool (cs.any fun c=>c.1 == x)))) ⟨[],n,t⟩:=by
 intro A s R hA D q
 have hl:s.heap.get? l=some (lstO (strL cs) ep):=D.keep _ _ hf
 refine codeAny_call_builtin F.slot_list_contains.plain F.entry_list_contains (F.slot_list_contains.check _ _ _ _ _ _ _ _ ⟨_,hl,rfl⟩ (F.args_list_contains_2 _ _) (MeetsSeq.list_contains l (strL cs).toArray ep (.str x u) (isS x) (isS_gives x u) P₀ w A R s ⟨hl,?_⟩))
 have e:(strL cs).toArray.any (isS x)=cs.any fun c=>c.1 == x:=by
  rw [List.any_toArray];unfold strL;rw [List.any_map];rfl
 rw [e]
 exact q _ D
theorem cnt_ev (B:Base w h₀) {k:Nat} (l ep n t u:Nat) (cs:List (Str×Nat)) (x:Str) (hf:h₀.get? l=some (lstO (strL cs) ep)) :
  Spec w h₀ os k (.call (.builtin "list.count") ⟨[.ref l,.str x u],[]⟩) ⟨[],n,t⟩ (.ok (.ret (.int (cs.countP fun c=>c.1 == x:Nat) t))) ⟨[],n,t+1⟩:=by
 intro A s R hA D q
 have hl:s.heap.get? l=some (lstO (strL cs) ep):=D.keep _ _ hf
 refine codeAny_call_builtin F.slot_list_count.plain F.entry_list_count (F.slot_list_count.check _ _ _ _ _ _ _ _ ⟨_,hl,rfl⟩ (F.args_list_count_2 _ _) (MeetsSeq.list_count l (strL cs).toArray ep (.str x u) (isS x) (isS_gives x u) P₀ w A R s ⟨hl,?_⟩))
 have e:(strL cs).toArray.toList.countP (isS x)=cs.countP fun c=>c.1 == x:=by
  show (strL cs).countP _=_
  unfold strL;rw [List.countP_map];rfl
 rw [e]
 have et:s.toks=t:=D.toks
 rw [et]
 exact q _ ⟨D.keep,D.cell,D.nodup,D.size,rfl,D.gens,D.os⟩
end
noncomputable def asksTo {α:Type} (n:Nat) (f:Nat→Nat→Bool) (Q:α→Prop):KasT α→Prop
 | .ret a=>Q a
 | .ask i j k=>i < n∧j < n∧asksTo n f Q (k (f i j))
theorem asksTo_bind {α β:Type} {n:Nat} {f:Nat→Nat→Bool} {Q:β→Prop} {g:α→KasT β}:∀(t:KasT α),asksTo n f (fun a=>asksTo n f Q (g a)) t→asksTo n f Q (t.bind g)
 | .ret _,h=>h
 | .ask _ _ k,h=>⟨h.1,h.2.1,asksTo_bind (k _) h.2.2⟩
theorem asksTo_mono {α:Type} {n:Nat} {f:Nat→Nat→Bool} {Q Q':α→Prop} (hq:∀ a,Q a→Q' a):∀(t:KasT α),asksTo n f Q t→asksTo n f Q' t
 | .ret _,h=>hq _ h
 | .ask _ _ k,h=>⟨h.1,h.2.1,asksTo_mono hq (k _) h.2.2⟩
theorem kasWp_of {α:Type} {n:Nat} {f:Nat→Nat→Bool} {cmp:Nat→Nat→(Bool→Shared→Prop)→Shared→Prop} {Q:α→Shared→Prop} {s:Shared} (hc:∀ i j C,i < n→j < n→C (f i j) s→cmp i j C s) :
  ∀(t:KasT α),asksTo n f (fun a=>Q a s) t→t.kasWp cmp Q s
 | .ret _,h=>h
 | .ask i j k,h=>hc i j _ h.1 h.2.1 (kasWp_of hc (k _) h.2.2)
section
variable (n:Nat) (r:Nat→Int)
noncomputable def ltI (i j:Nat):Bool:=decide (r i < r j)
noncomputable def upTo (p:Array Nat) (k:Nat):Prop:=∀ i j,i < j→j < k→r (p.getD i 0)≤r (p.getD j 0)
noncomputable def okP (p:Array Nat):Prop:=p.Perm (List.range n).toArray
variable {n r}
theorem okP.size {p:Array Nat} (h:okP n p):p.size=n:=by have:=h.size_eq;simpa using this
theorem okP.lt {p:Array Nat} (h:okP n p) {i:Nat} (hi:i < n):p.getD i 0 < n:=by
 have hs:=h.size
 have:p.getD i 0=p[i]'(by exact Nat.le_trans ‹_› (Nat.le_of_eq (Eq.symm ‹_›))):=by simp [Array.getD,hs,hi]
 rw [this]
 have hm:p[i]'(by exact Nat.le_trans ‹_› (Nat.le_of_eq (Eq.symm ‹_›)))∈(List.range n).toArray:=(h.mem_iff).mp (Array.getElem_mem _)
 simpa using hm
theorem okP0:okP n (List.range n).toArray:=Array.Perm.refl _
theorem rg {i:Nat} (hi:i < n):(List.range n).toArray.getD i 0=i:=by simp [Array.getD,hi]
theorem asc_ok {p:Array Nat} (hp:okP n p):∀(f m:Nat),1≤m→m+f=n→upTo r p m→asksTo n (ltI r) (fun m'=>m≤m'∧m'≤n∧upTo r p m') (kas_asc p f m)
 | 0,m,h1,h2,hu=>⟨Nat.le_refl _,by omega,hu⟩
 | f+1,m,h1,h2,hu=>by
  refine⟨hp.lt (by exact ox1 ‹_›),hp.lt (by omega),?_⟩
  by_cases hlt:r (p.getD m 0) < r (p.getD (m - 1) 0)
  ·have e:ltI r (p.getD m 0) (p.getD (m - 1) 0)=true:=by simpa [ltI] using hlt
   rw [e]
   exact⟨Nat.le_refl _,by omega,hu⟩
  ·have e:ltI r (p.getD m 0) (p.getD (m - 1) 0)=false:=by simpa [ltI] using hlt
   rw [e]
   have hu':upTo r p (m+1):=by
    intro i j hij hj
    by_cases hjm:j < m
    ·exact hu i j hij hjm
    ·have:j=m:=by omega
     subst this
     by_cases hi:i=j - 1
     ·subst hi;omega
     ·have:=hu i (j - 1) (by omega) (by exact Nat.sub_lt ‹_› (by decide))
      omega
   exact asksTo_mono (fun a h=>⟨by omega,h.2⟩) _ (asc_ok hp f (m+1) (by exact Nat.succ_pos _) (by exact ox3 ‹_›) hu')
theorem place_ok {p:Array Nat} (hp:okP n p) {k:Nat} (hk:k < n) (hu:upTo r p k):∀(f l q:Nat),q≤l+f→l≤q→q≤k→(∀ i,i < l→r (p.getD i 0)≤r (p.getD k 0))→(∀ i,q≤i→i < k→r (p.getD k 0) < r (p.getD i 0)) →
  asksTo n (ltI r) (fun x=>x≤k∧(∀ i,i < x→r (p.getD i 0)≤r (p.getD k 0))∧(∀ i,x≤i→i < k→r (p.getD k 0) < r (p.getD i 0))) (kas_place p k f l q)
 | 0,l,q,h1,h2,h3,ha,hb=>⟨by exact Nat.le_trans ‹_› ‹_›,ha,fun i hi=>hb i (by omega)⟩
 | f+1,l,q,h1,h2,h3,ha,hb=>by
  unfold kas_place
  by_cases h:l≥q
  ·rw [if_pos h]
   exact⟨by exact Nat.le_trans ‹_› ‹_›,ha,fun i hi=>hb i (by exact Nat.le_trans ‹_› ‹_›)⟩
  ·rw [if_neg h]
   refine⟨hp.lt hk,hp.lt (by omega),?_⟩
   have hm:l≤(l+q) / 2∧(l+q) / 2 < q:=by omega
   generalize (l+q) / 2=mid at hm
   by_cases hlt:r (p.getD k 0) < r (p.getD mid 0)
   ·have e:ltI r (p.getD k 0) (p.getD mid 0)=true:=by simpa [ltI] using hlt
    rw [e]
    show asksTo n (ltI r) _ (kas_place p k f l mid)
    refine place_ok hp hk hu f l mid (by omega) (by omega) (by omega) ha fun i hi hik=>?_
    by_cases him:i=mid
    ·subst him;exact hlt
    ·have:=hu mid i (by omega) hik
     omega
   ·have e:ltI r (p.getD k 0) (p.getD mid 0)=false:=by simpa [ltI] using hlt
    rw [e]
    show asksTo n (ltI r) _ (kas_place p k f (mid+1) q)
    refine place_ok hp hk hu f (mid+1) q (by omega) (by omega) (by assumption) (fun i hi=>?_) hb
    by_cases him:i=mid
    ·subst him;omega
    ·have:=hu i mid (by omega) (by omega)
     omega
theorem getD_eq {p:Array Nat} {i:Nat}:p.getD i 0=(p[i]?).getD 0:=by
 by_cases h:i < p.size<;>simp [Array.getD,h]
theorem bin_ok:∀(f:Nat) (p:Array Nat) (k:Nat),okP n p→k+f=n→upTo r p k→asksTo n (ltI r) (fun p'=>okP n p'∧upTo r p' n) (kas_bin f p k)
 | 0,p,k,hp,h,hu=>by
  have:k=n:=by assumption
  subst this
  exact⟨hp,hu⟩
 | f+1,p,k,hp,h,hu=>by
  unfold kas_bin
  have hk:k < n:=by exact ox1 ‹_›
  refine asksTo_bind _ (asksTo_mono (fun x hx=>?_) _ (place_ok hp hk hu k 0 k (by omega) (by omega) (by exact Nat.le_refl _) (fun i hi=>absurd hi (by omega)) (fun i h1 h2=>absurd h1 (by omega))))
  obtain⟨hx,ha,hb⟩:=hx
  refine bin_ok f _ (k+1) ((bubble_perm p k (k - x)).trans hp) (by exact ox3 ‹_›) ?_
  have g:∀ i,(bubble p k (k - x)).getD i 0=if i=x then p.getD k 0 else if x < i∧i≤k then p.getD (i - 1) 0 else p.getD i 0:=by
   intro i
   rw [getD_eq,getElem?_bubble (by rw [hp.size];exact hk) (k - x) (by omega),show k - (k - x)=x by omega]
   split
   ·rw [getD_eq]
   ·split<;>rw [getD_eq]
  intro i j hij hj
  rw [g,g]
  by_cases hjx:j=x
  ·rw [if_pos hjx,if_neg (by omega),if_neg (by omega)]
   exact ha i (by omega)
  ·rw [if_neg hjx]
   by_cases hix:i=x
   ·rw [if_pos hix,if_pos ⟨by omega,by exact oxo ‹_›⟩]
    exact Int.le_of_lt (hb (j - 1) (by omega) (by omega))
   ·rw [if_neg hix]
    by_cases h1:x < i
    ·rw [if_pos ⟨h1,by omega⟩,if_pos ⟨by omega,by omega⟩]
     exact hu (i - 1) (j - 1) (by omega) (by omega)
    ·rw [if_neg (by omega)]
     by_cases h2:x < j
     ·rw [if_pos ⟨h2,by omega⟩]
      by_cases h3:i=j - 1
      ·subst h3;exact Int.le_refl _
      ·exact hu i (j - 1) (by omega) (by omega)
     ·rw [if_neg (by omega)]
      exact hu i j hij (by omega)
theorem sort_ok (h2:2≤n) (h01:r 0 < r 1):asksTo n (ltI r) (fun p=>okP n p∧upTo r p n) (kas_sort n):=by
 unfold kas_sort
 refine asksTo_bind _ ?_
 unfold kas_count
 obtain⟨f,hf⟩:∃ f,n - 1=f+1:=⟨n - 2,by omega⟩
 rw [hf]
 refine asksTo_bind _ ?_
 have e0:ltI r ((List.range n).toArray.getD 1 0) ((List.range n).toArray.getD (1 - 1) 0)=false:=by
  rw [rg (by assumption),rg (by exact oxg ‹_› (by decide))]
  simp [ltI];omega
 refine⟨by rw [rg (by assumption)];assumption,by rw [rg (by exact oxg ‹_› (by decide))];exact oxg ‹_› (by decide),?_⟩
 rw [e0]
 have hu2:upTo r (List.range n).toArray 2:=by
  intro i j hij hj
  have hi:i=0:=by omega
  have hj:j=1:=by omega
  subst hi hj
  rw [rg (by exact oxg ‹_› (by decide)),rg (by assumption)]
  omega
 refine asksTo_mono (fun m hm=>?_) _ (asc_ok okP0 f 2 (by exact Nat.succ_pos _) (by omega) hu2)
 obtain⟨hm2,hmn,hu⟩:=hm
 by_cases e:m=n
 ·subst e
  rw [if_pos (by simp)]
  show asksTo m (ltI r) _ (if m < m then _ else _)
  rw [if_neg (by omega)]
  exact⟨okP0,hu⟩
 ·rw [if_neg (by simpa using e),if_pos (by assumption)]
  have e1:ltI r ((List.range n).toArray.getD 0 0) ((List.range n).toArray.getD (m - 1) 0)=true:=by
   have a:=hu 0 1 (by exact Nat.le_refl _) (by assumption)
   rw [rg (by exact Nat.le_of_lt ‹_›),rg (by assumption)] at a
   by_cases h:m - 1=1
   ·rw [h,rg (by exact Nat.le_of_lt ‹_›),rg (by assumption)];simpa [ltI] using h01
   ·have b:=hu 1 (m - 1) (by omega) (by omega)
    rw [rg (by assumption),rg (by omega)] at b
    rw [rg (by exact Nat.le_of_lt ‹_›),rg (by omega)]
    simp [ltI];omega
  refine⟨by rw [rg (by exact Nat.le_of_lt ‹_›)];exact Nat.le_of_lt ‹_›,by rw [rg (by omega)];omega,?_⟩
  rw [e1]
  show asksTo n (ltI r) _ (if m < n then _ else _)
  rw [if_pos (by omega),show max m 1=m by omega]
  exact bin_ok (n - m) _ m okP0 (by exact Nat.add_sub_of_le ‹_›) hu
end
noncomputable def resK {α:Type} (f:Nat→Nat→Bool):KasT α→α
 | .ret a=>a
 | .ask i j k=>resK f (k (f i j))
theorem asks_res {α:Type} {n:Nat} {f:Nat→Nat→Bool} {Q:α→Prop}:∀(t:KasT α),asksTo n f Q t→Q (resK f t)
 | .ret _,h=>h
 | .ask _ _ k,h=>asks_res (k _) h.2.2
theorem asks_wp {α:Type} {n:Nat} {f:Nat→Nat→Bool} {Q:α→Prop} {G:α→Prop}:∀(t:KasT α),asksTo n f Q t→G (resK f t)→asksTo n f G t
 | .ret _,_,h=>h
 | .ask _ _ k,h,g=>⟨h.1,h.2.1,asks_wp (k _) h.2.2 g⟩
structure Of where
 a:Nat
 q:Int
 tq:Nat
 p:Int
 tp:Nat
 c:Str
 tl:Nat
noncomputable def Of.cell (o:Of):Nat×Obj:=(o.a,offO o.q o.tq o.p o.tp o.c o.tl)
noncomputable def Of.r (o:Of):Int:=4*o.q+o.p
noncomputable def of0:Of:=⟨0,0,0,0,0,default,0⟩
noncomputable def rk (os:List Of) (i:Nat):Int:=(os.getD i of0).r
noncomputable def sortO (os:List Of):List Of:=(resK (ltI (rk os)) (kas_sort os.length)).toList.map fun i=>os.getD i of0
theorem map_getD_range (os:List Of):(List.range os.length).map (fun i=>os.getD i of0)=os:=by
 apply List.ext_getElem (by simp)
 intro i h1 h2
 simp [h2]
theorem sortO_perm {os:List Of} (h2:2≤os.length) (h01:rk os 0 < rk os 1):(sortO os).Perm os∧(sortO os).Pairwise (fun a b=>a.r≤b.r):=by
 obtain⟨hp,hu⟩:=asks_res _ (sort_ok (r:=rk os) h2 h01)
 unfold sortO
 generalize resK (ltI (rk os)) (kas_sort os.length)=p at hp hu
 constructor
 ·have e:p.toList.Perm (List.range os.length):=by simpa using hp.toList
  have:=e.map (fun i=>os.getD i of0)
  rwa [map_getD_range] at this
 ·rw [List.pairwise_map,List.pairwise_iff_getElem]
  intro i j hi hj hij
  have hs:=hp.size
  have hi':i < p.size:=by simpa using hi
  have hj':j < p.size:=by simpa using hj
  have h:=hu i j hij (by omega)
  have ei:p.getD i 0=p.toList[i]:=by simp [Array.getD,hi']
  have ej:p.getD j 0=p.toList[j]:=by simp [Array.getD,hj']
  rw [ei,ej] at h
  exact h
noncomputable def refsO (os:List Of):List Value:=os.map fun o=>.ref o.a
theorem refs_sortO {os:List Of} (h2:2≤os.length) (h01:rk os 0 < rk os 1):(resK (ltI (rk os)) (kas_sort os.length)).toList.map (fun i=>(refsO os).getD i Value.none)=refsO (sortO os):=by
 obtain⟨hp,hu⟩:=asks_res _ (sort_ok (r:=rk os) h2 h01)
 unfold sortO refsO
 generalize resK (ltI (rk os)) (kas_sort os.length)=p at hp
 rw [List.map_map]
 refine List.map_congr_left fun i hi=>?_
 have:i < os.length:=by
  have:=(hp.mem_iff (a:=i)).mp (by simpa using hi)
  simpa using this
 simp [this]
section
variable {w:World} {h₀:Heap} {os:OsState}
theorem off_ask {A:Around} {s:Shared} {b:Bool} (hb:b=true) {x y:Of} (hx:s.heap.get? x.a=some (offO x.q x.tq x.p x.tp x.c x.tl)) (hy:s.heap.get? y.a=some (offO y.q y.tq y.p y.tp y.c y.tl))
  (px:0≤x.p∧x.p < 4) (py:0≤y.p∧y.p < 4) (hne:x.r=y.r→x.c=y.c) {Q:Bool→Shared→Prop} {E:Value→Shared→Prop} (h:Q (decide (x.r < y.r)) s) :
  wpAny (model P₀ w) A (keyLt' (tuples' b) (.ref x.a) (.ref y.a)) Q E s:=by
 subst hb
 refine kat_lt hx rfl hy rfl ?_
 show KatLex P₀ w A true (decide (3 < 3)) Q [(.int x.q x.tq,.int y.q y.tq),(.int x.p x.tp,.int y.p y.tp),(.str x.c x.tl,.str y.c y.tl)] 0 s
 refine kat_cons (wpAny_eqBool_int ?_)
 refine kat_go (fun he=>?_) (fun he=>?_)
 ·have he:x.q=y.q:=by simpa using he
  refine kat_yes (kat_cons (wpAny_eqBool_int ?_))
  refine kat_go (fun hp=>?_) (fun hp=>?_)
  ·have hp:x.p=y.p:=by simpa using hp
   have hr:x.r=y.r:=by unfold Of.r;rw [he,hp]
   refine kat_yes (kat_cons (wpAny_eqBool_str ?_))
   refine kat_go (fun _=>?_) (fun hc=>?_)
   ·refine kat_yes (kat_nil ?_)
    rw [show decide (x.r < y.r)=false by rw [hr];simp] at h
    exact h
   ·rw [hne hr] at hc;simp at hc
  ·have hp:x.p≠y.p:=by simpa using hp
   refine kat_no (kat_one _ _ (PySem.P.lt_int ?_))
   show Q (decide (x.p < y.p)) s
   have:decide (x.p < y.p)=decide (x.r < y.r):=by unfold Of.r;rw [he];congr 1;apply propext;omega
   rw [this];exact h
 ·have he:x.q≠y.q:=by simpa using he
  refine kat_no (oneLt_int ?_)
  have:decide (x.q < y.q)=decide (x.r < y.r):=by unfold Of.r;congr 1;apply propext;omega
  rw [this];exact h
theorem kat_tups:∀(l:List Of) (s:Shared),(∀ o∈l,s.heap.get? o.a=some (offO o.q o.tq o.p o.tp o.c o.tl))→KatTups s.heap (refsO l) (l.map fun o=>.int o.q o.tq)
 | [],_,_=>KatTups.nil
 | o::l,s,h=>KatTups.cons (h o (.head _)) rfl rfl rfl (kat_tups l s fun x hx=>h x (.tail _ hx))
theorem ref_getD {l:List Of} {i:Nat} (hi:i < l.length):(refsO l).getD i Value.none=.ref (l.getD i of0).a:=by
 unfold refsO;simp [hi]
structure OffsOk (l:List Of):Prop where
 two:2≤l.length
 few:l.length < 64
 asc:rk l 0 < rk l 1
 pl:∀ o∈l,0≤o.p∧o.p < 4
 one:∀ x∈l,∀ y∈l,x.r=y.r→x.c=y.c
theorem lsort_ok {A:Around} {s:Shared} {m:SM} (D:Rep h₀ os s m) {l:List Of} (ho:OffsOk l) {a ep:Nat} {rest:List (Nat×Obj)} (hm:m.cells=(a,lstO (refsO l) ep)::rest) (hf:∀ o∈l,s.heap.get? o.a=some (offO o.q o.tq o.p o.tp o.c o.tl)) (hfa:∀ o∈l,o.a≠a)
  {P:PySem.Fin→Shared→Prop} {E:Value→Shared→Prop} (h:∀ s' c,Rep h₀ os s' ⟨(m.sz+1,lstO [] 0)::(m.sz,tupO (refsO l))::(a,lstO (refsO (sortO l)) c)::rest,m.sz+2,m.tk⟩→(c=ep+1+1)→P (.done (.ret .none)) s') :
  wpAny (model P₀ w) A (Builtin.«list.sort» ⟨[.ref a],[]⟩) P E s:=by
 have h2:=ho.two
 have h64:=ho.few
 have hl:(refsO l).length=l.length:=by unfold refsO;simp
 have ca:=D.cell (a,lstO (refsO l) ep) (by rw [hm];exact .head _)
 have ho0:s.heap.get? a=some (seqObj "list" (refsO l).toArray ep):=ca.1
 have D1:=D.update (j:=0) (p:=(a,lstO (refsO l) ep)) (by rw [hm];rfl) (f:=Obj.mapSeq fun _=>(#[]:Array Value)) (by rfl)
 have e1:Obj.mapSeq (fun _=>(#[]:Array Value)) (lstO (refsO l) ep)=lstO [] (ep+1):=by
  unfold lstO Obj.mapSeq
  simp [hl]
  omega
 rw [e1] at D1
 have D2:=D1.alloc (o:=seqObj "tuple" (refsO l).toArray 0) (by rfl)
 have D3:=D2.alloc (o:=seqObj "list" #[] 0) (by rfl)
 have k3:∀ b o,b≠a→s.heap.get? b=some o→(((s.heap.update a (Obj.mapSeq fun _=>(#[]:Array Value))).push (seqObj "tuple" (refsO l).toArray 0)).push (seqObj "list" #[] 0)).get? b=some o:=fun b o hb e =>
  Heap.get?_push_of_some _ (Heap.get?_push_of_some _ (((Heap.SameBut.update s.heap a (Obj.mapSeq fun _=>(#[]:Array Value))).2 b hb).trans e))
 have ho3:∀ o∈l,(((s.heap.update a (Obj.mapSeq fun _=>(#[]:Array Value))).push (seqObj "tuple" (refsO l).toArray 0)).push (seqObj "list" #[] 0)).get? o.a=some (offO o.q o.tq o.p o.tp o.c o.tl):=fun o hm=>k3 _ _ (hfa o hm) (hf o hm)
 have hoa:(s.heap.update a (Obj.mapSeq fun _=>(#[]:Array Value))).get? a=some (seqObj "list" #[] (ep+1)):=(D1.cell (a,lstO [] (ep+1)) (by rw [hm];exact .head _)).1
 have ho3a:(((s.heap.update a (Obj.mapSeq fun _=>(#[]:Array Value))).push (seqObj "tuple" (refsO l).toArray 0)).push (seqObj "list" #[] 0)).get? a=some (seqObj "list" #[] (ep+1)):=Heap.get?_push_of_some _ (Heap.get?_push_of_some _ hoa)
 rw [list_sort_plain]
 refine wpAny_bind (listItems_at ho0 rfl ?_)
 refine wpAny_bind (listUpdate_at ho0 rfl ?_ (by rw [List.size_toArray,sizeLine_eq];omega) (Nat.zero_le _))
 refine wpAny_bind (seqEpoch_at hoa rfl ?_)
 refine wpAny_bind (wpAny_newTuple ?_ (by show (refsO l).length≤_;rw [sizeLine_eq];omega))
 refine wpAny_bind (wpAny_newList ?_ (Nat.zero_le _))
 refine wpAny_holding ?_
 show wpAny (model P₀ w) A _ P E { s with heap:=((s.heap.update a (Obj.mapSeq fun _=>(#[]:Array Value))).push (seqObj "tuple" (refsO l).toArray 0)).push (seqObj "list" #[] 0) }
 dsimp only
 have hn2:¬ (refsO l).toArray.size < 2:=by rw [List.size_toArray];omega
 rw [if_neg hn2,if_neg hn2]
 have hsk:=sort_ok (n:=l.length) (r:=rk l) h2 ho.asc
 refine wpAny_bind (kat_kind (fs:=l.map fun o=>.int o.q o.tq) (T:=.type "int") (kat_tups l _ ho3) (by rw [List.length_map];omega) (fun v hv=>?_) rfl ?_)
 ·obtain⟨o,_,rfl⟩:=List.mem_map.mp hv
  exact Looks.of_pure rfl
 refine wpAny_bind (wpAny_mono (kat_run (Q:=fun st' s'=>(arrOf st'=(resK (ltI (rk l)) (kas_sort l.length)).map (kas_item ((refsO l).toArray.zip (refsO l).toArray))∧failedOf st'=none)∧s'={ s with heap:=((s.heap.update a (Obj.mapSeq fun _=>(#[]:Array Value))).push (seqObj "tuple" (refsO l).toArray 0)).push (seqObj "list" #[] 0) })
  (G:=fun p s'=>p=resK (ltI (rk l)) (kas_sort l.length)∧s'={ s with heap:=((s.heap.update a (Obj.mapSeq fun _=>(#[]:Array Value))).push (seqObj "tuple" (refsO l).toArray 0)).push (seqObj "list" #[] 0) })
  rfl (by omega) (by omega) (fun p' st' s' a1 a2 a3 a4=>⟨⟨by rw [a2,a4.1],a3⟩,a4.2⟩) ?_) ?_ fun _ _ e=>e)
 ·rw [hl]
  refine kasWp_of (n:=l.length) (f:=ltI (rk l)) (fun i j C hi hj hC=>?_) _ (asks_wp _ hsk ⟨rfl,rfl⟩)
  unfold kas_ask
  rw [ref_getD hi,ref_getD hj]
  have mi:l.getD i of0∈l:=by simp [hi]
  have mj:l.getD j of0∈l:=by simp [hj]
  exact off_ask (by rfl) (ho3 _ mi) (ho3 _ mj) (ho.pl _ mi) (ho.pl _ mj) (ho.one _ mi _ mj) hC
 ·rintro⟨⟨⟩,st'⟩ s' ⟨⟨har,hfl⟩,rfl⟩
  dsimp only
  have hout:(arrOf st').map (·.2)=(refsO (sortO l)).toArray:=by
   rw [← refs_sortO h2 ho.asc];exact kat_snds rfl har
  rw [hout]
  have hps:=(asks_res _ hsk).1.size
  have hso:(refsO (sortO l)).length=l.length:=by rw [← refs_sortO h2 ho.asc];simpa using hps
  refine wpAny_bind (seqEpoch_at ho3a rfl ?_)
  refine wpAny_bind (listUpdate_at ho3a rfl ?_ (Nat.zero_le _) (by rw [List.size_toArray,hso,sizeLine_eq];omega))
  rw [hfl]
  simp only [bne_self_eq_false,Bool.false_eq_true,if_false]
  have D4:=D3.update (j:=2) (p:=(a,lstO [] (ep+1))) (by rw [hm];rfl) (f:=Obj.mapSeq fun _=>(refsO (sortO l)).toArray) (by rfl)
  have e4:Obj.mapSeq (fun _=>(refsO (sortO l)).toArray) (lstO [] (ep+1))=lstO (refsO (sortO l)) (ep+1+1):=by
   have hne:refsO (sortO l)≠[]:=fun h=>by rw [h] at hso;simp at hso;omega
   unfold lstO Obj.mapSeq
   simp [hne]
  rw [e4,hm] at D4
  exact wpAny_pure (h _ _ D4 rfl)
theorem sorted_ok (B:Base w h₀) {k:Nat} (l ep n t:Nat) (l':List Of) (ho:OffsOk l') (hL:Facts h₀ ((l,lstO (refsO l') ep)::l'.map Of.cell)) :
  Spec w h₀ os k (.call (.builtin "sorted") ⟨[.ref l],[]⟩) ⟨[],n,t⟩ (.ok (.ret (.ref (n+1)))) ⟨[(n+1,lstO (refsO (sortO l')) 2)],n+4,t⟩:=by
 intro A s R hA D q
 have h64:=ho.few
 have hll:(refsO l').length=l'.length:=by unfold refsO;simp
 have hl:s.heap.get? l=some (lstO (refsO l') ep):=D.keep _ _ (hL _ (.head _))
 have hIs:s.heap.IsList l (refsO l').toArray:=⟨_,hl,rfl,ep,rfl⟩
 have hs:s.heap.objs.size=n:=D.size
 have D1:=D.alloc (o:=seqObj "list" #[] 0) (by rfl)
 have D2:=D1.update (j:=0) (p:=(n,seqObj "list" #[] 0)) (by rfl) (f:=Obj.mapSeq (·++(refsO l').toArray)) (by rfl)
 have D3:=D2.alloc (o:=seqObj "list" (refsO l').toArray 0) (by rfl)
 have fin:=fun(E:Value→Shared→Prop)=>lsort_ok (w:=w) (A:=A.in1.in1) (E:=E) D3 ho (a:=n+1) (ep:=0) (rest:=[(n,Obj.mapSeq (·++(refsO l').toArray) (seqObj "list" #[] 0))]) rfl
  (fun o hm=>D3.keep _ _ (hL _ (.tail _ (List.mem_map_of_mem hm)))) (fun o hm e=>by
   have:=Heap.lt_size (D.keep _ _ (hL o.cell (.tail _ (List.mem_map_of_mem hm))))
   rw [hs] at this
   exact absurd (show o.a < n from this) (by rw [e];exact Nat.not_lt.mpr (Nat.le_succ n))) (P:=fun fin s'=>∃ v,fin=.done (.ret v)∧R (.ok (.ret (.ref (n+1)))) s')
   (fun s' c D' hc=>⟨_,rfl,q _ (by
    subst hc
    exact⟨D'.keep,fun p hp=>D'.cell p (by rcases List.mem_singleton.mp hp with rfl;exact .tail _ (.tail _ (.head _))),by simp,D'.size,D'.toks,D'.gens,D'.os⟩)⟩)
 refine codeAny_call_builtin plain_sorted entry_sorted ?_
 have hck:∀(Q:Unit→Shared→Prop) (E:Value→Shared→Prop) (s:Shared),Q () s→wpAny (model P₀ w) A.in1 (checkBuiltinCall "sorted" ⟨[.ref l],[]⟩) Q E s:=by
  intro Q E s hq
  have ha:=args_sorted1 (.ref l)
  simp only [checkBuiltinCall,kind_sorted]
  cases hsig:Manifest.signature? "sorted" with
  | none=>exact wpAny_pure hq
  | some sig =>
   simp only [argsOk,hsig] at ha
   have h2:Bind.checkArgs "sorted" sig ⟨[.ref l],[]⟩=pure ():=ha
   show wpAny _ A.in1 (Bind.checkArgs "sorted" sig ⟨[.ref l],[]⟩) _ _ s
   rw [h2];exact wpAny_pure hq
 refine hck _ _ _ ?_
 unfold Builtin.«sorted»
 refine wpAny_bind (m:=checkCount "sorted" 1 1 _) (wpAny_pure ?_)
 refine wpAny_bind (collect_list hIs ?_ (by rw [sizeLine_eq];omega))
 refine wpAny_bind (wpAny_newList ?_ (by rw [sizeLine_eq];omega))
 have hsz:((s.heap.push (seqObj "list" #[] 0)).update s.heap.objs.size (Obj.mapSeq (·++(refsO l').toArray))).objs.size=n+1:=by
  rw [Heap.size_update,size_push',hs]
 rw [hsz,hs]
 refine wpAny_bind (wpAny_holding (wpAny_call_entry slot_list_sort ⟨_,(D3.cell (n+1,lstO (refsO l') 0) (.head _)).1,rfl⟩ entry_list_sort ?_ (args_list_sort _)))
 refine wpAny_mono (fin _) (fun fin s' hk=>?_) fun _ _ x=>x
 obtain⟨v,rfl,hv⟩:=hk
 exact⟨v,rfl,wpAny_pure hv⟩
end
noncomputable def nm258:List Str:=[sO "lists",sO "seats",sO "offers",sO "place",sO "letter",sO "entry",sO "k",sO "due",sO "turn"]
theorem due_in {w:World} {h₀:Heap} {os:OsState} (B:Base w h₀) {k:Nat} (hk:k≤200) (la ts:Nat) (s:Int) (n t:Nat) (rest:List (Nat×Obj)) {r:Result} {m':SM}
  (h:Spec w h₀ os k (.func (bodyOf (fdAt w 258)) (envC w 258 n [((sO "won"),(n+1))])) ⟨((n+1),celO none)::(n,frN w nm258 (tf t) [(.ref la),(.int s ts)])::rest,(n+2),(t+2)⟩ r m') :
  Spec w h₀ os k (.call (.ref 258) ⟨[.ref la,.int s ts],[]⟩) ⟨rest,n,t⟩ r m' :=
 spec_fn B (by kernel_rfl) (show RT3 (runT w (bindZ (fdAt w 258) ⟨[.ref la,.int s ts],[]⟩) ⟨rest,n,t⟩ []) (.ok [((sO "lists"),(.ref la)),((sO "seats"),(.int s ts))]) ⟨rest,n,t⟩ from⟨by kernel_rfl,by kernel_rfl,by kernel_rfl⟩)
  (show RT3 (runT w (envZ (fdAt w 258).scope (fdAt w 258).globals (fdAt w 258).closure [((sO "lists"),(.ref la)),((sO "seats"),(.int s ts))] ((fdAt w 258).qualname++sO ".<locals>.") (some 258) (fdAt w 258).code none (fdAt w 258).builtins) ⟨rest,n,t⟩ [2,2,2,2]) (.ok (envC w 258 n [((sO "won"),(n+1))])) ⟨((n+1),celO none)::(n,frN w nm258 (tf t) [(.ref la),(.int s ts)])::rest,(n+2),(t+2)⟩ from⟨by kernel_rfl,by kernel_rfl,by kernel_rfl⟩) h hk
theorem due1_e:∀(w:World) (n t s1 t1 L wc it st:Nat) (V15:Value) (f1 f2:List Value) (O3:Obj) (rest:List (Nat×Obj)),(fun(A:Nat×Obj)=>GoodH w (loopC (stAt (bodyOf (fdAt w 258)) 1) (.ref it) (envC w 258 L [(sO "won",wc)])) [] ⟨A::(L,O3)::rest,n,t⟩ [1,1,1] [.at (.call (.builtin "list_iterator.__next__") ⟨[(.ref it)],[]⟩) ⟨A::(L,O3)::rest,n,t⟩ (.error (.ref st)) ⟨(st,fldO "StopIteration" [V15,.none,.none,.none,(.bool false),.none])::(it,fldO "list_iterator" f2)::(L,O3)::rest,s1,t1⟩] (.ok .next) [2] 3 ⟨(L,O3)::rest,s1,t1⟩) (it,fldO "list_iterator" f1):=by walk_at "r"
theorem due2_e:∀(w:World) (n t s1 t1 L wc it st:Nat) (V15:Value) (f1 f2:List Value) (O3:Obj) (rest:List (Nat×Obj)),(fun(A:Nat×Obj)=>GoodH w (loopC (stAt (forB (stAt (bodyOf (fdAt w 258)) 1)) 0) (.ref it) (envC w 258 L [(sO "won",wc)])) [] ⟨A::(L,O3)::rest,n,t⟩ [1,1,1] [.at (.call (.builtin "range_iterator.__next__") ⟨[(.ref it)],[]⟩) ⟨A::(L,O3)::rest,n,t⟩ (.error (.ref st)) ⟨(st,fldO "StopIteration" [V15,.none,.none,.none,(.bool false),.none])::(it,fldO "range_iterator" f2)::(L,O3)::rest,s1,t1⟩] (.ok .next) [2] 3 ⟨(L,O3)::rest,s1,t1⟩) (it,fldO "range_iterator" f1):=by walk_at "r"
theorem due4_e:∀(w:World) (n t s1 t1 L wc it st:Nat) (V15:Value) (f1 f2:List Value) (O3:Obj) (rest:List (Nat×Obj)),(fun(A:Nat×Obj)=>GoodH w (loopC (stAt (bodyOf (fdAt w 258)) 4) (.ref it) (envC w 258 L [(sO "won",wc)])) [] ⟨A::(L,O3)::rest,n,t⟩ [1,1,1] [.at (.call (.builtin "range_iterator.__next__") ⟨[(.ref it)],[]⟩) ⟨A::(L,O3)::rest,n,t⟩ (.error (.ref st)) ⟨(st,fldO "StopIteration" [V15,.none,.none,.none,(.bool false),.none])::(it,fldO "range_iterator" f2)::(L,O3)::rest,s1,t1⟩] (.ok .next) [2] 3 ⟨(L,O3)::rest,s1,t1⟩) (it,fldO "range_iterator" f1):=by walk_at "r"
theorem due2_f:∀(w:World) (n t L wc it e of ep tp tl tv:Nat) (ks:Nat→Nat) (V0 V1 V11 V12 V13 V14:Value) (p v kk:Int) (c:Str) (f1 f2 vs:List Value) (rest:List (Nat×Obj)),(fun(A B C E F G H:Nat×Obj) (D:Code)=>Good w D [(e,tupO [(.int v tv),V11,V12,V13,V14])] ⟨H::B::F::rest,n,t⟩ [1,1,2,2,2,3,3,3,3,2,1001,1001,1001,0,1001,1001,1,2,1,1,2,2,1] [.at (.call (.builtin "range_iterator.__next__") ⟨[(.ref it)],[]⟩) ⟨H::B::F::rest,n,t⟩ (.ok (.ret (.int kk t))) ⟨E::B::F::rest,n,(t+1)⟩,.any (.call (.builtin "int.__mul__") ⟨[(.int v tv),(.int 60 (t+3))],[]⟩) (aInt (v*60)),.any (.call (.builtin "int.__floordiv__") ⟨[(.int (v*60) (t+4)),(.int kk t)],[]⟩) (aInt ((v*60).fdiv kk)),.any (.call (.builtin "int.__neg__") ⟨[(.int ((v*60).fdiv kk) (t+5))],[]⟩) (aInt (-(v*60).fdiv kk)),.at (.call (.builtin "list.append") ⟨[(.ref of),(.ref n)],[]⟩) ⟨C::E::A::F::rest,(n+1),(t+7)⟩ (.ok (.ret .none)) ⟨C::E::A::G::rest,(n+1),(t+7)⟩] (.ok (.again D)) [0,1,2,3] 4 ⟨C::E::A::G::rest,(n+1),(t+7)⟩) (L,frN w nm258 (upd ks 6 (t+1)) [V0,V1,(.ref of),(.int p tp),(.str c tl),(.ref e),(.int kk t)]) (L,frN w nm258 ks [V0,V1,(.ref of),(.int p tp),(.str c tl),(.ref e)]) (n,tupO [(.int (-(v*60).fdiv kk) (t+6)),(.int p tp),(.str c tl)]) (it,fldO "range_iterator" f2) (of,lstO vs ep) (of,lstO (vs++[(.ref n)]) (ep+1)) (it,fldO "range_iterator" f1) (loopC (stAt (forB (stAt (bodyOf (fdAt w 258)) 1)) 0) (.ref it) (envC w 258 L [(sO "won",wc)])):=by walk_at "r"
theorem due2_l:∀(w:World) (n t L wc it e of ep tp tl tv:Nat) (ks:Nat→Nat) (V0 V1 V6 V11 V12 V13 V14:Value) (p v kk:Int) (c:Str) (f1 f2 vs:List Value) (rest:List (Nat×Obj)),(fun(A B C E F G H:Nat×Obj) (D:Code)=>Good w D [(e,tupO [(.int v tv),V11,V12,V13,V14])] ⟨H::B::F::rest,n,t⟩ [1,1,2,2,2,3,3,3,3,2,1001,1001,1001,0,1001,1001,1,2,1,1,2,2,1] [.at (.call (.builtin "range_iterator.__next__") ⟨[(.ref it)],[]⟩) ⟨H::B::F::rest,n,t⟩ (.ok (.ret (.int kk t))) ⟨E::B::F::rest,n,(t+1)⟩,.any (.call (.builtin "int.__mul__") ⟨[(.int v tv),(.int 60 (t+3))],[]⟩) (aInt (v*60)),.any (.call (.builtin "int.__floordiv__") ⟨[(.int (v*60) (t+4)),(.int kk t)],[]⟩) (aInt ((v*60).fdiv kk)),.any (.call (.builtin "int.__neg__") ⟨[(.int ((v*60).fdiv kk) (t+5))],[]⟩) (aInt (-(v*60).fdiv kk)),.at (.call (.builtin "list.append") ⟨[(.ref of),(.ref n)],[]⟩) ⟨C::E::A::F::rest,(n+1),(t+7)⟩ (.ok (.ret .none)) ⟨C::E::A::G::rest,(n+1),(t+7)⟩] (.ok (.again D)) [0,1,2,3] 4 ⟨C::E::A::G::rest,(n+1),(t+7)⟩) (L,frN w nm258 ks [V0,V1,(.ref of),(.int p tp),(.str c tl),(.ref e),(.int kk t)]) (L,frN w nm258 ks [V0,V1,(.ref of),(.int p tp),(.str c tl),(.ref e),V6]) (n,tupO [(.int (-(v*60).fdiv kk) (t+6)),(.int p tp),(.str c tl)]) (it,fldO "range_iterator" f2) (of,lstO vs ep) (of,lstO (vs++[(.ref n)]) (ep+1)) (it,fldO "range_iterator" f1) (loopC (stAt (forB (stAt (bodyOf (fdAt w 258)) 1)) 0) (.ref it) (envC w 258 L [(sO "won",wc)])):=by walk_at "r"
theorem due1_f3:∀(w:World) (n t s1 t1 L wc it a e of ep ep2 tp tl ts:Nat) (ks ks2:Nat→Nat) (V0 V16:Value) (p:Int) (c:Str) (f1 f2 vs vt:List Value) (rest rest1:List (Nat×Obj)),(fun(A B C E F:Nat×Obj) (D:Code)=>Good w D [(a,tupO [(.int p tp),(.str c tl),(.ref e)])] ⟨F::A::E::rest,n,t⟩ [1,1,1,1001,1001,1001,0,1001,1,1,0,1,1,1,1001,1,1,1,0,1,1,1,1001,1,1,1,0,1,1,1,1001,1,1,1,0,1,1,1,1001,1,1,1,5,5,5,5,5,5,0,0,5,1,0,0,1,1,0,1,1,1,1,0,1,1,1,1,1,1] [.at (.call (.builtin "list_iterator.__next__") ⟨[(.ref it)],[]⟩) ⟨F::A::E::rest,n,t⟩ (.ok (.ret (.ref a))) ⟨C::A::E::rest,n,t⟩,.any (.call (.builtin "int.__add__") ⟨[(.int 3 ts),(.int 1 (t+4))],[]⟩) (aInt 4),.at (loopC (stAt (forB (stAt (bodyOf (fdAt w 258)) 1)) 0) (.ref (n+4)) (envC w 258 L [(sO "won",wc)])) ⟨((n+4),fldO "range_iterator" [(.int 1 0),(.int 3 0),(.int 1 0)])::((n+3),fldO "range" [(.int 1 (t+3)),(.int 4 (t+5)),(.int 1 (t+6))])::((n+2),fldO "StopIteration" [(.ref (n+1)),.none,.none,.none,(.bool false),.none])::((n+1),tupO [])::(n,fldO "tuple_iterator" [.none,(.int 3 0)])::C::(L,frN w nm258 (upd (upd (upd ks 3 t) 4 (t+1)) 5 (t+2)) [V0,(.int 3 ts),(.ref of),(.int p tp),(.str c tl),(.ref e)])::E::rest,(n+5),(t+7)⟩ (.ok .next) ⟨B::C::(of,lstO vt ep2)::rest1,s1,t1⟩] (.ok (.again D)) [0,1,2] 3 ⟨B::C::(of,lstO vt ep2)::rest1,s1,t1⟩) (L,frN w nm258 ks [V0,(.int 3 ts),(.ref of)]) (L,frN w nm258 ks2 [V0,(.int 3 ts),(.ref of),(.int p tp),(.str c tl),(.ref e),V16]) (it,fldO "list_iterator" f2) (of,lstO vs ep) (it,fldO "list_iterator" f1) (loopC (stAt (bodyOf (fdAt w 258)) 1) (.ref it) (envC w 258 L [(sO "won",wc)])):=by walk_at "r"
theorem due1_l3:∀(w:World) (n t s1 t1 L wc it a e of ep ep2 tp tl ts:Nat) (ks ks2:Nat→Nat) (V0 V3 V4 V5 V6 V16:Value) (p:Int) (c:Str) (f1 f2 vs vt:List Value) (rest rest1:List (Nat×Obj)),(fun(A B C E F:Nat×Obj) (D:Code)=>Good w D [(a,tupO [(.int p tp),(.str c tl),(.ref e)])] ⟨F::A::E::rest,n,t⟩ [1,1,1,1001,1001,1001,0,1001,1,1,0,1,1,1,1001,1,1,1,0,1,1,1,1001,1,1,1,0,1,1,1,1001,1,1,1,0,1,1,1,1001,1,1,1,5,5,5,5,5,5,0,0,5,1,0,0,1,1,0,1,1,1,1,0,1,1,1,1,1,1] [.at (.call (.builtin "list_iterator.__next__") ⟨[(.ref it)],[]⟩) ⟨F::A::E::rest,n,t⟩ (.ok (.ret (.ref a))) ⟨C::A::E::rest,n,t⟩,.any (.call (.builtin "int.__add__") ⟨[(.int 3 ts),(.int 1 (t+4))],[]⟩) (aInt 4),.at (loopC (stAt (forB (stAt (bodyOf (fdAt w 258)) 1)) 0) (.ref (n+4)) (envC w 258 L [(sO "won",wc)])) ⟨((n+4),fldO "range_iterator" [(.int 1 0),(.int 3 0),(.int 1 0)])::((n+3),fldO "range" [(.int 1 (t+3)),(.int 4 (t+5)),(.int 1 (t+6))])::((n+2),fldO "StopIteration" [(.ref (n+1)),.none,.none,.none,(.bool false),.none])::((n+1),tupO [])::(n,fldO "tuple_iterator" [.none,(.int 3 0)])::C::(L,frN w nm258 ks [V0,(.int 3 ts),(.ref of),(.int p tp),(.str c tl),(.ref e),V6])::E::rest,(n+5),(t+7)⟩ (.ok .next) ⟨B::C::(of,lstO vt ep2)::rest1,s1,t1⟩] (.ok (.again D)) [0,1,2] 3 ⟨B::C::(of,lstO vt ep2)::rest1,s1,t1⟩) (L,frN w nm258 ks [V0,(.int 3 ts),(.ref of),V3,V4,V5,V6]) (L,frN w nm258 ks2 [V0,(.int 3 ts),(.ref of),(.int p tp),(.str c tl),(.ref e),V16]) (it,fldO "list_iterator" f2) (of,lstO vs ep) (it,fldO "list_iterator" f1) (loopC (stAt (bodyOf (fdAt w 258)) 1) (.ref it) (envC w 258 L [(sO "won",wc)])):=by walk_at "r"
theorem due1_f4:∀(w:World) (n t s1 t1 L wc it a e of ep ep2 tp tl ts:Nat) (ks ks2:Nat→Nat) (V0 V16:Value) (p:Int) (c:Str) (f1 f2 vs vt:List Value) (rest rest1:List (Nat×Obj)),(fun(A B C E F:Nat×Obj) (D:Code)=>Good w D [(a,tupO [(.int p tp),(.str c tl),(.ref e)])] ⟨F::A::E::rest,n,t⟩ [1,1,1,1001,1001,1001,0,1001,1,1,0,1,1,1,1001,1,1,1,0,1,1,1,1001,1,1,1,0,1,1,1,1001,1,1,1,0,1,1,1,1001,1,1,1,5,5,5,5,5,5,0,0,5,1,0,0,1,1,0,1,1,1,1,0,1,1,1,1,1,1] [.at (.call (.builtin "list_iterator.__next__") ⟨[(.ref it)],[]⟩) ⟨F::A::E::rest,n,t⟩ (.ok (.ret (.ref a))) ⟨C::A::E::rest,n,t⟩,.any (.call (.builtin "int.__add__") ⟨[(.int 4 ts),(.int 1 (t+4))],[]⟩) (aInt 5),.at (loopC (stAt (forB (stAt (bodyOf (fdAt w 258)) 1)) 0) (.ref (n+4)) (envC w 258 L [(sO "won",wc)])) ⟨((n+4),fldO "range_iterator" [(.int 1 0),(.int 4 0),(.int 1 0)])::((n+3),fldO "range" [(.int 1 (t+3)),(.int 5 (t+5)),(.int 1 (t+6))])::((n+2),fldO "StopIteration" [(.ref (n+1)),.none,.none,.none,(.bool false),.none])::((n+1),tupO [])::(n,fldO "tuple_iterator" [.none,(.int 3 0)])::C::(L,frN w nm258 (upd (upd (upd ks 3 t) 4 (t+1)) 5 (t+2)) [V0,(.int 4 ts),(.ref of),(.int p tp),(.str c tl),(.ref e)])::E::rest,(n+5),(t+7)⟩ (.ok .next) ⟨B::C::(of,lstO vt ep2)::rest1,s1,t1⟩] (.ok (.again D)) [0,1,2] 3 ⟨B::C::(of,lstO vt ep2)::rest1,s1,t1⟩) (L,frN w nm258 ks [V0,(.int 4 ts),(.ref of)]) (L,frN w nm258 ks2 [V0,(.int 4 ts),(.ref of),(.int p tp),(.str c tl),(.ref e),V16]) (it,fldO "list_iterator" f2) (of,lstO vs ep) (it,fldO "list_iterator" f1) (loopC (stAt (bodyOf (fdAt w 258)) 1) (.ref it) (envC w 258 L [(sO "won",wc)])):=by walk_at "r"
theorem due1_l4:∀(w:World) (n t s1 t1 L wc it a e of ep ep2 tp tl ts:Nat) (ks ks2:Nat→Nat) (V0 V3 V4 V5 V6 V16:Value) (p:Int) (c:Str) (f1 f2 vs vt:List Value) (rest rest1:List (Nat×Obj)),(fun(A B C E F:Nat×Obj) (D:Code)=>Good w D [(a,tupO [(.int p tp),(.str c tl),(.ref e)])] ⟨F::A::E::rest,n,t⟩ [1,1,1,1001,1001,1001,0,1001,1,1,0,1,1,1,1001,1,1,1,0,1,1,1,1001,1,1,1,0,1,1,1,1001,1,1,1,0,1,1,1,1001,1,1,1,5,5,5,5,5,5,0,0,5,1,0,0,1,1,0,1,1,1,1,0,1,1,1,1,1,1] [.at (.call (.builtin "list_iterator.__next__") ⟨[(.ref it)],[]⟩) ⟨F::A::E::rest,n,t⟩ (.ok (.ret (.ref a))) ⟨C::A::E::rest,n,t⟩,.any (.call (.builtin "int.__add__") ⟨[(.int 4 ts),(.int 1 (t+4))],[]⟩) (aInt 5),.at (loopC (stAt (forB (stAt (bodyOf (fdAt w 258)) 1)) 0) (.ref (n+4)) (envC w 258 L [(sO "won",wc)])) ⟨((n+4),fldO "range_iterator" [(.int 1 0),(.int 4 0),(.int 1 0)])::((n+3),fldO "range" [(.int 1 (t+3)),(.int 5 (t+5)),(.int 1 (t+6))])::((n+2),fldO "StopIteration" [(.ref (n+1)),.none,.none,.none,(.bool false),.none])::((n+1),tupO [])::(n,fldO "tuple_iterator" [.none,(.int 3 0)])::C::(L,frN w nm258 ks [V0,(.int 4 ts),(.ref of),(.int p tp),(.str c tl),(.ref e),V6])::E::rest,(n+5),(t+7)⟩ (.ok .next) ⟨B::C::(of,lstO vt ep2)::rest1,s1,t1⟩] (.ok (.again D)) [0,1,2] 3 ⟨B::C::(of,lstO vt ep2)::rest1,s1,t1⟩) (L,frN w nm258 ks [V0,(.int 4 ts),(.ref of),V3,V4,V5,V6]) (L,frN w nm258 ks2 [V0,(.int 4 ts),(.ref of),(.int p tp),(.str c tl),(.ref e),V16]) (it,fldO "list_iterator" f2) (of,lstO vs ep) (it,fldO "list_iterator" f1) (loopC (stAt (bodyOf (fdAt w 258)) 1) (.ref it) (envC w 258 L [(sO "won",wc)])):=by walk_at "r"
theorem due1_f5:∀(w:World) (n t s1 t1 L wc it a e of ep ep2 tp tl ts:Nat) (ks ks2:Nat→Nat) (V0 V16:Value) (p:Int) (c:Str) (f1 f2 vs vt:List Value) (rest rest1:List (Nat×Obj)),(fun(A B C E F:Nat×Obj) (D:Code)=>Good w D [(a,tupO [(.int p tp),(.str c tl),(.ref e)])] ⟨F::A::E::rest,n,t⟩ [1,1,1,1001,1001,1001,0,1001,1,1,0,1,1,1,1001,1,1,1,0,1,1,1,1001,1,1,1,0,1,1,1,1001,1,1,1,0,1,1,1,1001,1,1,1,5,5,5,5,5,5,0,0,5,1,0,0,1,1,0,1,1,1,1,0,1,1,1,1,1,1] [.at (.call (.builtin "list_iterator.__next__") ⟨[(.ref it)],[]⟩) ⟨F::A::E::rest,n,t⟩ (.ok (.ret (.ref a))) ⟨C::A::E::rest,n,t⟩,.any (.call (.builtin "int.__add__") ⟨[(.int 5 ts),(.int 1 (t+4))],[]⟩) (aInt 6),.at (loopC (stAt (forB (stAt (bodyOf (fdAt w 258)) 1)) 0) (.ref (n+4)) (envC w 258 L [(sO "won",wc)])) ⟨((n+4),fldO "range_iterator" [(.int 1 0),(.int 5 0),(.int 1 0)])::((n+3),fldO "range" [(.int 1 (t+3)),(.int 6 (t+5)),(.int 1 (t+6))])::((n+2),fldO "StopIteration" [(.ref (n+1)),.none,.none,.none,(.bool false),.none])::((n+1),tupO [])::(n,fldO "tuple_iterator" [.none,(.int 3 0)])::C::(L,frN w nm258 (upd (upd (upd ks 3 t) 4 (t+1)) 5 (t+2)) [V0,(.int 5 ts),(.ref of),(.int p tp),(.str c tl),(.ref e)])::E::rest,(n+5),(t+7)⟩ (.ok .next) ⟨B::C::(of,lstO vt ep2)::rest1,s1,t1⟩] (.ok (.again D)) [0,1,2] 3 ⟨B::C::(of,lstO vt ep2)::rest1,s1,t1⟩) (L,frN w nm258 ks [V0,(.int 5 ts),(.ref of)]) (L,frN w nm258 ks2 [V0,(.int 5 ts),(.ref of),(.int p tp),(.str c tl),(.ref e),V16]) (it,fldO "list_iterator" f2) (of,lstO vs ep) (it,fldO "list_iterator" f1) (loopC (stAt (bodyOf (fdAt w 258)) 1) (.ref it) (envC w 258 L [(sO "won",wc)])):=by walk_at "r"
theorem due1_l5:∀(w:World) (n t s1 t1 L wc it a e of ep ep2 tp tl ts:Nat) (ks ks2:Nat→Nat) (V0 V3 V4 V5 V6 V16:Value) (p:Int) (c:Str) (f1 f2 vs vt:List Value) (rest rest1:List (Nat×Obj)),(fun(A B C E F:Nat×Obj) (D:Code)=>Good w D [(a,tupO [(.int p tp),(.str c tl),(.ref e)])] ⟨F::A::E::rest,n,t⟩ [1,1,1,1001,1001,1001,0,1001,1,1,0,1,1,1,1001,1,1,1,0,1,1,1,1001,1,1,1,0,1,1,1,1001,1,1,1,0,1,1,1,1001,1,1,1,5,5,5,5,5,5,0,0,5,1,0,0,1,1,0,1,1,1,1,0,1,1,1,1,1,1] [.at (.call (.builtin "list_iterator.__next__") ⟨[(.ref it)],[]⟩) ⟨F::A::E::rest,n,t⟩ (.ok (.ret (.ref a))) ⟨C::A::E::rest,n,t⟩,.any (.call (.builtin "int.__add__") ⟨[(.int 5 ts),(.int 1 (t+4))],[]⟩) (aInt 6),.at (loopC (stAt (forB (stAt (bodyOf (fdAt w 258)) 1)) 0) (.ref (n+4)) (envC w 258 L [(sO "won",wc)])) ⟨((n+4),fldO "range_iterator" [(.int 1 0),(.int 5 0),(.int 1 0)])::((n+3),fldO "range" [(.int 1 (t+3)),(.int 6 (t+5)),(.int 1 (t+6))])::((n+2),fldO "StopIteration" [(.ref (n+1)),.none,.none,.none,(.bool false),.none])::((n+1),tupO [])::(n,fldO "tuple_iterator" [.none,(.int 3 0)])::C::(L,frN w nm258 ks [V0,(.int 5 ts),(.ref of),(.int p tp),(.str c tl),(.ref e),V6])::E::rest,(n+5),(t+7)⟩ (.ok .next) ⟨B::C::(of,lstO vt ep2)::rest1,s1,t1⟩] (.ok (.again D)) [0,1,2] 3 ⟨B::C::(of,lstO vt ep2)::rest1,s1,t1⟩) (L,frN w nm258 ks [V0,(.int 5 ts),(.ref of),V3,V4,V5,V6]) (L,frN w nm258 ks2 [V0,(.int 5 ts),(.ref of),(.int p tp),(.str c tl),(.ref e),V16]) (it,fldO "list_iterator" f2) (of,lstO vs ep) (it,fldO "list_iterator" f1) (loopC (stAt (bodyOf (fdAt w 258)) 1) (.ref it) (envC w 258 L [(sO "won",wc)])):=by walk_at "r"
theorem due1_f6:∀(w:World) (n t s1 t1 L wc it a e of ep ep2 tp tl ts:Nat) (ks ks2:Nat→Nat) (V0 V16:Value) (p:Int) (c:Str) (f1 f2 vs vt:List Value) (rest rest1:List (Nat×Obj)),(fun(A B C E F:Nat×Obj) (D:Code)=>Good w D [(a,tupO [(.int p tp),(.str c tl),(.ref e)])] ⟨F::A::E::rest,n,t⟩ [1,1,1,1001,1001,1001,0,1001,1,1,0,1,1,1,1001,1,1,1,0,1,1,1,1001,1,1,1,0,1,1,1,1001,1,1,1,0,1,1,1,1001,1,1,1,5,5,5,5,5,5,0,0,5,1,0,0,1,1,0,1,1,1,1,0,1,1,1,1,1,1] [.at (.call (.builtin "list_iterator.__next__") ⟨[(.ref it)],[]⟩) ⟨F::A::E::rest,n,t⟩ (.ok (.ret (.ref a))) ⟨C::A::E::rest,n,t⟩,.any (.call (.builtin "int.__add__") ⟨[(.int 6 ts),(.int 1 (t+4))],[]⟩) (aInt 7),.at (loopC (stAt (forB (stAt (bodyOf (fdAt w 258)) 1)) 0) (.ref (n+4)) (envC w 258 L [(sO "won",wc)])) ⟨((n+4),fldO "range_iterator" [(.int 1 0),(.int 6 0),(.int 1 0)])::((n+3),fldO "range" [(.int 1 (t+3)),(.int 7 (t+5)),(.int 1 (t+6))])::((n+2),fldO "StopIteration" [(.ref (n+1)),.none,.none,.none,(.bool false),.none])::((n+1),tupO [])::(n,fldO "tuple_iterator" [.none,(.int 3 0)])::C::(L,frN w nm258 (upd (upd (upd ks 3 t) 4 (t+1)) 5 (t+2)) [V0,(.int 6 ts),(.ref of),(.int p tp),(.str c tl),(.ref e)])::E::rest,(n+5),(t+7)⟩ (.ok .next) ⟨B::C::(of,lstO vt ep2)::rest1,s1,t1⟩] (.ok (.again D)) [0,1,2] 3 ⟨B::C::(of,lstO vt ep2)::rest1,s1,t1⟩) (L,frN w nm258 ks [V0,(.int 6 ts),(.ref of)]) (L,frN w nm258 ks2 [V0,(.int 6 ts),(.ref of),(.int p tp),(.str c tl),(.ref e),V16]) (it,fldO "list_iterator" f2) (of,lstO vs ep) (it,fldO "list_iterator" f1) (loopC (stAt (bodyOf (fdAt w 258)) 1) (.ref it) (envC w 258 L [(sO "won",wc)])):=by walk_at "r"
theorem due1_l6:∀(w:World) (n t s1 t1 L wc it a e of ep ep2 tp tl ts:Nat) (ks ks2:Nat→Nat) (V0 V3 V4 V5 V6 V16:Value) (p:Int) (c:Str) (f1 f2 vs vt:List Value) (rest rest1:List (Nat×Obj)),(fun(A B C E F:Nat×Obj) (D:Code)=>Good w D [(a,tupO [(.int p tp),(.str c tl),(.ref e)])] ⟨F::A::E::rest,n,t⟩ [1,1,1,1001,1001,1001,0,1001,1,1,0,1,1,1,1001,1,1,1,0,1,1,1,1001,1,1,1,0,1,1,1,1001,1,1,1,0,1,1,1,1001,1,1,1,5,5,5,5,5,5,0,0,5,1,0,0,1,1,0,1,1,1,1,0,1,1,1,1,1,1] [.at (.call (.builtin "list_iterator.__next__") ⟨[(.ref it)],[]⟩) ⟨F::A::E::rest,n,t⟩ (.ok (.ret (.ref a))) ⟨C::A::E::rest,n,t⟩,.any (.call (.builtin "int.__add__") ⟨[(.int 6 ts),(.int 1 (t+4))],[]⟩) (aInt 7),.at (loopC (stAt (forB (stAt (bodyOf (fdAt w 258)) 1)) 0) (.ref (n+4)) (envC w 258 L [(sO "won",wc)])) ⟨((n+4),fldO "range_iterator" [(.int 1 0),(.int 6 0),(.int 1 0)])::((n+3),fldO "range" [(.int 1 (t+3)),(.int 7 (t+5)),(.int 1 (t+6))])::((n+2),fldO "StopIteration" [(.ref (n+1)),.none,.none,.none,(.bool false),.none])::((n+1),tupO [])::(n,fldO "tuple_iterator" [.none,(.int 3 0)])::C::(L,frN w nm258 ks [V0,(.int 6 ts),(.ref of),(.int p tp),(.str c tl),(.ref e),V6])::E::rest,(n+5),(t+7)⟩ (.ok .next) ⟨B::C::(of,lstO vt ep2)::rest1,s1,t1⟩] (.ok (.again D)) [0,1,2] 3 ⟨B::C::(of,lstO vt ep2)::rest1,s1,t1⟩) (L,frN w nm258 ks [V0,(.int 6 ts),(.ref of),V3,V4,V5,V6]) (L,frN w nm258 ks2 [V0,(.int 6 ts),(.ref of),(.int p tp),(.str c tl),(.ref e),V16]) (it,fldO "list_iterator" f2) (of,lstO vs ep) (it,fldO "list_iterator" f1) (loopC (stAt (bodyOf (fdAt w 258)) 1) (.ref it) (envC w 258 L [(sO "won",wc)])):=by walk_at "r"
theorem cq_s:∀(w:World) (n t L wc it acc F:Nat) (f1:List Value) (rest:List (Nat×Obj)),(fun(A:Expr) (B:Nat×Obj)=>(fun(C:Env)=>Good w (compS A (.ref it) (.ref acc) C) [] ⟨B::rest,n,t⟩ (twice w [] [1,1,0,1,1]) [] (.ok (.again (compL A (.ref it) (.ref acc) C))) [0] 1 ⟨B::rest,n,t⟩) (envQ w 258 L A F [])) (compX (stAt (bodyOf (fdAt w 258)) 2)) (it,fldO "list_iterator" f1):=by
 refine byRow2 "special-get-raises" ?_ ?_<;>refine byRow2 "comprehension-iter-twice" ?_ ?_<;>(intros;exact⟨by kernel_rfl,by kernel_rfl,by kernel_rfl,by kernel_rfl⟩)
theorem cq_e:∀(w:World) (n t s1 t1 L wc it acc F st:Nat) (V15:Value) (f1 f2:List Value) (rest:List (Nat×Obj)),(fun(A:Expr) (B:Nat×Obj)=>GoodH w (compL A (.ref it) (.ref acc) (envQ w 258 L A F [])) [] ⟨B::rest,n,t⟩ [1,1,1] [.at (.call (.builtin "list_iterator.__next__") ⟨[(.ref it)],[]⟩) ⟨B::rest,n,t⟩ (.error (.ref st)) ⟨(st,fldO "StopIteration" [V15,.none,.none,.none,(.bool false),.none])::(it,fldO "list_iterator" f2)::rest,s1,t1⟩] (.ok .next) [] 2 ⟨rest,s1,t1⟩) (compX (stAt (bodyOf (fdAt w 258)) 2)) (it,fldO "list_iterator" f1):=by walk_at "r"
theorem cd_s:∀(w:World) (n t L wc it acc F:Nat) (f1:List Value) (rest:List (Nat×Obj)),(fun(A:Expr) (C:Nat×Obj)=>(fun(B:Env)=>Good w (compS A (.ref it) (.ref acc) B) [] ⟨C::rest,n,t⟩ (twice w [] [1,1,0,1,1]) [] (.ok (.again (compL A (.ref it) (.ref acc) B))) [0] 1 ⟨C::rest,n,t⟩) (envQ w 258 L A F [((sO "won"),wc)])) (compX (stAt (bodyOf (fdAt w 258)) 3)) (it,fldO "list_iterator" f1):=by
 refine byRow2 "special-get-raises" ?_ ?_<;>refine byRow2 "comprehension-iter-twice" ?_ ?_<;>(intros;exact⟨by kernel_rfl,by kernel_rfl,by kernel_rfl,by kernel_rfl⟩)
theorem cd_e:∀(w:World) (n t s1 t1 L wc it acc F st:Nat) (V15:Value) (f1 f2:List Value) (rest:List (Nat×Obj)),(fun(A:Expr) (B:Nat×Obj)=>GoodH w (compL A (.ref it) (.ref acc) (envQ w 258 L A F [((sO "won"),wc)])) [] ⟨B::rest,n,t⟩ [1,1,1] [.at (.call (.builtin "list_iterator.__next__") ⟨[(.ref it)],[]⟩) ⟨B::rest,n,t⟩ (.error (.ref st)) ⟨(st,fldO "StopIteration" [V15,.none,.none,.none,(.bool false),.none])::(it,fldO "list_iterator" f2)::rest,s1,t1⟩] (.ok .next) [] 2 ⟨rest,s1,t1⟩) (compX (stAt (bodyOf (fdAt w 258)) 3)) (it,fldO "list_iterator" f1):=by walk_at "r"
theorem cq_f:∀(w:World) (n t L wc it acc F r ep tq tp tl:Nat) (q p:Int) (c:Str) (f1 f2 vs:List Value) (rest:List (Nat×Obj)),(fun(A:Code) (B C D E G H:Nat×Obj)=>Good w A [(r,tupO [(.int q tq),(.int p tp),(.str c tl)])] ⟨G::H::D::rest,n,t⟩ [1,1,2,2,2,1001,1001,1001,0,1001,1001,1] [.at (.call (.builtin "list_iterator.__next__") ⟨[(.ref it)],[]⟩) ⟨G::H::D::rest,n,t⟩ (.ok (.ret (.ref r))) ⟨C::H::D::rest,n,t⟩,.at (.call (.builtin "list.append") ⟨[(.ref acc),(.str c tl)],[]⟩) ⟨C::B::D::rest,n,(t+2)⟩ (.ok (.ret .none)) ⟨C::B::E::rest,n,(t+2)⟩] (.ok (.again A)) [0,1,2] 3 ⟨C::B::E::rest,n,(t+2)⟩) (compL (compX (stAt (bodyOf (fdAt w 258)) 2)) (.ref it) (.ref acc) (envQ w 258 L (compX (stAt (bodyOf (fdAt w 258)) 2)) F [])) (F,dctO [ez w.params (sO "offer") t (.ref r)] 1) (it,fldO "list_iterator" f2) (acc,lstO vs ep) (acc,lstO (vs++[(.str c tl)]) (ep+1)) (it,fldO "list_iterator" f1) (F,dctO [] 0):=by walk_at "r"
theorem cq_l:∀(w:World) (n t L wc it acc F r ep tq tp tl k0:Nat) (V0:Value) (q p:Int) (c:Str) (f1 f2 vs:List Value) (rest:List (Nat×Obj)),(fun(A:Code) (B C D E G H:Nat×Obj)=>Good w A [(r,tupO [(.int q tq),(.int p tp),(.str c tl)])] ⟨H::C::E::rest,n,t⟩ [1,1,2,2,2,1001,1001,1001,0,1001,1001,1] [.at (.call (.builtin "list_iterator.__next__") ⟨[(.ref it)],[]⟩) ⟨H::C::E::rest,n,t⟩ (.ok (.ret (.ref r))) ⟨D::C::E::rest,n,t⟩,.at (.call (.builtin "list.append") ⟨[(.ref acc),(.str c tl)],[]⟩) ⟨D::B::E::rest,n,(t+2)⟩ (.ok (.ret .none)) ⟨D::B::G::rest,n,(t+2)⟩] (.ok (.again A)) [0,1,2] 3 ⟨D::B::G::rest,n,(t+2)⟩) (compL (compX (stAt (bodyOf (fdAt w 258)) 2)) (.ref it) (.ref acc) (envQ w 258 L (compX (stAt (bodyOf (fdAt w 258)) 2)) F [])) (F,dctO [ez w.params (sO "offer") k0 (.ref r)] 1) (F,dctO [ez w.params (sO "offer") k0 V0] 1) (it,fldO "list_iterator" f2) (acc,lstO vs ep) (acc,lstO (vs++[(.str c tl)]) (ep+1)) (it,fldO "list_iterator" f1):=by walk_at "r"
theorem cd_fi:∀(w:World) (n t L wc it acc F a e wl ep ep2 tp tl:Nat) (p:Int) (c:Str) (f1 f2 vs vt:List Value) (rest:List (Nat×Obj)),(fun(A C D E G H I:Nat×Obj) (B:Code)=>Good w B [(a,tupO [(.int p tp),(.str c tl),(.ref e)]),(wc,celO (some (.ref wl))),(wl,lstO vt ep2)] ⟨H::I::E::rest,n,t⟩ [1,1,1,1001,1001,1001,0,1001,1,1,0,1,1,1,1001,1,1,1,0,1,1,1,1001,1,1,1,0,1,1,1,1001,1,1,1,0,1,1,1,1001,1,1,1,5,5,5,5,5,5,5,1002,1003,1003,1] [.at (.call (.builtin "list_iterator.__next__") ⟨[(.ref it)],[]⟩) ⟨H::I::E::rest,n,t⟩ (.ok (.ret (.ref a))) ⟨D::I::E::rest,n,t⟩,.at (.call (.builtin "list.__contains__") ⟨[(.ref wl),(.str c tl)],[]⟩) ⟨C::((n+1),tupO [])::G::D::A::E::rest,(n+3),(t+3)⟩ (.ok (.ret (.bool true))) ⟨C::((n+1),tupO [])::G::D::A::E::rest,(n+3),(t+3)⟩] (.ok (.again B)) [3,4,5] 6 ⟨D::A::E::rest,(n+3),(t+3)⟩) (F,dctO [ez w.params (sO "place") t (.int p tp),ez w.params (sO "letter") (t+1) (.str c tl),ez w.params (sO "entry") (t+2) (.ref e)] 3) ((n+2),fldO "StopIteration" [(.ref (n+1)),.none,.none,.none,(.bool false),.none]) (it,fldO "list_iterator" f2) (acc,lstO vs ep) (n,fldO "tuple_iterator" [.none,(.int 3 0)]) (it,fldO "list_iterator" f1) (F,dctO [] 0) (compL (compX (stAt (bodyOf (fdAt w 258)) 3)) (.ref it) (.ref acc) (envQ w 258 L (compX (stAt (bodyOf (fdAt w 258)) 3)) F [((sO "won"),wc)])):=by walk_at "r"
theorem cd_fn:∀(w:World) (n t L wc it acc F a e wl ep ep2 tp tl:Nat) (p:Int) (c:Str) (f1 f2 vs vt:List Value) (rest:List (Nat×Obj)),(fun(A B D E G H I J K M:Nat×Obj) (C:Code)=>Good w C [(a,tupO [(.int p tp),(.str c tl),(.ref e)]),(wc,celO (some (.ref wl))),(wl,lstO vt ep2)] ⟨K::M::H::rest,n,t⟩ [1,1,1,1001,1001,1001,0,1001,1,1,0,1,1,1,1001,1,1,1,0,1,1,1,1001,1,1,1,0,1,1,1,1001,1,1,1,0,1,1,1,1001,1,1,1,5,5,5,5,5,5,5,1002,1003,1003,1,5,1] [.at (.call (.builtin "list_iterator.__next__") ⟨[(.ref it)],[]⟩) ⟨K::M::H::rest,n,t⟩ (.ok (.ret (.ref a))) ⟨D::M::H::rest,n,t⟩,.at (.call (.builtin "list.__contains__") ⟨[(.ref wl),(.str c tl)],[]⟩) ⟨B::I::E::D::A::H::rest,(n+3),(t+3)⟩ (.ok (.ret (.bool false))) ⟨B::I::E::D::A::H::rest,(n+3),(t+3)⟩,.at (.call (.builtin "list.append") ⟨[(.ref acc),(.ref (n+3))],[]⟩) ⟨G::B::I::E::D::A::H::rest,(n+4),(t+4)⟩ (.ok (.ret .none)) ⟨G::B::I::E::D::A::J::rest,(n+4),(t+4)⟩] (.ok (.again C)) [0,4,5,6] 7 ⟨G::D::A::J::rest,(n+4),(t+4)⟩) (F,dctO [ez w.params (sO "place") t (.int p tp),ez w.params (sO "letter") (t+1) (.str c tl),ez w.params (sO "entry") (t+2) (.ref e)] 3) ((n+2),fldO "StopIteration" [(.ref (n+1)),.none,.none,.none,(.bool false),.none]) (it,fldO "list_iterator" f2) (n,fldO "tuple_iterator" [.none,(.int 3 0)]) ((n+3),tupO [(.str c tl),(.str (sO ".") (t+3))]) (acc,lstO vs ep) ((n+1),tupO []) (acc,lstO (vs++[(.ref (n+3))]) (ep+1)) (it,fldO "list_iterator" f1) (F,dctO [] 0) (compL (compX (stAt (bodyOf (fdAt w 258)) 3)) (.ref it) (.ref acc) (envQ w 258 L (compX (stAt (bodyOf (fdAt w 258)) 3)) F [((sO "won"),wc)])):=by walk_at "r"
theorem cd_li:∀(w:World) (n t L wc it acc F a e wl ep ep2 tp tl k0 k1 k2:Nat) (V0 V1 V2:Value) (p:Int) (c:Str) (f1 f2 vs vt:List Value) (rest:List (Nat×Obj)),(fun(A B D E G H I:Nat×Obj) (C:Code)=>Good w C [(a,tupO [(.int p tp),(.str c tl),(.ref e)]),(wc,celO (some (.ref wl))),(wl,lstO vt ep2)] ⟨I::B::G::rest,n,t⟩ [1,1,1,1001,1001,1001,0,1001,1,1,0,1,1,1,1001,1,1,1,0,1,1,1,1001,1,1,1,0,1,1,1,1001,1,1,1,0,1,1,1,1001,1,1,1,5,5,5,5,5,5,5,1002,1003,1003,1] [.at (.call (.builtin "list_iterator.__next__") ⟨[(.ref it)],[]⟩) ⟨I::B::G::rest,n,t⟩ (.ok (.ret (.ref a))) ⟨E::B::G::rest,n,t⟩,.at (.call (.builtin "list.__contains__") ⟨[(.ref wl),(.str c tl)],[]⟩) ⟨D::((n+1),tupO [])::H::E::A::G::rest,(n+3),(t+3)⟩ (.ok (.ret (.bool true))) ⟨D::((n+1),tupO [])::H::E::A::G::rest,(n+3),(t+3)⟩] (.ok (.again C)) [3,4,5] 6 ⟨E::A::G::rest,(n+3),(t+3)⟩) (F,dctO [ez w.params (sO "place") k0 (.int p tp),ez w.params (sO "letter") k1 (.str c tl),ez w.params (sO "entry") k2 (.ref e)] 3) (F,dctO [ez w.params (sO "place") k0 V0,ez w.params (sO "letter") k1 V1,ez w.params (sO "entry") k2 V2] 3) ((n+2),fldO "StopIteration" [(.ref (n+1)),.none,.none,.none,(.bool false),.none]) (it,fldO "list_iterator" f2) (acc,lstO vs ep) (n,fldO "tuple_iterator" [.none,(.int 3 0)]) (it,fldO "list_iterator" f1) (compL (compX (stAt (bodyOf (fdAt w 258)) 3)) (.ref it) (.ref acc) (envQ w 258 L (compX (stAt (bodyOf (fdAt w 258)) 3)) F [((sO "won"),wc)])):=by walk_at "r"
theorem cd_ln:∀(w:World) (n t L wc it acc F a e wl ep ep2 tp tl k0 k1 k2:Nat) (V0 V1 V2:Value) (p:Int) (c:Str) (f1 f2 vs vt:List Value) (rest:List (Nat×Obj)),(fun(A B C E G H I J K M:Nat×Obj) (D:Code)=>Good w D [(a,tupO [(.int p tp),(.str c tl),(.ref e)]),(wc,celO (some (.ref wl))),(wl,lstO vt ep2)] ⟨M::C::I::rest,n,t⟩ [1,1,1,1001,1001,1001,0,1001,1,1,0,1,1,1,1001,1,1,1,0,1,1,1,1001,1,1,1,0,1,1,1,1001,1,1,1,0,1,1,1,1001,1,1,1,5,5,5,5,5,5,5,1002,1003,1003,1,5,1] [.at (.call (.builtin "list_iterator.__next__") ⟨[(.ref it)],[]⟩) ⟨M::C::I::rest,n,t⟩ (.ok (.ret (.ref a))) ⟨E::C::I::rest,n,t⟩,.at (.call (.builtin "list.__contains__") ⟨[(.ref wl),(.str c tl)],[]⟩) ⟨B::J::G::E::A::I::rest,(n+3),(t+3)⟩ (.ok (.ret (.bool false))) ⟨B::J::G::E::A::I::rest,(n+3),(t+3)⟩,.at (.call (.builtin "list.append") ⟨[(.ref acc),(.ref (n+3))],[]⟩) ⟨H::B::J::G::E::A::I::rest,(n+4),(t+4)⟩ (.ok (.ret .none)) ⟨H::B::J::G::E::A::K::rest,(n+4),(t+4)⟩] (.ok (.again D)) [0,4,5,6] 7 ⟨H::E::A::K::rest,(n+4),(t+4)⟩) (F,dctO [ez w.params (sO "place") k0 (.int p tp),ez w.params (sO "letter") k1 (.str c tl),ez w.params (sO "entry") k2 (.ref e)] 3) ((n+2),fldO "StopIteration" [(.ref (n+1)),.none,.none,.none,(.bool false),.none]) (F,dctO [ez w.params (sO "place") k0 V0,ez w.params (sO "letter") k1 V1,ez w.params (sO "entry") k2 V2] 3) (it,fldO "list_iterator" f2) (n,fldO "tuple_iterator" [.none,(.int 3 0)]) ((n+3),tupO [(.str c tl),(.str (sO ".") (t+3))]) (acc,lstO vs ep) ((n+1),tupO []) (acc,lstO (vs++[(.ref (n+3))]) (ep+1)) (it,fldO "list_iterator" f1) (compL (compX (stAt (bodyOf (fdAt w 258)) 3)) (.ref it) (.ref acc) (envQ w 258 L (compX (stAt (bodyOf (fdAt w 258)) 3)) F [((sO "won"),wc)])):=by walk_at "r"
theorem due4_fi:∀(w:World) (n t L wc it wl w2 dl ep ep2 tl:Nat) (ks:Nat→Nat) (V0 V1 V2 V3 V4 V5 V6:Value) (g ii:Int) (c ds:Str) (f1 f2 vs vt vu:List Value) (rest:List (Nat×Obj)),(fun(A B C D E G H:Nat×Obj) (F:Code)=>Good w F [(wc,celO (some (.ref wl))),(wl,lstO vt ep2)] ⟨G::E::D::rest,n,t⟩ [1,1,2,2,1001,2,1002,1002,1002,1,1001,2,1,1002,1002,1002,1,1,1,1] [.at (.call (.builtin "range_iterator.__next__") ⟨[(.ref it)],[]⟩) ⟨G::E::D::rest,n,t⟩ (.ok (.ret (.int ii t))) ⟨B::E::D::rest,n,(t+1)⟩,.at (.call (.builtin "list.__getitem__") ⟨[(.ref wl),(.int ii t)],[]⟩) ⟨B::A::D::rest,n,(t+2)⟩ (.ok (.ret (.str c tl))) ⟨B::A::D::rest,n,(t+2)⟩,.any (.call (.builtin "int.__add__") ⟨[(.int ii t),(.int 1 (t+2))],[]⟩) (aInt (ii+1)),.at (.call (.builtin "list.__getitem__") ⟨[(.ref wl),(.ref n)],[]⟩) ⟨C::B::A::D::rest,(n+1),(t+4)⟩ (.ok (.ret (.ref w2))) ⟨H::C::B::A::D::rest,(n+2),(t+4)⟩,.at (.call (.builtin "list.__contains__") ⟨[(.ref w2),(.str c tl)],[]⟩) ⟨H::C::B::A::D::rest,(n+2),(t+4)⟩ (.ok (.ret (.bool true))) ⟨H::C::B::A::D::rest,(n+2),(t+4)⟩] (.ok (.again F)) [2,3,4] 5 ⟨B::A::D::rest,(n+2),(t+4)⟩) (L,frN w nm258 (upd ks 8 (t+1)) [V0,V1,V2,V3,V4,V5,V6,(.ref dl),(.int ii t)]) (it,fldO "range_iterator" f2) (n,fldO "slice" [(.int (ii+1) (t+3)),.none,.none]) (dl,lstO vs ep) (L,frN w nm258 ks [V0,V1,V2,V3,V4,V5,V6,(.ref dl)]) (it,fldO "range_iterator" f1) (w2,lstO vu 0) (loopC (stAt (bodyOf (fdAt w 258)) 4) (.ref it) (envC w 258 L [(sO "won",wc)])):=by walk_at "r"
theorem due4_fn:∀(w:World) (n t L wc it wl w2 dl ep ep2 tl:Nat) (ks:Nat→Nat) (V0 V1 V2 V3 V4 V5 V6:Value) (g ii:Int) (c ds:Str) (f1 f2 vs vt vu:List Value) (rest:List (Nat×Obj)),(fun(A B C D E G H I K M:Nat×Obj) (F J:Code)=>Good w J [(wc,celO (some (.ref wl))),(wl,lstO vt ep2)] ⟨M::H::E::rest,n,t⟩ [1,1,2,2,1001,2,1002,1002,1002,1,1001,2,1,1002,1002,1002,1,1,1,1,4,5,5,5,5,1001,4,1002,1002,1002,1,1001,4,1002,1002,1002,1,1,5,1,1,1,1,0,1,1,0,1001,1002,1002,1002,1002,1001,5,1002,1002,1002,1,1,1,0,1,1] [.at (.call (.builtin "range_iterator.__next__") ⟨[(.ref it)],[]⟩) ⟨M::H::E::rest,n,t⟩ (.ok (.ret (.int ii t))) ⟨C::H::E::rest,n,(t+1)⟩,.at F ⟨C::A::E::rest,n,(t+2)⟩ (.ok (.ret (.str c tl))) ⟨C::A::E::rest,n,(t+2)⟩,.any (.call (.builtin "int.__add__") ⟨[(.int ii t),(.int 1 (t+2))],[]⟩) (aInt (ii+1)),.at (.call (.builtin "list.__getitem__") ⟨[(.ref wl),(.ref n)],[]⟩) ⟨B::C::A::E::rest,(n+1),(t+4)⟩ (.ok (.ret (.ref w2))) ⟨G::B::C::A::E::rest,(n+2),(t+4)⟩,.at (.call (.builtin "list.__contains__") ⟨[(.ref w2),(.str c tl)],[]⟩) ⟨G::B::C::A::E::rest,(n+2),(t+4)⟩ (.ok (.ret (.bool false))) ⟨G::B::C::A::E::rest,(n+2),(t+4)⟩,.at F ⟨G::B::C::A::E::rest,(n+2),(t+4)⟩ (.ok (.ret (.str c tl))) ⟨G::B::C::A::E::rest,(n+2),(t+4)⟩,.at F ⟨G::B::C::A::E::rest,(n+2),(t+4)⟩ (.ok (.ret (.str c tl))) ⟨G::B::C::A::E::rest,(n+2),(t+4)⟩,.any (.call (.builtin "str.upper") ⟨[(.str c tl)],[]⟩) (aStr (upS c)),.any (.call (.builtin "int.__mod__") ⟨[(.int ii t),(.int 2 (t+5))],[]⟩) (aInt 0),.at F ⟨D::G::B::C::A::E::rest,(n+3),(t+9)⟩ (.ok (.ret (.str c tl))) ⟨D::G::B::C::A::E::rest,(n+3),(t+9)⟩,.at (.call (.builtin "list.count") ⟨[(.ref wl),(.str c tl)],[]⟩) ⟨D::G::B::C::A::E::rest,(n+3),(t+9)⟩ (.ok (.ret (.int g (t+9)))) ⟨D::G::B::C::A::E::rest,(n+3),(t+10)⟩,.any (.call (.builtin "int.__add__") ⟨[(.int 1 (t+8)),(.int g (t+9))],[]⟩) (aInt (1+g)),.any (.call (.builtin "str.__mul__") ⟨[(.str (sO ".") (t+7)),(.int (1+g) (t+10))],[]⟩) (aStr ds),.at (.call (.builtin "list.append") ⟨[(.ref dl),(.ref (n+3))],[]⟩) ⟨I::D::G::B::C::A::E::rest,(n+4),(t+12)⟩ (.ok (.ret .none)) ⟨I::D::G::B::C::A::K::rest,(n+4),(t+12)⟩] (.ok (.again J)) [0,4,5,6] 7 ⟨I::C::A::K::rest,(n+4),(t+12)⟩) (L,frN w nm258 (upd ks 8 (t+1)) [V0,V1,V2,V3,V4,V5,V6,(.ref dl),(.int ii t)]) (n,fldO "slice" [(.int (ii+1) (t+3)),.none,.none]) (it,fldO "range_iterator" f2) ((n+2),lstO [(.str c tl),(.str (upS c) (t+4))] 0) (dl,lstO vs ep) (w2,lstO vu 0) (L,frN w nm258 ks [V0,V1,V2,V3,V4,V5,V6,(.ref dl)]) ((n+3),tupO [(.str c tl),(.str ds (t+11))]) (dl,lstO (vs++[(.ref (n+3))]) (ep+1)) (it,fldO "range_iterator" f1) (.call (.builtin "list.__getitem__") ⟨[(.ref wl),(.int ii t)],[]⟩) (loopC (stAt (bodyOf (fdAt w 258)) 4) (.ref it) (envC w 258 L [(sO "won",wc)])):=by walk_at "r"
theorem due4_ei:∀(w:World) (n t L wc it wl w2 dl ep ep2 tl:Nat) (ks:Nat→Nat) (V0 V1 V2 V3 V4 V5 V6 V7:Value) (g ii:Int) (c ds:Str) (f1 f2 vs vt vu:List Value) (rest:List (Nat×Obj)),(fun(A B C D E G H:Nat×Obj) (F:Code)=>Good w F [(wc,celO (some (.ref wl))),(wl,lstO vt ep2)] ⟨G::E::D::rest,n,t⟩ [1,1,2,2,1001,2,1002,1002,1002,1,1001,2,1,1002,1002,1002,1,1,1,1] [.at (.call (.builtin "range_iterator.__next__") ⟨[(.ref it)],[]⟩) ⟨G::E::D::rest,n,t⟩ (.ok (.ret (.int ii t))) ⟨B::E::D::rest,n,(t+1)⟩,.at (.call (.builtin "list.__getitem__") ⟨[(.ref wl),(.int ii t)],[]⟩) ⟨B::A::D::rest,n,(t+2)⟩ (.ok (.ret (.str c tl))) ⟨B::A::D::rest,n,(t+2)⟩,.any (.call (.builtin "int.__add__") ⟨[(.int ii t),(.int 1 (t+2))],[]⟩) (aInt (ii+1)),.at (.call (.builtin "list.__getitem__") ⟨[(.ref wl),(.ref n)],[]⟩) ⟨C::B::A::D::rest,(n+1),(t+4)⟩ (.ok (.ret (.ref w2))) ⟨H::C::B::A::D::rest,(n+2),(t+4)⟩,.at (.call (.builtin "list.__contains__") ⟨[(.ref w2),(.str c tl)],[]⟩) ⟨H::C::B::A::D::rest,(n+2),(t+4)⟩ (.ok (.ret (.bool true))) ⟨H::C::B::A::D::rest,(n+2),(t+4)⟩] (.ok (.again F)) [2,3,4] 5 ⟨B::A::D::rest,(n+2),(t+4)⟩) (L,frN w nm258 ks [V0,V1,V2,V3,V4,V5,V6,(.ref dl),(.int ii t)]) (it,fldO "range_iterator" f2) (n,fldO "slice" [(.int (ii+1) (t+3)),.none,.none]) (dl,lstO vs ep) (L,frN w nm258 ks [V0,V1,V2,V3,V4,V5,V6,(.ref dl),V7]) (it,fldO "range_iterator" f1) (w2,lstO vu 0) (loopC (stAt (bodyOf (fdAt w 258)) 4) (.ref it) (envC w 258 L [(sO "won",wc)])):=by walk_at "r"
theorem due4_en:∀(w:World) (n t L wc it wl w2 dl ep ep2 tl:Nat) (ks:Nat→Nat) (V0 V1 V2 V3 V4 V5 V6 V7:Value) (g ii:Int) (c ds:Str) (f1 f2 vs vt vu:List Value) (rest:List (Nat×Obj)),(fun(A B C D E G H I K M:Nat×Obj) (F J:Code)=>Good w J [(wc,celO (some (.ref wl))),(wl,lstO vt ep2)] ⟨M::H::E::rest,n,t⟩ [1,1,2,2,1001,2,1002,1002,1002,1,1001,2,1,1002,1002,1002,1,1,1,1,4,5,5,5,5,1001,4,1002,1002,1002,1,1001,4,1002,1002,1002,1,1,5,1,1,1,1,0,1,1,0,1001,1002,1002,1002,1002,1001,5,1002,1002,1002,1,1,1,0,1,1] [.at (.call (.builtin "range_iterator.__next__") ⟨[(.ref it)],[]⟩) ⟨M::H::E::rest,n,t⟩ (.ok (.ret (.int ii t))) ⟨C::H::E::rest,n,(t+1)⟩,.at F ⟨C::A::E::rest,n,(t+2)⟩ (.ok (.ret (.str c tl))) ⟨C::A::E::rest,n,(t+2)⟩,.any (.call (.builtin "int.__add__") ⟨[(.int ii t),(.int 1 (t+2))],[]⟩) (aInt (ii+1)),.at (.call (.builtin "list.__getitem__") ⟨[(.ref wl),(.ref n)],[]⟩) ⟨B::C::A::E::rest,(n+1),(t+4)⟩ (.ok (.ret (.ref w2))) ⟨G::B::C::A::E::rest,(n+2),(t+4)⟩,.at (.call (.builtin "list.__contains__") ⟨[(.ref w2),(.str c tl)],[]⟩) ⟨G::B::C::A::E::rest,(n+2),(t+4)⟩ (.ok (.ret (.bool false))) ⟨G::B::C::A::E::rest,(n+2),(t+4)⟩,.at F ⟨G::B::C::A::E::rest,(n+2),(t+4)⟩ (.ok (.ret (.str c tl))) ⟨G::B::C::A::E::rest,(n+2),(t+4)⟩,.at F ⟨G::B::C::A::E::rest,(n+2),(t+4)⟩ (.ok (.ret (.str c tl))) ⟨G::B::C::A::E::rest,(n+2),(t+4)⟩,.any (.call (.builtin "str.upper") ⟨[(.str c tl)],[]⟩) (aStr (upS c)),.any (.call (.builtin "int.__mod__") ⟨[(.int ii t),(.int 2 (t+5))],[]⟩) (aInt 0),.at F ⟨D::G::B::C::A::E::rest,(n+3),(t+9)⟩ (.ok (.ret (.str c tl))) ⟨D::G::B::C::A::E::rest,(n+3),(t+9)⟩,.at (.call (.builtin "list.count") ⟨[(.ref wl),(.str c tl)],[]⟩) ⟨D::G::B::C::A::E::rest,(n+3),(t+9)⟩ (.ok (.ret (.int g (t+9)))) ⟨D::G::B::C::A::E::rest,(n+3),(t+10)⟩,.any (.call (.builtin "int.__add__") ⟨[(.int 1 (t+8)),(.int g (t+9))],[]⟩) (aInt (1+g)),.any (.call (.builtin "str.__mul__") ⟨[(.str (sO ".") (t+7)),(.int (1+g) (t+10))],[]⟩) (aStr ds),.at (.call (.builtin "list.append") ⟨[(.ref dl),(.ref (n+3))],[]⟩) ⟨I::D::G::B::C::A::E::rest,(n+4),(t+12)⟩ (.ok (.ret .none)) ⟨I::D::G::B::C::A::K::rest,(n+4),(t+12)⟩] (.ok (.again J)) [0,4,5,6] 7 ⟨I::C::A::K::rest,(n+4),(t+12)⟩) (L,frN w nm258 ks [V0,V1,V2,V3,V4,V5,V6,(.ref dl),(.int ii t)]) (n,fldO "slice" [(.int (ii+1) (t+3)),.none,.none]) (it,fldO "range_iterator" f2) ((n+2),lstO [(.str c tl),(.str (upS c) (t+4))] 0) (dl,lstO vs ep) (w2,lstO vu 0) (L,frN w nm258 ks [V0,V1,V2,V3,V4,V5,V6,(.ref dl),V7]) ((n+3),tupO [(.str c tl),(.str ds (t+11))]) (dl,lstO (vs++[(.ref (n+3))]) (ep+1)) (it,fldO "range_iterator" f1) (.call (.builtin "list.__getitem__") ⟨[(.ref wl),(.int ii t)],[]⟩) (loopC (stAt (bodyOf (fdAt w 258)) 4) (.ref it) (envC w 258 L [(sO "won",wc)])):=by walk_at "r"
theorem due4_oi:∀(w:World) (n t L wc it wl w2 dl ep ep2 tl:Nat) (ks:Nat→Nat) (V0 V1 V2 V3 V4 V5 V6 V7:Value) (g ii:Int) (c ds:Str) (f1 f2 vs vt vu:List Value) (rest:List (Nat×Obj)),(fun(A B C D E G H:Nat×Obj) (F:Code)=>Good w F [(wc,celO (some (.ref wl))),(wl,lstO vt ep2)] ⟨G::E::D::rest,n,t⟩ [1,1,2,2,1001,2,1002,1002,1002,1,1001,2,1,1002,1002,1002,1,1,1,1] [.at (.call (.builtin "range_iterator.__next__") ⟨[(.ref it)],[]⟩) ⟨G::E::D::rest,n,t⟩ (.ok (.ret (.int ii t))) ⟨B::E::D::rest,n,(t+1)⟩,.at (.call (.builtin "list.__getitem__") ⟨[(.ref wl),(.int ii t)],[]⟩) ⟨B::A::D::rest,n,(t+2)⟩ (.ok (.ret (.str c tl))) ⟨B::A::D::rest,n,(t+2)⟩,.any (.call (.builtin "int.__add__") ⟨[(.int ii t),(.int 1 (t+2))],[]⟩) (aInt (ii+1)),.at (.call (.builtin "list.__getitem__") ⟨[(.ref wl),(.ref n)],[]⟩) ⟨C::B::A::D::rest,(n+1),(t+4)⟩ (.ok (.ret (.ref w2))) ⟨H::C::B::A::D::rest,(n+2),(t+4)⟩,.at (.call (.builtin "list.__contains__") ⟨[(.ref w2),(.str c tl)],[]⟩) ⟨H::C::B::A::D::rest,(n+2),(t+4)⟩ (.ok (.ret (.bool true))) ⟨H::C::B::A::D::rest,(n+2),(t+4)⟩] (.ok (.again F)) [2,3,4] 5 ⟨B::A::D::rest,(n+2),(t+4)⟩) (L,frN w nm258 ks [V0,V1,V2,V3,V4,V5,V6,(.ref dl),(.int ii t)]) (it,fldO "range_iterator" f2) (n,fldO "slice" [(.int (ii+1) (t+3)),.none,.none]) (dl,lstO vs ep) (L,frN w nm258 ks [V0,V1,V2,V3,V4,V5,V6,(.ref dl),V7]) (it,fldO "range_iterator" f1) (w2,lstO vu 0) (loopC (stAt (bodyOf (fdAt w 258)) 4) (.ref it) (envC w 258 L [(sO "won",wc)])):=by walk_at "r"
theorem due4_on:∀(w:World) (n t L wc it wl w2 dl ep ep2 tl:Nat) (ks:Nat→Nat) (V0 V1 V2 V3 V4 V5 V6 V7:Value) (g ii:Int) (c ds:Str) (f1 f2 vs vt vu:List Value) (rest:List (Nat×Obj)),(fun(A B C D E G H I K M:Nat×Obj) (F J:Code)=>Good w J [(wc,celO (some (.ref wl))),(wl,lstO vt ep2)] ⟨M::H::E::rest,n,t⟩ [1,1,2,2,1001,2,1002,1002,1002,1,1001,2,1,1002,1002,1002,1,1,1,1,4,5,5,5,5,1001,4,1002,1002,1002,1,1001,4,1002,1002,1002,1,1,5,1,1,1,1,0,1,1,0,1001,1002,1002,1002,1002,1001,5,1002,1002,1002,1,1,1,0,1,1] [.at (.call (.builtin "range_iterator.__next__") ⟨[(.ref it)],[]⟩) ⟨M::H::E::rest,n,t⟩ (.ok (.ret (.int ii t))) ⟨C::H::E::rest,n,(t+1)⟩,.at F ⟨C::A::E::rest,n,(t+2)⟩ (.ok (.ret (.str c tl))) ⟨C::A::E::rest,n,(t+2)⟩,.any (.call (.builtin "int.__add__") ⟨[(.int ii t),(.int 1 (t+2))],[]⟩) (aInt (ii+1)),.at (.call (.builtin "list.__getitem__") ⟨[(.ref wl),(.ref n)],[]⟩) ⟨B::C::A::E::rest,(n+1),(t+4)⟩ (.ok (.ret (.ref w2))) ⟨G::B::C::A::E::rest,(n+2),(t+4)⟩,.at (.call (.builtin "list.__contains__") ⟨[(.ref w2),(.str c tl)],[]⟩) ⟨G::B::C::A::E::rest,(n+2),(t+4)⟩ (.ok (.ret (.bool false))) ⟨G::B::C::A::E::rest,(n+2),(t+4)⟩,.at F ⟨G::B::C::A::E::rest,(n+2),(t+4)⟩ (.ok (.ret (.str c tl))) ⟨G::B::C::A::E::rest,(n+2),(t+4)⟩,.at F ⟨G::B::C::A::E::rest,(n+2),(t+4)⟩ (.ok (.ret (.str c tl))) ⟨G::B::C::A::E::rest,(n+2),(t+4)⟩,.any (.call (.builtin "str.upper") ⟨[(.str c tl)],[]⟩) (aStr (upS c)),.any (.call (.builtin "int.__mod__") ⟨[(.int ii t),(.int 2 (t+5))],[]⟩) (aInt 1),.at F ⟨D::G::B::C::A::E::rest,(n+3),(t+9)⟩ (.ok (.ret (.str c tl))) ⟨D::G::B::C::A::E::rest,(n+3),(t+9)⟩,.at (.call (.builtin "list.count") ⟨[(.ref wl),(.str c tl)],[]⟩) ⟨D::G::B::C::A::E::rest,(n+3),(t+9)⟩ (.ok (.ret (.int g (t+9)))) ⟨D::G::B::C::A::E::rest,(n+3),(t+10)⟩,.any (.call (.builtin "int.__add__") ⟨[(.int 1 (t+8)),(.int g (t+9))],[]⟩) (aInt (1+g)),.any (.call (.builtin "str.__mul__") ⟨[(.str (sO ".") (t+7)),(.int (1+g) (t+10))],[]⟩) (aStr ds),.at (.call (.builtin "list.append") ⟨[(.ref dl),(.ref (n+3))],[]⟩) ⟨I::D::G::B::C::A::E::rest,(n+4),(t+12)⟩ (.ok (.ret .none)) ⟨I::D::G::B::C::A::K::rest,(n+4),(t+12)⟩] (.ok (.again J)) [0,4,5,6] 7 ⟨I::C::A::K::rest,(n+4),(t+12)⟩) (L,frN w nm258 ks [V0,V1,V2,V3,V4,V5,V6,(.ref dl),(.int ii t)]) (n,fldO "slice" [(.int (ii+1) (t+3)),.none,.none]) (it,fldO "range_iterator" f2) ((n+2),lstO [(.str c tl),(.str (upS c) (t+4))] 0) (dl,lstO vs ep) (w2,lstO vu 0) (L,frN w nm258 ks [V0,V1,V2,V3,V4,V5,V6,(.ref dl),V7]) ((n+3),tupO [(.str (upS c) (t+4)),(.str ds (t+11))]) (dl,lstO (vs++[(.ref (n+3))]) (ep+1)) (it,fldO "range_iterator" f1) (.call (.builtin "list.__getitem__") ⟨[(.ref wl),(.int ii t)],[]⟩) (loopC (stAt (bodyOf (fdAt w 258)) 4) (.ref it) (envC w 258 L [(sO "won",wc)])):=by walk_at "r"
noncomputable abbrev DueB (S:Int):Prop:=∀(w:World) (n t s1 t1 s2 t2 s3 t3 s4 t4 s5 t5 s6 t6 la le so sl ep ep2 ep3 ep4 ep5 ep6 ts k0 j0 j1 j2:Nat) (ks ks2:Nat→Nat) (V3 V4 V5 V6 V7 V8 V9 V10 V11:Value) (va vs vt vu vw vx vy:List Value) (rest rest1 rest2:List (Nat×Obj)),(fun(A B C D G H I:Nat×Obj) (E F:Expr)=>Good w (.func (bodyOf (fdAt w 258)) (envC w 258 n [(sO "won",(n+1))])) [(la,lstO va le)] ⟨[((n+1),celO none),(n,frN w nm258 (tf t) [(.ref la),(.int S ts)])],(n+2),(t+2)⟩ [3,3,3,1001,1001,0,1001,1,1,0,0,2,1,3,2,2,2,1,0,1,1,0,1,1,1,1,1,1,3,3,4,1001,1001,0,1001,1,1,4,4,1,1,1,1,1,1,1,1,1,0,0,4,0,0,1,1,0,1,1,1,1,0,1,1,1,1,1,1,1] [.at (loopC (stAt (bodyOf (fdAt w 258)) 1) (.ref (n+3)) (envC w 258 n [(sO "won",(n+1))])) ⟨[((n+3),fldO "list_iterator" [(.ref la),(.int 0 0)]),((n+2),lstO [] 0),((n+1),celO none),(n,frN w nm258 (tf t) [(.ref la),(.int S ts),(.ref (n+2))])],(n+4),(t+3)⟩ (.ok .next) ⟨((n+1),celO none)::A::B::rest,s1,t1⟩,.at (.call (.builtin "sorted") ⟨[(.ref (n+2))],[]⟩) ⟨((n+1),celO none)::A::B::rest,s1,t1⟩ (.ok (.ret (.ref so))) ⟨D::((n+1),celO none)::A::B::rest,s2,t2⟩,.at (.call (.builtin "list.__getitem__") ⟨[(.ref so),(.ref s2)],[]⟩) ⟨C::D::((n+1),celO none)::A::B::rest,(s2+1),t2⟩ (.ok (.ret (.ref sl))) ⟨(sl,lstO vu ep2)::C::D::((n+1),celO none)::A::B::rest,s3,t3⟩,.at (compS E (.ref s3) (.ref (s3+1)) (envQ w 258 n E (s3+2) [])) ⟨((s3+2),dctO [] 0)::((s3+1),lstO [] 0)::(s3,fldO "list_iterator" [(.ref sl),(.int 0 0)])::(sl,lstO vu ep2)::C::D::((n+1),celO none)::A::B::rest,(s3+3),t3⟩ (.ok .next) ⟨[((s3+2),dctO [ez w.params (sO "offer") k0 V8] 1),G,((n+1),celO none),A],s4,t4⟩,.at (compS F (.ref s4) (.ref (s4+1)) (envQ w 258 n F (s4+2) [((sO "won"),(n+1))])) ⟨[((s4+2),dctO [] 0),((s4+1),lstO [] 0),(s4,fldO "list_iterator" [(.ref la),(.int 0 0)]),((s3+2),dctO [] 2),G,((n+1),celO (some (.ref (s3+1)))),A],(s4+3),t4⟩ (.ok .next) ⟨((s4+2),dctO [ez w.params (sO "place") j0 V9,ez w.params (sO "letter") j1 V10,ez w.params (sO "entry") j2 V11] 3)::H::((n+1),celO (some (.ref (s3+1))))::A::rest1,s6,t6⟩,.at (loopC (stAt (bodyOf (fdAt w 258)) 4) (.ref (s6+1)) (envC w 258 n [(sO "won",(n+1))])) ⟨((s6+1),fldO "range_iterator" [(.int 0 0),(.int S 0),(.int 1 0)])::(s6,fldO "range" [(.int 0 (t6+1)),(.int S ts),(.int 1 (t6+2))])::((s4+2),dctO [] 6)::H::((n+1),celO (some (.ref (s3+1))))::(n,frN w nm258 (upd ks 7 t6) [(.ref la),(.int S ts),(.ref (n+2)),V3,V4,V5,V6,(.ref (s4+1))])::rest1,(s6+2),(t6+3)⟩ (.ok .next) ⟨(n,frN w nm258 ks2 [(.ref la),(.int S ts),(.ref (n+2)),V3,V4,V5,V6,(.ref (s4+1)),V7])::I::rest2,s5,t5⟩] (.ok (.done (.ret (.ref (s4+1))))) [1] 2 ⟨I::rest2,s5,t5⟩) (n,frN w nm258 ks [(.ref la),(.int S ts),(.ref (n+2)),V3,V4,V5,V6]) ((n+2),lstO vs ep) (s2,fldO "slice" [.none,(.int S ts),.none]) (so,lstO vt ep6) ((s3+1),lstO vw ep3) ((s4+1),lstO vx ep4) ((s4+1),lstO vy ep5) (compX (stAt (bodyOf (fdAt w 258)) 2)) (compX (stAt (bodyOf (fdAt w 258)) 3))
theorem due_b3:DueB 3:=by walk_at "r"
theorem due_b4:DueB 4:=by walk_at "r"
theorem due_b5:DueB 5:=by walk_at "r"
theorem due_b6:DueB 6:=by walk_at "r"
theorem due_b {s:Nat} (h3:3≤s) (h6:s≤6):DueB s:=by
 have h:s=3∨s=4∨s=5∨s=6:=by exact oxe ‹_› ‹_›
 rcases h with rfl | rfl | rfl | rfl
 ·exact due_b3
 ·exact due_b4
 ·exact due_b5
 ·exact due_b6
theorem cnt_map_cons {α:Type} (z:Nat×Obj) (f:α→Nat×Obj) (a:α) (l:List α):cnt z ((a::l).map f)=one z (f a)+cnt z (l.map f):=rfl
noncomputable abbrev D1' (w:World):Stmt:=stAt (bodyOf (fdAt w 258)) 1
noncomputable abbrev D2' (w:World):Stmt:=stAt (forB (stAt (bodyOf (fdAt w 258)) 1)) 0
noncomputable abbrev D4' (w:World):Stmt:=stAt (bodyOf (fdAt w 258)) 4
noncomputable abbrev dEnv (w:World) (L wc:Nat):Env:=envC w 258 L [(sO "won",wc)]
noncomputable def oF (o:Of):Int×Int×Str:=(o.q,o.p,o.c)
noncomputable def offY (p v:Nat) (i j:Nat):List (Int×Int×Str):=(List.range j).map fun k=>(-((v*60 / (i+k+1):Nat):Int),(p:Int),ltr p)
theorem offY_succ (p v i j:Nat):offY p v i (j+1)=(-((v*60 / (i+1):Nat):Int),(p:Int),ltr p)::offY p v (i+1) j:=by
 unfold offY
 rw [List.range_succ_eq_map,List.map_cons,List.map_map]
 congr 1
 refine List.map_congr_left fun k _=>?_
 show (-((v*60 / (i+(k+1)+1):Nat):Int),(p:Int),ltr p)=_
 rw [show i+(k+1)+1=i+1+k+1 by exact oxj]
noncomputable def offF (s:Nat) (pl:List (Nat×Nat)):List (Int×Int×Str):=(pl.map fun y=>offY y.1 y.2 0 s).flatten
section
variable {w:World} {os:OsState}
theorem du2 {k:Nat} (hk:k≤140) (L wc it of:Nat) (V0 V1:Value) (y:Li) (s:Nat) (s3:3≤s) (s6:s≤6):∀(j i:Nat),i+j=s→∀(ks:Nat→Nat) (V6:Value) (vs:List Value) (ep n t:Nat),vs.length+j≤60 →
  ∃(V6':Value) (nw:List Of) (n' t':Nat),nw.map oF=offY y.p y.v i j∧∀(h₀:Heap),Base w h₀→h₀.get? y.e=some (tupO [.int y.v y.tv,y.V1,y.V2,y.V3,y.V4]) →
   Spec w h₀ os k (loopC (D2' w) (.ref it) (dEnv w L wc)) ⟨[(it,rngO (i+1) (s - i)),(L,frN w nm258 ks [V0,V1,.ref of,.int y.p y.tp,.str (ltr y.p) y.tl,.ref y.e,V6]),(of,lstO vs ep)],n,t⟩ (.ok .next)
    ⟨(L,frN w nm258 ks [V0,V1,.ref of,.int y.p y.tp,.str (ltr y.p) y.tl,.ref y.e,V6'])::(of,lstO (vs++refsO nw) (ep+j))::nw.map Of.cell,n',t'⟩
 | 0,i,hi=>by
  intro ks V6 vs ep n t _
  refine⟨V6,[],n+2,t,rfl,fun h₀ B hE=>?_⟩
  have hi:i=s:=by assumption
  subst hi
  rw [show vs++refsO []=vs from List.append_nil _]
  exact good_h (due2_e w n t (n+2) t L wc it (n+1) (.ref n) [.int ((i+1:Nat):Int) 0,.int ((i - i:Nat):Int) 0,.int 1 0] [.int ((i+1:Nat):Int) 0,.int ((i - i:Nat):Int) 0,.int 1 0] _ _) B facts_nil ⟨midH B (fun h₁ B1 K1 F1=>rne1 B1 it n t i s3 s6) rfl rfl,trivial⟩
 | j+1,i,hi=>by
  intro ks V6 vs ep n t hz
  obtain⟨V6',nw,n',t',hc,hnext⟩:=du2 hk L wc it of V0 V1 y s s3 s6 j (i+1) (by exact ox3 ‹_›) ks (.int ((i+1:Nat):Int) t) (vs++[.ref n]) (ep+1) (n+1) (t+7) (by simp;exact ox4 ‹_›)
  have hq:((y.v:Int)*60).fdiv ((i+1:Nat):Int)=((y.v*60 / (i+1):Nat):Int):=fdiv_nat _ _
  refine⟨V6',⟨n,-((y.v*60 / (i+1):Nat):Int),t+6,y.p,y.tp,ltr y.p,y.tl⟩::nw,n',t',by rw [offY_succ,List.map_cons,hc];rfl,fun h₀ B hE=>?_⟩
  have gR:=due2_l w n t L wc it y.e of ep y.tp y.tl y.tv ks V0 V1 V6 y.V1 y.V2 y.V3 y.V4 y.p y.v ((i+1:Nat):Int) (ltr y.p) [.int ((i+1:Nat):Int) 0,.int ((s - i:Nat):Int) 0,.int 1 0] [.int ((i+1+1:Nat):Int) 0,.int ((s - (i+1):Nat):Int) 0,.int 1 0] vs []
  refine good_again gR B (facts_nil.cons hE) ⟨?_,?_,?_,?_,?_,trivial⟩ ?_
  ·exact midH B (fun h₁ B1 K1 F1=>rnx1 B1 it n t s i s3 s6 (by exact ox1 ‹_›)) rfl rfl
  ·exact fun m=>mul_ev _ _ _ _ (by decide) m
  ·exact fun m=>div_ev _ _ _ _ (by omega) (divpy _ (by exact Nat.succ_pos _) (by exact ox7 ‹_› (Nat.le_trans ‹_› (by decide)))) m
  ·exact fun m=>neg_ev _ _ m
  ·exact midE B 3 (fun h₁ B1 K1 F1=>app_ev B1 of ep (n+1) (t+7) vs (.ref n) (by exact ox6 ‹_› (by decide))) rfl rfl
  ·rw [hq]
   refine use B [(n,tupO [.int (-((y.v*60 / (i+1):Nat):Int)) (t+6),.int y.p y.tp,.str (ltr y.p) y.tl])] [] (fun z=>?_) (fun z=>?_) (fun h₁ B1 K1 F1=>hnext h₁ B1 (K1 _ _ hE))
   ·rw [show rngO (i+1+1) (s - (i+1))=fldO "range_iterator" [.int ((i+1+1:Nat):Int) 0,.int ((s - (i+1):Nat):Int) 0,.int 1 0] from rfl]
    simp only [cnt_cons,cnt_nil]
    try ac_rfl
   ·rw [show vs++refsO ((⟨n,-((y.v*60 / (i+1):Nat):Int),t+6,y.p,y.tp,ltr y.p,y.tl⟩:Of)::nw)=vs++[.ref n]++refsO nw by unfold refsO;simp,show ep+(j+1)=ep+1+j by exact oxa,
     show (n,tupO [.int (-((y.v*60 / (i+1):Nat):Int)) (t+6),.int y.p y.tp,.str (ltr y.p) y.tl])=Of.cell ⟨n,-((y.v*60 / (i+1):Nat):Int),t+6,y.p,y.tp,ltr y.p,y.tl⟩ from rfl]
    simp only [cnt_cons,cnt_nil,cnt_map_cons]
    try ac_rfl
theorem du2_first {k:Nat} (hk:k≤140) (L wc it of:Nat) (V0 V1:Value) (y:Li) (s:Nat) (s3:3≤s) (s6:s≤6) (ks:Nat→Nat) (vs:List Value) (ep n t:Nat) (hz:vs.length+s≤60) :
  ∃(V6':Value) (nw:List Of) (n' t':Nat),nw.map oF=offY y.p y.v 0 s∧∀(h₀:Heap),Base w h₀→h₀.get? y.e=some (tupO [.int y.v y.tv,y.V1,y.V2,y.V3,y.V4]) →
   Spec w h₀ os k (loopC (D2' w) (.ref it) (dEnv w L wc)) ⟨[(it,rngO (0+1) (s - 0)),(L,frN w nm258 ks [V0,V1,.ref of,.int y.p y.tp,.str (ltr y.p) y.tl,.ref y.e]),(of,lstO vs ep)],n,t⟩ (.ok .next)
    ⟨(L,frN w nm258 (upd ks 6 (t+1)) [V0,V1,.ref of,.int y.p y.tp,.str (ltr y.p) y.tl,.ref y.e,V6'])::(of,lstO (vs++refsO nw) (ep+s))::nw.map Of.cell,n',t'⟩:=by
 obtain⟨j,rfl⟩:∃ j,s=j+1:=⟨s - 1,by exact oxc ‹_› (by decide)⟩
 obtain⟨V6',nw,n',t',hc,hnext⟩:=du2 (w:=w) (os:=os) hk L wc it of V0 V1 y (j+1) s3 s6 j (0+1) (by exact oxd) (upd ks 6 (t+1)) (.int ((0+1:Nat):Int) t) (vs++[.ref n]) (ep+1) (n+1) (t+7) (by simp;exact ox4 ‹_›)
 have hq:((y.v:Int)*60).fdiv ((0+1:Nat):Int)=((y.v*60 / (0+1):Nat):Int):=fdiv_nat _ _
 refine⟨V6',⟨n,-((y.v*60 / (0+1):Nat):Int),t+6,y.p,y.tp,ltr y.p,y.tl⟩::nw,n',t',by rw [offY_succ,List.map_cons,hc];rfl,fun h₀ B hE=>?_⟩
 have gR:=due2_f w n t L wc it y.e of ep y.tp y.tl y.tv ks V0 V1 y.V1 y.V2 y.V3 y.V4 y.p y.v ((0+1:Nat):Int) (ltr y.p) [.int ((0+1:Nat):Int) 0,.int ((j+1 - 0:Nat):Int) 0,.int 1 0] [.int ((0+1+1:Nat):Int) 0,.int ((j+1 - (0+1):Nat):Int) 0,.int 1 0] vs []
 refine good_again gR B (facts_nil.cons hE) ⟨?_,?_,?_,?_,?_,trivial⟩ ?_
 ·exact midH B (fun h₁ B1 K1 F1=>rnx1 B1 it n t (j+1) 0 s3 s6 (by exact oxg ‹_› (by decide))) rfl rfl
 ·exact fun m=>mul_ev _ _ _ _ (by decide) m
 ·exact fun m=>div_ev _ _ _ _ (by omega) (divpy _ (by exact Nat.le_refl _) (by exact Nat.succ_pos _)) m
 ·exact fun m=>neg_ev _ _ m
 ·exact midE B 3 (fun h₁ B1 K1 F1=>app_ev B1 of ep (n+1) (t+7) vs (.ref n) (by exact ox6 ‹_› (by decide))) rfl rfl
 ·rw [hq]
  refine use B [(n,tupO [.int (-((y.v*60 / (0+1):Nat):Int)) (t+6),.int y.p y.tp,.str (ltr y.p) y.tl])] [] (fun z=>?_) (fun z=>?_) (fun h₁ B1 K1 F1=>hnext h₁ B1 (K1 _ _ hE))
  ·rw [show rngO (0+1+1) (j+1 - (0+1))=fldO "range_iterator" [.int ((0+1+1:Nat):Int) 0,.int ((j+1 - (0+1):Nat):Int) 0,.int 1 0] from rfl]
   simp only [cnt_cons,cnt_nil]
   try ac_rfl
  ·rw [show vs++refsO ((⟨n,-((y.v*60 / (0+1):Nat):Int),t+6,y.p,y.tp,ltr y.p,y.tl⟩:Of)::nw)=vs++[.ref n]++refsO nw by unfold refsO;simp,show ep+(j+1)=ep+1+j by exact oxa,
    show (n,tupO [.int (-((y.v*60 / (0+1):Nat):Int)) (t+6),.int y.p y.tp,.str (ltr y.p) y.tl])=Of.cell ⟨n,-((y.v*60 / (0+1):Nat):Int),t+6,y.p,y.tp,ltr y.p,y.tl⟩ from rfl]
   simp only [cnt_cons,cnt_nil,cnt_map_cons]
   try ac_rfl
end
section
variable {w:World} {os:OsState}
theorem drop_at {α:Type} {l ys:List α} {y:α} {i:Nat} (h:l.drop i=y::ys):l[i]?=some y∧l.drop (i+1)=ys:=by
 constructor
 ·have:=congrArg (fun l=>l[0]?) h
  simpa using this
 ·have:=congrArg List.tail h
  simpa using this
theorem du2_next {k:Nat} (hk:k≤140) (L wc it of:Nat) (V0 V1:Value) (y:Li) (s:Nat) (s3:3≤s) (s6:s≤6) (ks:Nat→Nat) (V6:Value) (vs:List Value) (ep n t:Nat) (hz:vs.length+s≤60) :
  ∃(V6':Value) (nw:List Of) (n' t':Nat),nw.map oF=offY y.p y.v 0 s∧∀(h₀:Heap),Base w h₀→h₀.get? y.e=some (tupO [.int y.v y.tv,y.V1,y.V2,y.V3,y.V4]) →
   Spec w h₀ os k (loopC (D2' w) (.ref it) (dEnv w L wc)) ⟨[(it,rngO (0+1) (s - 0)),(L,frN w nm258 ks [V0,V1,.ref of,.int y.p y.tp,.str (ltr y.p) y.tl,.ref y.e,V6]),(of,lstO vs ep)],n,t⟩ (.ok .next)
    ⟨(L,frN w nm258 ks [V0,V1,.ref of,.int y.p y.tp,.str (ltr y.p) y.tl,.ref y.e,V6'])::(of,lstO (vs++refsO nw) (ep+s))::nw.map Of.cell,n',t'⟩ :=
 du2 hk L wc it of V0 V1 y s s3 s6 s 0 (by exact Nat.zero_add _) ks V6 vs ep n t hz
theorem du1 {k:Nat} (hk:k≤110) (L wc it of la le ts:Nat) (V0:Value) (ls:List Li) (h2:2≤ls.length) (h4:ls.length≤4) (s:Nat) (s3:3≤s) (s6:s≤6):∀(ys:List Li) (i:Nat),(∀ y∈ys,y∈ls)→(ls.map (·.a)).drop i=ys.map (·.a)→i+ys.length=ls.length →
  ∀(ks:Nat→Nat) (V3 V4 V5 V6:Value) (vs:List Value) (ep n t:Nat),vs.length+ys.length*6≤40 →
  ∃(ks':Nat→Nat) (V3' V4' V5' V6':Value) (nw:List Of) (ep' n' t':Nat),nw.map oF=offF s (plOf ys)∧∀(h₀:Heap),Base w h₀→LisIn h₀ la le ls →
   Spec w h₀ os k (loopC (D1' w) (.ref it) (dEnv w L wc)) ⟨[(it,fldO "list_iterator" [.ref la,.int (i:Int) 0]),(L,frN w nm258 ks [V0,.int s ts,.ref of,V3,V4,V5,V6]),(of,lstO vs ep)],n,t⟩ (.ok .next)
    ⟨(L,frN w nm258 ks' [V0,.int s ts,.ref of,V3',V4',V5',V6'])::(of,lstO (vs++refsO nw) ep')::nw.map Of.cell,n',t'⟩
 | [],i,_,_,hi=>by
  intro ks V3 V4 V5 V6 vs ep n t _
  refine⟨ks,V3,V4,V5,V6,[],ep,n+2,t,rfl,fun h₀ B hL=>?_⟩
  have hi:i=(ls.map (·.a)).length:=by simpa using hi
  rw [show vs++refsO []=vs from List.append_nil _]
  exact good_h (due1_e w n t (n+2) t L wc it (n+1) (.ref n) [.ref la,.int (i:Int) 0] [.none,.int (i:Int) 0] _ _) B facts_nil ⟨midH B (fun h₁ B1 K1 F1=>lne B1 it la le n t (ls.map (·.a)) i (by simpa using h2) (by rw [List.length_map];exact Nat.le_trans ‹_› (by decide)) (K1 _ _ hL.l) hi) rfl rfl,trivial⟩
 | y::ys,i,hm,hd,hi=>by
  intro ks V3 V4 V5 V6 vs ep n t hz
  rw [List.length_cons] at hi hz
  obtain⟨hri,hd'⟩:=drop_at hd
  obtain⟨V6a,nw1,n1,t1,hc1,hin⟩:=du2_next (w:=w) (os:=os) (k:=k+21) (by exact Nat.le_trans (Nat.add_le_add_right ‹_› _) (by decide)) L wc (n+4) of V0 (.int s ts) y s s3 s6 ks V6 vs ep (n+5) (t+7) (by omega)
  obtain⟨ks',V3',V4',V5',V6',nw2,ep',n',t',hc2,hnext⟩:=du1 hk L wc it of la le ts V0 ls h2 h4 s s3 s6 ys (i+1) (fun z hz=>hm z (.tail _ hz)) hd' (by exact ox3 ‹_›) ks (.int y.p y.tp) (.str (ltr y.p) y.tl) (.ref y.e) V6a (vs++refsO nw1) (ep+s) n1 t1 (by
   have:nw1.length=s:=by have:=congrArg List.length hc1;simpa [offY] using this
   simp [refsO,this];omega)
  refine⟨ks',V3',V4',V5',V6',nw1++nw2,ep',n',t',by rw [List.map_append,hc1,hc2];rfl,fun h₀ B hL=>?_⟩
  have hl:s=3∨s=4∨s=5∨s=6:=by exact oxe ‹_› ‹_›
  rcases hl with rfl | rfl | rfl | rfl
  ·have gR:=due1_l3 w n t n1 t1 L wc it y.a y.e of ep (ep+3) y.tp y.tl ts ks ks V0 V3 V4 V5 V6 V6a y.p (ltr y.p) [.ref la,.int ((i:Nat):Int) 0] [.ref la,.int ((i+1:Nat):Int) 0] vs (vs++refsO nw1) [] (nw1.map Of.cell)
   refine good_again gR B (facts_nil.cons (hL.t y (hm y (.head _)))) ⟨?_,?_,?_,trivial⟩ ?_
   ·exact midH B (fun h₁ B1 K1 F1=>lnx B1 it la le n t (ls.map (·.a)) i y.a (by simpa using h2) (by rw [List.length_map];exact Nat.le_trans ‹_› (by decide)) (K1 _ _ hL.l) hri) rfl rfl
   ·exact fun m=>addi_ev 3 1 _ _ m
   ·refine use B [((n+3),fldO "range" [(.int 1 (t+3)),(.int 4 (t+5)),(.int 1 (t+6))]),((n+2),fldO "StopIteration" [(.ref (n+1)),.none,.none,.none,(.bool false),.none]),((n+1),tupO []),(n,fldO "tuple_iterator" [.none,(.int 3 0)]),(it,fldO "list_iterator" [.ref la,.int ((i+1:Nat):Int) 0])] [((n+3),fldO "range" [(.int 1 (t+3)),(.int 4 (t+5)),(.int 1 (t+6))]),((n+2),fldO "StopIteration" [(.ref (n+1)),.none,.none,.none,(.bool false),.none]),((n+1),tupO []),(n,fldO "tuple_iterator" [.none,(.int 3 0)])] (fun z=>?_) (fun z=>?_) (fun h₁ B1 K1 F1=>hin h₁ B1 (K1 _ _ (hL.e y (hm y (.head _)))))
    ·rw [show rngO (0+1) (3 - 0)=fldO "range_iterator" [(.int 1 0),(.int 3 0),(.int 1 0)] from rfl]
     simp only [cnt_cons,cnt_nil]
     try ac_rfl
    ·simp only [cnt_cons,cnt_nil]
     try ac_rfl
   ·refine use B (nw1.map Of.cell) [] (fun z=>?_) (fun z=>?_) (fun h₁ B1 K1 F1=>hnext h₁ B1 (hL.keeps K1))
    ·simp only [cnt_cons,cnt_nil]
     try ac_rfl
    ·rw [show vs++refsO (nw1++nw2)=vs++refsO nw1++refsO nw2 by unfold refsO;simp,List.map_append]
     simp only [cnt_cons,cnt_nil,cnt_append]
     try ac_rfl
  ·have gR:=due1_l4 w n t n1 t1 L wc it y.a y.e of ep (ep+4) y.tp y.tl ts ks ks V0 V3 V4 V5 V6 V6a y.p (ltr y.p) [.ref la,.int ((i:Nat):Int) 0] [.ref la,.int ((i+1:Nat):Int) 0] vs (vs++refsO nw1) [] (nw1.map Of.cell)
   refine good_again gR B (facts_nil.cons (hL.t y (hm y (.head _)))) ⟨?_,?_,?_,trivial⟩ ?_
   ·exact midH B (fun h₁ B1 K1 F1=>lnx B1 it la le n t (ls.map (·.a)) i y.a (by simpa using h2) (by rw [List.length_map];exact Nat.le_trans ‹_› (by decide)) (K1 _ _ hL.l) hri) rfl rfl
   ·exact fun m=>addi_ev 4 1 _ _ m
   ·refine use B [((n+3),fldO "range" [(.int 1 (t+3)),(.int 5 (t+5)),(.int 1 (t+6))]),((n+2),fldO "StopIteration" [(.ref (n+1)),.none,.none,.none,(.bool false),.none]),((n+1),tupO []),(n,fldO "tuple_iterator" [.none,(.int 3 0)]),(it,fldO "list_iterator" [.ref la,.int ((i+1:Nat):Int) 0])] [((n+3),fldO "range" [(.int 1 (t+3)),(.int 5 (t+5)),(.int 1 (t+6))]),((n+2),fldO "StopIteration" [(.ref (n+1)),.none,.none,.none,(.bool false),.none]),((n+1),tupO []),(n,fldO "tuple_iterator" [.none,(.int 3 0)])] (fun z=>?_) (fun z=>?_) (fun h₁ B1 K1 F1=>hin h₁ B1 (K1 _ _ (hL.e y (hm y (.head _)))))
    ·rw [show rngO (0+1) (4 - 0)=fldO "range_iterator" [(.int 1 0),(.int 4 0),(.int 1 0)] from rfl]
     simp only [cnt_cons,cnt_nil]
     try ac_rfl
    ·simp only [cnt_cons,cnt_nil]
     try ac_rfl
   ·refine use B (nw1.map Of.cell) [] (fun z=>?_) (fun z=>?_) (fun h₁ B1 K1 F1=>hnext h₁ B1 (hL.keeps K1))
    ·simp only [cnt_cons,cnt_nil]
     try ac_rfl
    ·rw [show vs++refsO (nw1++nw2)=vs++refsO nw1++refsO nw2 by unfold refsO;simp,List.map_append]
     simp only [cnt_cons,cnt_nil,cnt_append]
     try ac_rfl
  ·have gR:=due1_l5 w n t n1 t1 L wc it y.a y.e of ep (ep+5) y.tp y.tl ts ks ks V0 V3 V4 V5 V6 V6a y.p (ltr y.p) [.ref la,.int ((i:Nat):Int) 0] [.ref la,.int ((i+1:Nat):Int) 0] vs (vs++refsO nw1) [] (nw1.map Of.cell)
   refine good_again gR B (facts_nil.cons (hL.t y (hm y (.head _)))) ⟨?_,?_,?_,trivial⟩ ?_
   ·exact midH B (fun h₁ B1 K1 F1=>lnx B1 it la le n t (ls.map (·.a)) i y.a (by simpa using h2) (by rw [List.length_map];exact Nat.le_trans ‹_› (by decide)) (K1 _ _ hL.l) hri) rfl rfl
   ·exact fun m=>addi_ev 5 1 _ _ m
   ·refine use B [((n+3),fldO "range" [(.int 1 (t+3)),(.int 6 (t+5)),(.int 1 (t+6))]),((n+2),fldO "StopIteration" [(.ref (n+1)),.none,.none,.none,(.bool false),.none]),((n+1),tupO []),(n,fldO "tuple_iterator" [.none,(.int 3 0)]),(it,fldO "list_iterator" [.ref la,.int ((i+1:Nat):Int) 0])] [((n+3),fldO "range" [(.int 1 (t+3)),(.int 6 (t+5)),(.int 1 (t+6))]),((n+2),fldO "StopIteration" [(.ref (n+1)),.none,.none,.none,(.bool false),.none]),((n+1),tupO []),(n,fldO "tuple_iterator" [.none,(.int 3 0)])] (fun z=>?_) (fun z=>?_) (fun h₁ B1 K1 F1=>hin h₁ B1 (K1 _ _ (hL.e y (hm y (.head _)))))
    ·rw [show rngO (0+1) (5 - 0)=fldO "range_iterator" [(.int 1 0),(.int 5 0),(.int 1 0)] from rfl]
     simp only [cnt_cons,cnt_nil]
     try ac_rfl
    ·simp only [cnt_cons,cnt_nil]
     try ac_rfl
   ·refine use B (nw1.map Of.cell) [] (fun z=>?_) (fun z=>?_) (fun h₁ B1 K1 F1=>hnext h₁ B1 (hL.keeps K1))
    ·simp only [cnt_cons,cnt_nil]
     try ac_rfl
    ·rw [show vs++refsO (nw1++nw2)=vs++refsO nw1++refsO nw2 by unfold refsO;simp,List.map_append]
     simp only [cnt_cons,cnt_nil,cnt_append]
     try ac_rfl
  ·have gR:=due1_l6 w n t n1 t1 L wc it y.a y.e of ep (ep+6) y.tp y.tl ts ks ks V0 V3 V4 V5 V6 V6a y.p (ltr y.p) [.ref la,.int ((i:Nat):Int) 0] [.ref la,.int ((i+1:Nat):Int) 0] vs (vs++refsO nw1) [] (nw1.map Of.cell)
   refine good_again gR B (facts_nil.cons (hL.t y (hm y (.head _)))) ⟨?_,?_,?_,trivial⟩ ?_
   ·exact midH B (fun h₁ B1 K1 F1=>lnx B1 it la le n t (ls.map (·.a)) i y.a (by simpa using h2) (by rw [List.length_map];exact Nat.le_trans ‹_› (by decide)) (K1 _ _ hL.l) hri) rfl rfl
   ·exact fun m=>addi_ev 6 1 _ _ m
   ·refine use B [((n+3),fldO "range" [(.int 1 (t+3)),(.int 7 (t+5)),(.int 1 (t+6))]),((n+2),fldO "StopIteration" [(.ref (n+1)),.none,.none,.none,(.bool false),.none]),((n+1),tupO []),(n,fldO "tuple_iterator" [.none,(.int 3 0)]),(it,fldO "list_iterator" [.ref la,.int ((i+1:Nat):Int) 0])] [((n+3),fldO "range" [(.int 1 (t+3)),(.int 7 (t+5)),(.int 1 (t+6))]),((n+2),fldO "StopIteration" [(.ref (n+1)),.none,.none,.none,(.bool false),.none]),((n+1),tupO []),(n,fldO "tuple_iterator" [.none,(.int 3 0)])] (fun z=>?_) (fun z=>?_) (fun h₁ B1 K1 F1=>hin h₁ B1 (K1 _ _ (hL.e y (hm y (.head _)))))
    ·rw [show rngO (0+1) (6 - 0)=fldO "range_iterator" [(.int 1 0),(.int 6 0),(.int 1 0)] from rfl]
     simp only [cnt_cons,cnt_nil]
     try ac_rfl
    ·simp only [cnt_cons,cnt_nil]
     try ac_rfl
   ·refine use B (nw1.map Of.cell) [] (fun z=>?_) (fun z=>?_) (fun h₁ B1 K1 F1=>hnext h₁ B1 (hL.keeps K1))
    ·simp only [cnt_cons,cnt_nil]
     try ac_rfl
    ·rw [show vs++refsO (nw1++nw2)=vs++refsO nw1++refsO nw2 by unfold refsO;simp,List.map_append]
     simp only [cnt_cons,cnt_nil,cnt_append]
     try ac_rfl
theorem du1_all {k:Nat} (hk:k≤110) (L wc it of la le ts:Nat) (V0:Value) (ls:List Li) (h2:2≤ls.length) (h4:ls.length≤4) (s:Nat) (s3:3≤s) (s6:s≤6) (ks:Nat→Nat) (n t:Nat) :
  ∃(ks':Nat→Nat) (V3' V4' V5' V6':Value) (nw:List Of) (ep' n' t':Nat),nw.map oF=offF s (plOf ls)∧∀(h₀:Heap),Base w h₀→LisIn h₀ la le ls →
   Spec w h₀ os k (loopC (D1' w) (.ref it) (dEnv w L wc)) ⟨[(it,fldO "list_iterator" [.ref la,.int ((0:Nat):Int) 0]),(L,frN w nm258 ks [V0,.int s ts,.ref of]),(of,lstO [] 0)],n,t⟩ (.ok .next)
    ⟨(L,frN w nm258 ks' [V0,.int s ts,.ref of,V3',V4',V5',V6'])::(of,lstO (refsO nw) ep')::nw.map Of.cell,n',t'⟩:=by
 match ls,h2 with
 | y::ys,h2 =>
  rw [List.length_cons] at h4
  obtain⟨vs,hvs⟩:∃ vs:List Value,vs=[]:=⟨_,rfl⟩
  obtain⟨ep,hep⟩:∃ ep:Nat,ep=0:=⟨_,rfl⟩
  obtain⟨V6a,nw1,n1,t1,hc1,hin⟩:=du2_first (w:=w) (os:=os) (k:=k+21) (by exact Nat.le_trans (Nat.add_le_add_right ‹_› _) (by decide)) L wc (n+4) of V0 (.int s ts) y s s3 s6 (upd (upd (upd ks 3 t) 4 (t+1)) 5 (t+2)) vs ep (n+5) (t+7) (by rw [hvs];simp;exact Nat.le_trans ‹_› (by decide))
  generalize hks:upd (upd (upd (upd ks 3 t) 4 (t+1)) 5 (t+2)) 6 (t+7+1)=ks1 at hin
  obtain⟨ks',V3',V4',V5',V6',nw2,ep',n',t',hc2,hnext⟩:=du1 (w:=w) (os:=os) hk L wc it of la le ts V0 (y::ys) h2 (by rw [List.length_cons];assumption) s s3 s6 ys (0+1) (fun z hz=>.tail _ hz) rfl (by rw [List.length_cons];exact oxd) ks1 (.int y.p y.tp) (.str (ltr y.p) y.tl) (.ref y.e) V6a (vs++refsO nw1) (ep+s) n1 t1 (by
   have:nw1.length=s:=by have:=congrArg List.length hc1;simpa [offY] using this
   subst hvs
   simp [refsO,this];omega)
  refine⟨ks',V3',V4',V5',V6',nw1++nw2,ep',n',t',by rw [List.map_append,hc1,hc2];rfl,fun h₀ B hL=>?_⟩
  rw [show refsO (nw1++nw2)=vs++refsO (nw1++nw2) by rw [hvs,List.nil_append],show lstO [] 0=lstO vs ep by rw [hvs,hep]]
  have hl:s=3∨s=4∨s=5∨s=6:=by exact oxe ‹_› ‹_›
  rcases hl with rfl | rfl | rfl | rfl
  ·have gR:=due1_f3 w n t n1 t1 L wc it y.a y.e of ep (ep+3) y.tp y.tl ts ks ks1 V0 V6a y.p (ltr y.p) [.ref la,.int ((0:Nat):Int) 0] [.ref la,.int ((0+1:Nat):Int) 0] vs (vs++refsO nw1) [] (nw1.map Of.cell)
   refine good_again gR B (facts_nil.cons (hL.t y (.head _))) ⟨?_,?_,?_,trivial⟩ ?_
   ·exact midH B (fun h₁ B1 K1 F1=>lnx B1 it la le n t ((y::ys).map (·.a)) 0 y.a (by simpa using h2) (by rw [List.length_map,List.length_cons];exact Nat.le_trans ‹_› (by decide)) (K1 _ _ hL.l) rfl) rfl rfl
   ·exact fun m=>addi_ev 3 1 _ _ m
   ·refine use B [((n+3),fldO "range" [(.int 1 (t+3)),(.int 4 (t+5)),(.int 1 (t+6))]),((n+2),fldO "StopIteration" [(.ref (n+1)),.none,.none,.none,(.bool false),.none]),((n+1),tupO []),(n,fldO "tuple_iterator" [.none,(.int 3 0)]),(it,fldO "list_iterator" [.ref la,.int ((0+1:Nat):Int) 0])] [((n+3),fldO "range" [(.int 1 (t+3)),(.int 4 (t+5)),(.int 1 (t+6))]),((n+2),fldO "StopIteration" [(.ref (n+1)),.none,.none,.none,(.bool false),.none]),((n+1),tupO []),(n,fldO "tuple_iterator" [.none,(.int 3 0)])] (fun z=>?_) (fun z=>?_) (fun h₁ B1 K1 F1=>hin h₁ B1 (K1 _ _ (hL.e y (.head _))))
    ·rw [show rngO (0+1) (3 - 0)=fldO "range_iterator" [(.int 1 0),(.int 3 0),(.int 1 0)] from rfl]
     simp only [cnt_cons,cnt_nil]
     try ac_rfl
    ·simp only [cnt_cons,cnt_nil]
     try ac_rfl
   ·refine use B (nw1.map Of.cell) [] (fun z=>?_) (fun z=>?_) (fun h₁ B1 K1 F1=>hnext h₁ B1 (hL.keeps K1))
    ·simp only [cnt_cons,cnt_nil]
     try ac_rfl
    ·rw [show vs++refsO (nw1++nw2)=vs++refsO nw1++refsO nw2 by unfold refsO;simp,List.map_append]
     simp only [cnt_cons,cnt_nil,cnt_append]
     try ac_rfl
  ·have gR:=due1_f4 w n t n1 t1 L wc it y.a y.e of ep (ep+4) y.tp y.tl ts ks ks1 V0 V6a y.p (ltr y.p) [.ref la,.int ((0:Nat):Int) 0] [.ref la,.int ((0+1:Nat):Int) 0] vs (vs++refsO nw1) [] (nw1.map Of.cell)
   refine good_again gR B (facts_nil.cons (hL.t y (.head _))) ⟨?_,?_,?_,trivial⟩ ?_
   ·exact midH B (fun h₁ B1 K1 F1=>lnx B1 it la le n t ((y::ys).map (·.a)) 0 y.a (by simpa using h2) (by rw [List.length_map,List.length_cons];exact Nat.le_trans ‹_› (by decide)) (K1 _ _ hL.l) rfl) rfl rfl
   ·exact fun m=>addi_ev 4 1 _ _ m
   ·refine use B [((n+3),fldO "range" [(.int 1 (t+3)),(.int 5 (t+5)),(.int 1 (t+6))]),((n+2),fldO "StopIteration" [(.ref (n+1)),.none,.none,.none,(.bool false),.none]),((n+1),tupO []),(n,fldO "tuple_iterator" [.none,(.int 3 0)]),(it,fldO "list_iterator" [.ref la,.int ((0+1:Nat):Int) 0])] [((n+3),fldO "range" [(.int 1 (t+3)),(.int 5 (t+5)),(.int 1 (t+6))]),((n+2),fldO "StopIteration" [(.ref (n+1)),.none,.none,.none,(.bool false),.none]),((n+1),tupO []),(n,fldO "tuple_iterator" [.none,(.int 3 0)])] (fun z=>?_) (fun z=>?_) (fun h₁ B1 K1 F1=>hin h₁ B1 (K1 _ _ (hL.e y (.head _))))
    ·rw [show rngO (0+1) (4 - 0)=fldO "range_iterator" [(.int 1 0),(.int 4 0),(.int 1 0)] from rfl]
     simp only [cnt_cons,cnt_nil]
     try ac_rfl
    ·simp only [cnt_cons,cnt_nil]
     try ac_rfl
   ·refine use B (nw1.map Of.cell) [] (fun z=>?_) (fun z=>?_) (fun h₁ B1 K1 F1=>hnext h₁ B1 (hL.keeps K1))
    ·simp only [cnt_cons,cnt_nil]
     try ac_rfl
    ·rw [show vs++refsO (nw1++nw2)=vs++refsO nw1++refsO nw2 by unfold refsO;simp,List.map_append]
     simp only [cnt_cons,cnt_nil,cnt_append]
     try ac_rfl
  ·have gR:=due1_f5 w n t n1 t1 L wc it y.a y.e of ep (ep+5) y.tp y.tl ts ks ks1 V0 V6a y.p (ltr y.p) [.ref la,.int ((0:Nat):Int) 0] [.ref la,.int ((0+1:Nat):Int) 0] vs (vs++refsO nw1) [] (nw1.map Of.cell)
   refine good_again gR B (facts_nil.cons (hL.t y (.head _))) ⟨?_,?_,?_,trivial⟩ ?_
   ·exact midH B (fun h₁ B1 K1 F1=>lnx B1 it la le n t ((y::ys).map (·.a)) 0 y.a (by simpa using h2) (by rw [List.length_map,List.length_cons];exact Nat.le_trans ‹_› (by decide)) (K1 _ _ hL.l) rfl) rfl rfl
   ·exact fun m=>addi_ev 5 1 _ _ m
   ·refine use B [((n+3),fldO "range" [(.int 1 (t+3)),(.int 6 (t+5)),(.int 1 (t+6))]),((n+2),fldO "StopIteration" [(.ref (n+1)),.none,.none,.none,(.bool false),.none]),((n+1),tupO []),(n,fldO "tuple_iterator" [.none,(.int 3 0)]),(it,fldO "list_iterator" [.ref la,.int ((0+1:Nat):Int) 0])] [((n+3),fldO "range" [(.int 1 (t+3)),(.int 6 (t+5)),(.int 1 (t+6))]),((n+2),fldO "StopIteration" [(.ref (n+1)),.none,.none,.none,(.bool false),.none]),((n+1),tupO []),(n,fldO "tuple_iterator" [.none,(.int 3 0)])] (fun z=>?_) (fun z=>?_) (fun h₁ B1 K1 F1=>hin h₁ B1 (K1 _ _ (hL.e y (.head _))))
    ·rw [show rngO (0+1) (5 - 0)=fldO "range_iterator" [(.int 1 0),(.int 5 0),(.int 1 0)] from rfl]
     simp only [cnt_cons,cnt_nil]
     try ac_rfl
    ·simp only [cnt_cons,cnt_nil]
     try ac_rfl
   ·refine use B (nw1.map Of.cell) [] (fun z=>?_) (fun z=>?_) (fun h₁ B1 K1 F1=>hnext h₁ B1 (hL.keeps K1))
    ·simp only [cnt_cons,cnt_nil]
     try ac_rfl
    ·rw [show vs++refsO (nw1++nw2)=vs++refsO nw1++refsO nw2 by unfold refsO;simp,List.map_append]
     simp only [cnt_cons,cnt_nil,cnt_append]
     try ac_rfl
  ·have gR:=due1_f6 w n t n1 t1 L wc it y.a y.e of ep (ep+6) y.tp y.tl ts ks ks1 V0 V6a y.p (ltr y.p) [.ref la,.int ((0:Nat):Int) 0] [.ref la,.int ((0+1:Nat):Int) 0] vs (vs++refsO nw1) [] (nw1.map Of.cell)
   refine good_again gR B (facts_nil.cons (hL.t y (.head _))) ⟨?_,?_,?_,trivial⟩ ?_
   ·exact midH B (fun h₁ B1 K1 F1=>lnx B1 it la le n t ((y::ys).map (·.a)) 0 y.a (by simpa using h2) (by rw [List.length_map,List.length_cons];exact Nat.le_trans ‹_› (by decide)) (K1 _ _ hL.l) rfl) rfl rfl
   ·exact fun m=>addi_ev 6 1 _ _ m
   ·refine use B [((n+3),fldO "range" [(.int 1 (t+3)),(.int 7 (t+5)),(.int 1 (t+6))]),((n+2),fldO "StopIteration" [(.ref (n+1)),.none,.none,.none,(.bool false),.none]),((n+1),tupO []),(n,fldO "tuple_iterator" [.none,(.int 3 0)]),(it,fldO "list_iterator" [.ref la,.int ((0+1:Nat):Int) 0])] [((n+3),fldO "range" [(.int 1 (t+3)),(.int 7 (t+5)),(.int 1 (t+6))]),((n+2),fldO "StopIteration" [(.ref (n+1)),.none,.none,.none,(.bool false),.none]),((n+1),tupO []),(n,fldO "tuple_iterator" [.none,(.int 3 0)])] (fun z=>?_) (fun z=>?_) (fun h₁ B1 K1 F1=>hin h₁ B1 (K1 _ _ (hL.e y (.head _))))
    ·rw [show rngO (0+1) (6 - 0)=fldO "range_iterator" [(.int 1 0),(.int 6 0),(.int 1 0)] from rfl]
     simp only [cnt_cons,cnt_nil]
     try ac_rfl
    ·simp only [cnt_cons,cnt_nil]
     try ac_rfl
   ·refine use B (nw1.map Of.cell) [] (fun z=>?_) (fun z=>?_) (fun h₁ B1 K1 F1=>hnext h₁ B1 (hL.keeps K1))
    ·simp only [cnt_cons,cnt_nil]
     try ac_rfl
    ·rw [show vs++refsO (nw1++nw2)=vs++refsO nw1++refsO nw2 by unfold refsO;simp,List.map_append]
     simp only [cnt_cons,cnt_nil,cnt_append]
     try ac_rfl
end
noncomputable def refsH (hs:List Hd):List Value:=hs.map fun h=>.ref h.a
noncomputable abbrev X2 (w:World):Expr:=compX (stAt (bodyOf (fdAt w 258)) 2)
noncomputable abbrev X3 (w:World):Expr:=compX (stAt (bodyOf (fdAt w 258)) 3)
noncomputable abbrev Q2 (w:World) (L F:Nat):Env:=envQ w 258 L (X2 w) F []
noncomputable abbrev Q3 (w:World) (L F wc:Nat):Env:=envQ w 258 L (X3 w) F [((sO "won"),wc)]
noncomputable def wonO (ws:List Of):List (Str×Nat):=ws.map fun o=>(o.c,o.tl)
noncomputable def dueA (cs:List (Str×Nat)) (ps:List Nat):PT:=(ps.filter fun p=>!(cs.any fun c=>c.1 == ltr p)).map fun p=>(p,false,1)
theorem dueA_in {cs:List (Str×Nat)} {p:Nat} {ps:List Nat} (h:(cs.any fun c=>c.1 == ltr p)=true):dueA cs (p::ps)=dueA cs ps:=by
 unfold dueA;rw [List.filter_cons,if_neg (by simp only [h];decide)]
theorem dueA_out {cs:List (Str×Nat)} {p:Nat} {ps:List Nat} (h:(cs.any fun c=>c.1 == ltr p)=false):dueA cs (p::ps)=(p,false,1)::dueA cs ps:=by
 unfold dueA;rw [List.filter_cons,if_pos (by simp only [h];decide)];rfl
theorem TabIs.cons {h:Hd} {hs:List Hd} {e:Nat×Bool×Nat} {T:PT} (a:hdF h=ptF e) (b:TabIs hs T):TabIs (h::hs) (e::T):=by
 unfold TabIs at *;rw [List.map_cons,List.map_cons,a,b]
theorem TabIs.app {hs hs':List Hd} {T T':PT} (a:TabIs hs T) (b:TabIs hs' T'):TabIs (hs++hs') (T++T'):=by
 unfold TabIs at *;rw [List.map_append,List.map_append,a,b]
section
variable {w:World} {os:OsState}
theorem cq2 {k:Nat} (hk:k≤140) (L wc it acc F sl ep2 k0:Nat) (ws:List Of) (h2:2≤ws.length) (h6:ws.length≤6):∀(ys:List Of) (i:Nat),(∀ y∈ys,y∈ws)→(ws.map (·.a)).drop i=ys.map (·.a)→i+ys.length=ws.length →
  ∀(V0:Value) (vs:List Value) (ep n t:Nat),vs.length+ys.length≤60 →
  ∃(V0':Value) (n' t':Nat),∀(h₀:Heap),Base w h₀→Facts h₀ ((sl,lstO ((ws.map (·.a)).map .ref) ep2)::ws.map Of.cell) →
   Spec w h₀ os k (compL (X2 w) (.ref it) (.ref acc) (Q2 w L F)) ⟨[(it,fldO "list_iterator" [.ref sl,.int (i:Int) 0]),(F,dctO [ez w.params (sO "offer") k0 V0] 1),(acc,lstO vs ep)],n,t⟩ (.ok .next)
    ⟨[(F,dctO [ez w.params (sO "offer") k0 V0'] 1),(acc,lstO (vs++strL (wonO ys)) (ep+ys.length))],n',t'⟩
 | [],i,_,_,hi=>by
  intro V0 vs ep n t _
  refine⟨V0,n+2,t,fun h₀ B hL=>?_⟩
  have hi:i=(ws.map (·.a)).length:=by simpa using hi
  rw [show vs++strL (wonO [])=vs from List.append_nil _]
  exact good_h (cq_e w n t (n+2) t L wc it acc F (n+1) (.ref n) [.ref sl,.int (i:Int) 0] [.none,.int (i:Int) 0] _) B facts_nil ⟨midH B (fun h₁ B1 K1 F1=>lne B1 it sl ep2 n t (ws.map (·.a)) i (by simpa using h2) (by rw [List.length_map];assumption) (K1 _ _ (hL _ (.head _))) hi) rfl rfl,trivial⟩
 | y::ys,i,hm,hd,hi=>by
  intro V0 vs ep n t hz
  rw [List.length_cons] at hi hz
  obtain⟨hri,hd'⟩:=drop_at hd
  obtain⟨V0',n',t',hnext⟩:=cq2 hk L wc it acc F sl ep2 k0 ws h2 h6 ys (i+1) (fun z hz=>hm z (.tail _ hz)) hd' (by exact ox3 ‹_›) (.ref y.a) (vs++[.str y.c y.tl]) (ep+1) n (t+2) (by rw [List.length_append,List.length_singleton];exact ox4 ‹_›)
  refine⟨V0',n',t',fun h₀ B hL=>?_⟩
  have gR:=cq_l w n t L wc it acc F y.a ep y.tq y.tp y.tl k0 V0 y.q y.p y.c [.ref sl,.int (i:Int) 0] [.ref sl,.int ((i+1:Nat):Int) 0] vs []
  refine good_again gR B (facts_nil.cons (hL y.cell (.tail _ (List.mem_map_of_mem (hm y (.head _)))))) ⟨?_,?_,trivial⟩ ?_
  ·exact midH B (fun h₁ B1 K1 F1=>lnx B1 it sl ep2 n t (ws.map (·.a)) i y.a (by simpa using h2) (by rw [List.length_map];assumption) (K1 _ _ (hL _ (.head _))) hri) rfl rfl
  ·exact midE B 2 (fun h₁ B1 K1 F1=>app_ev B1 acc ep n (t+2) vs (.str y.c y.tl) (by exact ox6 ‹_› (by decide))) rfl rfl
  ·rw [show vs++strL (wonO (y::ys))=vs++[.str y.c y.tl]++strL (wonO ys) by simp [strL,wonO],show ep+(y::ys).length=ep+1+ys.length by rw [List.length_cons];exact oxa]
   exact hnext h₀ B hL
theorem cq_all {k:Nat} (hk:k≤110) (L wc it acc F sl ep2:Nat) (ws:List Of) (h2:2≤ws.length) (h6:ws.length≤6) (n t:Nat) :
  ∃(k0:Nat) (V0':Value) (n' t':Nat),∀(h₀:Heap),Base w h₀→Facts h₀ ((sl,lstO (refsO ws) ep2)::ws.map Of.cell) →
   Spec w h₀ os k (compS (X2 w) (.ref it) (.ref acc) (Q2 w L F)) ⟨[(it,fldO "list_iterator" [.ref sl,.int ((0:Nat):Int) 0]),(F,dctO [] 0),(acc,lstO [] 0)],n,t⟩ (.ok .next)
    ⟨[(F,dctO [ez w.params (sO "offer") k0 V0'] 1),(acc,lstO (strL (wonO ws)) ws.length)],n',t'⟩:=by
 match ws,h2 with
 | y::ys,h2 =>
  rw [List.length_cons] at h6
  obtain⟨V0',n',t',hnext⟩:=cq2 (w:=w) (os:=os) (k:=k) (by exact Nat.le_trans ‹_› (by decide)) L wc it acc F sl ep2 t (y::ys) h2 (by rw [List.length_cons];assumption) ys (0+1) (fun z hz=>.tail _ hz) rfl (by rw [List.length_cons];exact oxd) (.ref y.a) [.str y.c y.tl] (0+1) n (t+2) (by rw [List.length_singleton];omega)
  refine⟨t,V0',n',t',fun h₀ B hL=>?_⟩
  have gS:=cq_s w n t L wc it acc F [.ref sl,.int ((0:Nat):Int) 0] [(F,dctO [] 0),(acc,lstO [] 0)]
  refine good_again gS B facts_nil trivial ?_
  have gR:=cq_f w n t L wc it acc F y.a 0 y.tq y.tp y.tl y.q y.p y.c [.ref sl,.int ((0:Nat):Int) 0] [.ref sl,.int ((0+1:Nat):Int) 0] [] []
  have er:refsO (y::ys)=((y::ys).map (·.a)).map .ref:=by unfold refsO;rw [List.map_map];rfl
  rw [er] at hL
  refine good_again gR B (facts_nil.cons (hL y.cell (.tail _ (.head _)))) ⟨?_,?_,trivial⟩ ?_
  ·exact midH B (fun h₁ B1 K1 F1=>lnx B1 it sl ep2 n t ((y::ys).map (·.a)) 0 y.a (by simpa using h2) (by rw [List.length_map,List.length_cons];assumption) (K1 _ _ (hL _ (.head _))) rfl) rfl rfl
  ·exact midE B 2 (fun h₁ B1 K1 F1=>app_ev B1 acc 0 n (t+2) [] (.str y.c y.tl) (by decide)) rfl rfl
  ·rw [show strL (wonO (y::ys))=[.str y.c y.tl]++strL (wonO ys) by simp [strL,wonO],show (y::ys).length=0+1+ys.length by rw [List.length_cons];exact oxd.symm]
   exact hnext h₀ B hL
theorem cd2 {k:Nat} (hk:k≤110) (L wc it acc F la le wl ep2 k0 k1 k2:Nat) (cs:List (Str×Nat)) (ls:List Li) (h2:2≤ls.length) (h4:ls.length≤4):∀(ys:List Li) (i:Nat),(∀ y∈ys,y∈ls)→(ls.map (·.a)).drop i=ys.map (·.a)→i+ys.length=ls.length →
  ∀(V0 V1 V2:Value) (vs:List Value) (ep n t:Nat),vs.length+ys.length≤60 →
  ∃(V0' V1' V2':Value) (nw:List Hd) (ep' n' t':Nat),TabIs nw (dueA cs (ys.map (·.p)))∧∀(h₀:Heap),Base w h₀→LisIn h₀ la le ls→h₀.get? wc=some (celO (some (.ref wl)))→h₀.get? wl=some (lstO (strL cs) ep2) →
   Spec w h₀ os k (compL (X3 w) (.ref it) (.ref acc) (Q3 w L F wc)) ⟨[(it,fldO "list_iterator" [.ref la,.int (i:Int) 0]),(F,dctO [ez w.params (sO "place") k0 V0,ez w.params (sO "letter") k1 V1,ez w.params (sO "entry") k2 V2] 3),(acc,lstO vs ep)],n,t⟩ (.ok .next)
    ⟨(F,dctO [ez w.params (sO "place") k0 V0',ez w.params (sO "letter") k1 V1',ez w.params (sO "entry") k2 V2'] 3)::(acc,lstO (vs++refsH nw) ep')::nw.map Hd.cell,n',t'⟩
 | [],i,_,_,hi=>by
  intro V0 V1 V2 vs ep n t _
  refine⟨V0,V1,V2,[],ep,n+2,t,rfl,fun h₀ B hL hwc hwl=>?_⟩
  have hi:i=(ls.map (·.a)).length:=by simpa using hi
  rw [show vs++refsH []=vs from List.append_nil _]
  exact good_h (cd_e w n t (n+2) t L wc it acc F (n+1) (.ref n) [.ref la,.int (i:Int) 0] [.none,.int (i:Int) 0] _) B facts_nil ⟨midH B (fun h₁ B1 K1 F1=>lne B1 it la le n t (ls.map (·.a)) i (by simpa using h2) (by rw [List.length_map];exact Nat.le_trans ‹_› (by decide)) (K1 _ _ hL.l) hi) rfl rfl,trivial⟩
 | y::ys,i,hm,hd,hi=>by
  intro V0 V1 V2 vs ep n t hz
  rw [List.length_cons] at hi hz
  obtain⟨hri,hd'⟩:=drop_at hd
  cases h:(cs.any fun c=>c.1 == ltr y.p)
  ·obtain⟨V0',V1',V2',nw,ep',n',t',hT,hnext⟩:=cd2 hk L wc it acc F la le wl ep2 k0 k1 k2 cs ls h2 h4 ys (i+1) (fun z hz=>hm z (.tail _ hz)) hd' (by exact ox3 ‹_›) (.int y.p y.tp) (.str (ltr y.p) y.tl) (.ref y.e) (vs++[.ref (n+3)]) (ep+1) (n+4) (t+4) (by rw [List.length_append,List.length_singleton];exact ox4 ‹_›)
   refine⟨V0',V1',V2',(⟨n+3,ltr y.p,y.tl,sO ".",t+3⟩::nw),ep',n',t',by rw [List.map_cons,dueA_out h];exact TabIs.cons rfl hT,fun h₀ B hL hwc hwl=>?_⟩
   have gR:=cd_ln w n t L wc it acc F y.a y.e wl ep ep2 y.tp y.tl k0 k1 k2 V0 V1 V2 y.p (ltr y.p) [.ref la,.int ((i:Nat):Int) 0] [.ref la,.int ((i+1:Nat):Int) 0] vs (strL cs) []
   refine good_again gR B (((facts_nil.cons hwl).cons hwc).cons (hL.t y (hm y (.head _)))) ⟨?_,?_,?_,trivial⟩ ?_
   ·exact midH B (fun h₁ B1 K1 F1=>lnx B1 it la le n t (ls.map (·.a)) i y.a (by simpa using h2) (by rw [List.length_map];exact Nat.le_trans ‹_› (by decide)) (K1 _ _ hL.l) hri) rfl rfl
   ·refine mid_ B (fun h₁ B1 K1 F1=>?_)
    rw [← h]
    exact has_ev B1 wl ep2 (n+3) (t+3) y.tl cs (ltr y.p) (K1 _ _ hwl)
   ·exact midE B 6 (fun h₁ B1 K1 F1=>app_ev B1 acc ep (n+4) (t+4) vs (.ref (n+3)) (by exact ox6 ‹_› (by decide))) rfl rfl
   ·refine use B [(n+3,tupO [.str (ltr y.p) y.tl,.str (sO ".") (t+3)])] [] (fun z=>?_) (fun z=>?_) (fun h₁ B1 K1 F1=>hnext h₁ B1 (hL.keeps K1) (K1 _ _ hwc) (K1 _ _ hwl))
    ·simp only [cnt_cons,cnt_nil]
     try ac_rfl
    ·rw [show vs++refsH ((⟨n+3,ltr y.p,y.tl,sO ".",t+3⟩:Hd)::nw)=vs++[.ref (n+3)]++refsH nw by unfold refsH;simp,
      show (n+3,tupO [.str (ltr y.p) y.tl,.str (sO ".") (t+3)])=Hd.cell ⟨n+3,ltr y.p,y.tl,sO ".",t+3⟩ from rfl]
     simp only [cnt_cons,cnt_nil,cnt_map_cons]
     try ac_rfl
  ·obtain⟨V0',V1',V2',nw,ep',n',t',hT,hnext⟩:=cd2 hk L wc it acc F la le wl ep2 k0 k1 k2 cs ls h2 h4 ys (i+1) (fun z hz=>hm z (.tail _ hz)) hd' (by exact ox3 ‹_›) (.int y.p y.tp) (.str (ltr y.p) y.tl) (.ref y.e) vs ep (n+3) (t+3) (by exact ox5 ‹_›)
   refine⟨V0',V1',V2',nw,ep',n',t',by rw [List.map_cons,dueA_in h];exact hT,fun h₀ B hL hwc hwl=>?_⟩
   have gR:=cd_li w n t L wc it acc F y.a y.e wl ep ep2 y.tp y.tl k0 k1 k2 V0 V1 V2 y.p (ltr y.p) [.ref la,.int ((i:Nat):Int) 0] [.ref la,.int ((i+1:Nat):Int) 0] vs (strL cs) []
   refine good_again gR B (((facts_nil.cons hwl).cons hwc).cons (hL.t y (hm y (.head _)))) ⟨?_,?_,trivial⟩ ?_
   ·exact midH B (fun h₁ B1 K1 F1=>lnx B1 it la le n t (ls.map (·.a)) i y.a (by simpa using h2) (by rw [List.length_map];exact Nat.le_trans ‹_› (by decide)) (K1 _ _ hL.l) hri) rfl rfl
   ·refine mid_ B (fun h₁ B1 K1 F1=>?_)
    rw [← h]
    exact has_ev B1 wl ep2 (n+3) (t+3) y.tl cs (ltr y.p) (K1 _ _ hwl)
   ·exact hnext h₀ B hL hwc hwl
theorem cd_all {k:Nat} (hk:k≤90) (L wc it acc F la le wl ep2:Nat) (cs:List (Str×Nat)) (ls:List Li) (h2:2≤ls.length) (h4:ls.length≤4) (n t:Nat) :
  ∃(k0 k1 k2:Nat) (V0' V1' V2':Value) (nw:List Hd) (ep' n' t':Nat),TabIs nw (dueA cs (ls.map (·.p)))∧∀(h₀:Heap),Base w h₀→LisIn h₀ la le ls→h₀.get? wc=some (celO (some (.ref wl)))→h₀.get? wl=some (lstO (strL cs) ep2) →
   Spec w h₀ os k (compS (X3 w) (.ref it) (.ref acc) (Q3 w L F wc)) ⟨[(it,fldO "list_iterator" [.ref la,.int ((0:Nat):Int) 0]),(F,dctO [] 0),(acc,lstO [] 0)],n,t⟩ (.ok .next)
    ⟨(F,dctO [ez w.params (sO "place") k0 V0',ez w.params (sO "letter") k1 V1',ez w.params (sO "entry") k2 V2'] 3)::(acc,lstO (refsH nw) ep')::nw.map Hd.cell,n',t'⟩:=by
 match ls,h2 with
 | y::ys,h2 =>
  rw [List.length_cons] at h4
  obtain⟨vs,hvs⟩:∃ vs:List Value,vs=[]:=⟨_,rfl⟩
  obtain⟨ep,hep⟩:∃ ep:Nat,ep=0:=⟨_,rfl⟩
  cases h:(cs.any fun c=>c.1 == ltr y.p)
  ·obtain⟨V0',V1',V2',nw,ep',n',t',hT,hnext⟩:=cd2 (w:=w) (os:=os) (k:=k) (by exact Nat.le_trans ‹_› (by decide)) L wc it acc F la le wl ep2 t (t+1) (t+2) cs (y::ys) h2 (by rw [List.length_cons];assumption) ys (0+1) (fun z hz=>.tail _ hz) rfl (by rw [List.length_cons];exact oxd) (.int y.p y.tp) (.str (ltr y.p) y.tl) (.ref y.e) (vs++[.ref (n+3)]) (ep+1) (n+4) (t+4) (by rw [hvs];simp;omega)
   refine⟨t,t+1,t+2,V0',V1',V2',(⟨n+3,ltr y.p,y.tl,sO ".",t+3⟩::nw),ep',n',t',by rw [List.map_cons,dueA_out h];exact TabIs.cons rfl hT,fun h₀ B hL hwc hwl=>?_⟩
   rw [show refsH (⟨n+3,ltr y.p,y.tl,sO ".",t+3⟩::nw)=vs++refsH (⟨n+3,ltr y.p,y.tl,sO ".",t+3⟩::nw) by rw [hvs,List.nil_append],show lstO [] 0=lstO vs ep by rw [hvs,hep]]
   have gS:=cd_s w n t L wc it acc F [.ref la,.int ((0:Nat):Int) 0] [(F,dctO [] 0),(acc,lstO vs ep)]
   refine good_again gS B facts_nil trivial ?_
   have gR:=cd_fn w n t L wc it acc F y.a y.e wl ep ep2 y.tp y.tl y.p (ltr y.p) [.ref la,.int ((0:Nat):Int) 0] [.ref la,.int ((0+1:Nat):Int) 0] vs (strL cs) []
   refine good_again gR B (((facts_nil.cons hwl).cons hwc).cons (hL.t y (.head _))) ⟨?_,?_,?_,trivial⟩ ?_
   ·exact midH B (fun h₁ B1 K1 F1=>lnx B1 it la le n t ((y::ys).map (·.a)) 0 y.a (by simpa using h2) (by rw [List.length_map,List.length_cons];exact Nat.le_trans ‹_› (by decide)) (K1 _ _ hL.l) rfl) rfl rfl
   ·refine mid_ B (fun h₁ B1 K1 F1=>?_)
    rw [← h]
    exact has_ev B1 wl ep2 (n+3) (t+3) y.tl cs (ltr y.p) (K1 _ _ hwl)
   ·exact midE B 6 (fun h₁ B1 K1 F1=>app_ev B1 acc ep (n+4) (t+4) vs (.ref (n+3)) (by rw [hvs];decide)) rfl rfl
   ·refine use B [(n+3,tupO [.str (ltr y.p) y.tl,.str (sO ".") (t+3)])] [] (fun z=>?_) (fun z=>?_) (fun h₁ B1 K1 F1=>hnext h₁ B1 (hL.keeps K1) (K1 _ _ hwc) (K1 _ _ hwl))
    ·simp only [cnt_cons,cnt_nil]
     try ac_rfl
    ·rw [show vs++refsH ((⟨n+3,ltr y.p,y.tl,sO ".",t+3⟩:Hd)::nw)=vs++[.ref (n+3)]++refsH nw by unfold refsH;simp,
      show (n+3,tupO [.str (ltr y.p) y.tl,.str (sO ".") (t+3)])=Hd.cell ⟨n+3,ltr y.p,y.tl,sO ".",t+3⟩ from rfl]
     simp only [cnt_cons,cnt_nil,cnt_map_cons]
     try ac_rfl
  ·obtain⟨V0',V1',V2',nw,ep',n',t',hT,hnext⟩:=cd2 (w:=w) (os:=os) (k:=k) (by exact Nat.le_trans ‹_› (by decide)) L wc it acc F la le wl ep2 t (t+1) (t+2) cs (y::ys) h2 (by rw [List.length_cons];assumption) ys (0+1) (fun z hz=>.tail _ hz) rfl (by rw [List.length_cons];exact oxd) (.int y.p y.tp) (.str (ltr y.p) y.tl) (.ref y.e) vs ep (n+3) (t+3) (by rw [hvs];simp;exact ox6 ‹_› (by decide))
   refine⟨t,t+1,t+2,V0',V1',V2',nw,ep',n',t',by rw [List.map_cons,dueA_in h];exact hT,fun h₀ B hL hwc hwl=>?_⟩
   rw [show refsH nw=vs++refsH nw by rw [hvs,List.nil_append],show lstO [] 0=lstO vs ep by rw [hvs,hep]]
   have gS:=cd_s w n t L wc it acc F [.ref la,.int ((0:Nat):Int) 0] [(F,dctO [] 0),(acc,lstO vs ep)]
   refine good_again gS B facts_nil trivial ?_
   have gR:=cd_fi w n t L wc it acc F y.a y.e wl ep ep2 y.tp y.tl y.p (ltr y.p) [.ref la,.int ((0:Nat):Int) 0] [.ref la,.int ((0+1:Nat):Int) 0] vs (strL cs) []
   refine good_again gR B (((facts_nil.cons hwl).cons hwc).cons (hL.t y (.head _))) ⟨?_,?_,trivial⟩ ?_
   ·exact midH B (fun h₁ B1 K1 F1=>lnx B1 it la le n t ((y::ys).map (·.a)) 0 y.a (by simpa using h2) (by rw [List.length_map,List.length_cons];exact Nat.le_trans ‹_› (by decide)) (K1 _ _ hL.l) rfl) rfl rfl
   ·refine mid_ B (fun h₁ B1 K1 F1=>?_)
    rw [← h]
    exact has_ev B1 wl ep2 (n+3) (t+3) y.tl cs (ltr y.p) (K1 _ _ hwl)
   ·exact hnext h₀ B hL hwc hwl
end
noncomputable def dueB (wp:List Nat):Nat→Nat→PT
 | _,0=>[]
 | i,j+1=>(if (wp.drop (i+1)).any (·== wp.getD i 0)=true then [] else [(wp.getD i 0,i % 2 == 1,1+wp.countP (·== wp.getD i 0))])++dueB wp (i+1) j
theorem ltr_beq:∀ {p q:Nat},p < 4→q < 4→(ltr p == ltr q)=(p == q)
 | 0,0,_,_ | 0,1,_,_ | 0,2,_,_ | 0,3,_,_ | 1,0,_,_ | 1,1,_,_ | 1,2,_,_ | 1,3,_,_ | 2,0,_,_ | 2,1,_,_ | 2,2,_,_ | 2,3,_,_ | 3,0,_,_ | 3,1,_,_ | 3,2,_,_ | 3,3,_,_=>by decide +kernel
 | p+4,_,h,_=>absurd h (by omega)
 | _,q+4,_,h=>absurd h (by omega)
theorem any_ltr {p:Nat} (hp:p < 4):∀ {cs:List (Str×Nat)} {wp:List Nat},cs.map (·.1)=wp.map ltr→(∀ q∈wp,q < 4)→(cs.any fun c=>c.1 == ltr p)=wp.any (·== p)
 | [],[],_,_=>rfl
 | [],_::_,h,_=>nomatch h
 | _::_,[],h,_=>nomatch h
 | c::cs,q::wp,h,hw=>by
  rw [List.map_cons,List.map_cons] at h
  rw [List.any_cons,List.any_cons,any_ltr hp (List.cons.inj h).2 (fun z hz=>hw z (.tail _ hz)),(List.cons.inj h).1,ltr_beq (hw q (.head _)) hp]
theorem cnt_ltr {p:Nat} (hp:p < 4):∀ {cs:List (Str×Nat)} {wp:List Nat},cs.map (·.1)=wp.map ltr→(∀ q∈wp,q < 4)→(cs.countP fun c=>c.1 == ltr p)=wp.countP (·== p)
 | [],[],_,_=>rfl
 | [],_::_,h,_=>nomatch h
 | _::_,[],h,_=>nomatch h
 | c::cs,q::wp,h,hw=>by
  rw [List.map_cons,List.map_cons] at h
  rw [List.countP_cons,List.countP_cons,cnt_ltr hp (List.cons.inj h).2 (fun z hz=>hw z (.tail _ hz)),(List.cons.inj h).1,ltr_beq (hw q (.head _)) hp]
theorem pick_dr (cs:List (Str×Nat)) (i:Nat):kms_pick (strL cs) (some ((i:Int)+1)) none=strL (cs.drop (i+1)):=by
 have:=pick_from (strL cs) (i+1)
 rw [show (((i+1:Nat)):Int)=(i:Int)+1 from rfl] at this
 rw [this];unfold strL;rw [List.map_drop]
section
variable {w:World} {os:OsState}
theorem d4 {k:Nat} (hk:k≤110) (L wc it wl dl ep2:Nat) (ks:Nat→Nat) (V0 V1 V2 V3 V4 V5 V6:Value) (cs:List (Str×Nat)) (wp:List Nat) (hcs:cs.map (·.1)=wp.map ltr) (hw4:∀ q∈wp,q < 4) (s:Nat) (hs:cs.length=s) (s3:3≤s) (s6:s≤6):∀(j i:Nat),i+j=s →
  ∀(V7:Value) (vs:List Value) (ep n t:Nat),vs.length+j≤60 →
  ∃(V7':Value) (nw:List Hd) (ep' n' t':Nat),TabIs nw (dueB wp i j)∧∀(h₀:Heap),Base w h₀→h₀.get? wc=some (celO (some (.ref wl)))→h₀.get? wl=some (lstO (strL cs) ep2) →
   Spec w h₀ os k (loopC (D4' w) (.ref it) (dEnv w L wc)) ⟨[(it,rngO i (s - i)),(L,frN w nm258 ks [V0,V1,V2,V3,V4,V5,V6,.ref dl,V7]),(dl,lstO vs ep)],n,t⟩ (.ok .next)
    ⟨(L,frN w nm258 ks [V0,V1,V2,V3,V4,V5,V6,.ref dl,V7'])::(dl,lstO (vs++refsH nw) ep')::nw.map Hd.cell,n',t'⟩
 | 0,i,hi=>by
  intro V7 vs ep n t _
  refine⟨V7,[],ep,n+2,t,rfl,fun h₀ B hwc hwl=>?_⟩
  have hi:i=s:=by assumption
  subst hi
  rw [show vs++refsH []=vs from List.append_nil _]
  exact good_h (due4_e w n t (n+2) t L wc it (n+1) (.ref n) [.int (i:Int) 0,.int ((i - i:Nat):Int) 0,.int 1 0] [.int (i:Int) 0,.int ((i - i:Nat):Int) 0,.int 1 0] _ _) B facts_nil ⟨midH B (fun h₁ B1 K1 F1=>rne0 B1 it n t i s3 s6) rfl rfl,trivial⟩
 | j+1,i,hi=>by
  intro V7 vs ep n t hz
  have hil:i < cs.length:=by exact oxp ‹_› ‹_›
  obtain⟨p,hp⟩:∃ p,wp.getD i 0=p:=⟨_,rfl⟩
  have hwl':wp.length=cs.length:=by have:=congrArg List.length hcs;simpa using this.symm
  have hwi:wp[i]?=some p:=by
   rw [← hp,List.getD_eq_getElem?_getD,List.getElem?_eq_getElem (by exact Nat.le_trans ‹_› (Nat.le_of_eq (Eq.symm ‹_›)))];rfl
  have hp4:p < 4:=hw4 p (List.mem_of_getElem? hwi)
  obtain⟨tl,hci⟩:∃ tl,cs[i]?=some (ltr p,tl):=by
   have h1:(cs.map (·.1))[i]?=some (ltr p):=by rw [hcs,List.getElem?_map,hwi];rfl
   rw [List.getElem?_map] at h1
   cases hc:cs[i]? with
   | none=>rw [hc] at h1;cases h1
   | some ci=>rw [hc] at h1;exact⟨ci.2,by rw [← Option.some.inj h1]⟩
  have hgi:(strL cs)[i]?=some (.str (ltr p) tl):=by unfold strL;rw [List.getElem?_map,hci];rfl
  have hany:((cs.drop (i+1)).any fun c=>c.1 == ltr p)=(wp.drop (i+1)).any (·== wp.getD i 0):=by
   rw [hp];exact any_ltr hp4 (by rw [List.map_drop,List.map_drop,hcs]) (fun q hq=>hw4 q (List.mem_of_mem_drop hq))
  have hcnt:(cs.countP fun c=>c.1 == ltr p)=wp.countP (·== p):=cnt_ltr hp4 hcs hw4
  have hc1:1≤cs.countP fun c=>c.1 == ltr p:=by
   rw [hcnt];exact List.countP_pos_iff.mpr ⟨p,List.mem_of_getElem? hwi,by simp⟩
  have hc6:(cs.countP fun c=>c.1 == ltr p)≤cs.length:=List.countP_le_length
  have hp2:i % 2=0∨i % 2=1:=by exact Nat.mod_two_eq_zero_or_one _
  cases hI:((cs.drop (i+1)).any fun c=>c.1 == ltr p)
  ·rw [dueB,hp]
   rcases hp2 with h2 | h2
   ·have hmod:Int.fmod (i:Int) 2=0:=by rw [Int.fmod_eq_emod_of_nonneg _ (by decide)];omega
    have hpar:(i % 2 == 1)=false:=by rw [h2];rfl
    obtain⟨V7',nw,ep',n',t',hT,hnext⟩:=d4 hk L wc it wl dl ep2 ks V0 V1 V2 V3 V4 V5 V6 cs wp hcs hw4 s hs s3 s6 j (i+1) (by exact ox3 ‹_›) (.int ((i:Nat):Int) t) (vs++[.ref (n+3)]) (ep+1) (n+4) (t+12) (by rw [List.length_append,List.length_singleton];exact ox4 ‹_›)
    refine⟨V7',((⟨n+3,ltr p,tl,dS (1+cs.countP fun c=>c.1 == ltr p),t+11⟩:Hd)::nw),ep',n',t',by rw [if_neg (by rw [← hp,← hany,hI];decide),← hcnt];exact TabIs.cons (by rw [hpar];rfl) hT,fun h₀ B hwc hwl=>?_⟩
    have gR:=due4_en w n t L wc it wl (n+1) dl ep ep2 tl ks V0 V1 V2 V3 V4 V5 V6 V7 ((cs.countP fun c=>c.1 == ltr p:Nat):Int) ((i:Nat):Int) (ltr p) (dS (1+cs.countP fun c=>c.1 == ltr p)) [.int ((i:Nat):Int) 0,.int ((s - i:Nat):Int) 0,.int 1 0] [.int ((i+1:Nat):Int) 0,.int ((s - (i+1):Nat):Int) 0,.int 1 0] vs (strL cs) (strL (cs.drop (i+1))) []
    refine good_again gR B ((facts_nil.cons hwl).cons hwc) ⟨?_,?_,?_,?_,?_,?_,?_,?_,?_,?_,?_,?_,?_,?_,trivial⟩ ?_
    ·exact midH B (fun h₁ B1 K1 F1=>rnx0 B1 it n t s i s3 s6 (by exact ox1 ‹_›)) rfl rfl
    ·exact mid_ B (fun h₁ B1 K1 F1=>git_ev B1 wl ep2 n (t+2) i t (strL cs) (.str (ltr p) tl) (by exact ox7 ‹_› (Nat.le_trans ‹_› (by decide))) hgi (K1 _ _ hwl))
    ·exact fun m=>addi_ev _ _ _ _ m
    ·refine midH B (T:=[(n,fldO "slice" [(.int (((i:Nat):Int)+1) (t+3)),.none,.none])]) (T':=[(n+1,lstO (strL (cs.drop (i+1))) 0),(n,fldO "slice" [(.int (((i:Nat):Int)+1) (t+3)),.none,.none])]) (fun h₁ B1 K1 F1=>?_) rfl rfl
     have:=lsl_ev (os:=os) (k:=k+21) B1 wl ep2 n (n+1) (t+4) (strL cs) (.int (((i:Nat):Int)+1) (t+3)) .none (some (((i:Nat):Int)+1)) none (.int _ _) .none (by unfold strL;rw [List.length_map];exact Nat.le_trans (Nat.le_of_eq ‹_›) (Nat.le_trans ‹_› (by decide))) (K1 _ _ hwl)
     rw [pick_dr] at this
     exact this
    ·refine mid_ B (fun h₁ B1 K1 F1=>?_)
     rw [← hI]
     exact has_ev B1 (n+1) 0 (n+2) (t+4) tl (cs.drop (i+1)) (ltr p) (F1 _ (.head _))
    ·exact mid_ B (fun h₁ B1 K1 F1=>git_ev B1 wl ep2 (n+2) (t+4) i t (strL cs) (.str (ltr p) tl) (by exact ox7 ‹_› (Nat.le_trans ‹_› (by decide))) hgi (K1 _ _ hwl))
    ·exact mid_ B (fun h₁ B1 K1 F1=>git_ev B1 wl ep2 (n+2) (t+4) i t (strL cs) (.str (ltr p) tl) (by exact ox7 ‹_› (Nat.le_trans ‹_› (by decide))) hgi (K1 _ _ hwl))
    ·exact fun m=>up_ev B _ (ltr_is _) m
    ·intro m
     have:=mod_ev (w:=w) (h₀:=h₀) (os:=os) (k:=k+21) ((i:Nat):Int) 2 t (t+5) (by decide) m
     rw [hmod] at this
     exact this
    ·exact mid_ B (fun h₁ B1 K1 F1=>git_ev B1 wl ep2 (n+3) (t+9) i t (strL cs) (.str (ltr p) tl) (by exact ox7 ‹_› (Nat.le_trans ‹_› (by decide))) hgi (K1 _ _ hwl))
    ·exact mid_ B (fun h₁ B1 K1 F1=>cnt_ev B1 wl ep2 (n+3) (t+9) tl cs (ltr p) (K1 _ _ hwl))
    ·exact fun m=>addi_ev _ _ _ _ m
    ·exact fun m=>mls_ev B _ _ (1+cs.countP fun c=>c.1 == ltr p) _ (by exact oxl) (by exact oxm ‹_›) (by omega) m
    ·exact midE B 6 (fun h₁ B1 K1 F1=>app_ev B1 dl ep (n+4) (t+12) vs (.ref (n+3)) (by exact ox6 ‹_› (by decide))) rfl rfl
    ·refine use B [(n+3,tupO [.str (ltr p) tl,.str (dS (1+cs.countP fun c=>c.1 == ltr p)) (t+11)])] [] (fun z=>?_) (fun z=>?_) (fun h₁ B1 K1 F1=>hnext h₁ B1 (K1 _ _ hwc) (K1 _ _ hwl))
     ·rw [show rngO (i+1) (s - (i+1))=fldO "range_iterator" [.int ((i+1:Nat):Int) 0,.int ((s - (i+1):Nat):Int) 0,.int 1 0] from rfl]
      simp only [cnt_cons,cnt_nil]
      try ac_rfl
     ·rw [show vs++refsH ((⟨n+3,ltr p,tl,dS (1+cs.countP fun c=>c.1 == ltr p),t+11⟩:Hd)::nw)=vs++[.ref (n+3)]++refsH nw by unfold refsH;simp,
       show (n+3,tupO [.str (ltr p) tl,.str (dS (1+cs.countP fun c=>c.1 == ltr p)) (t+11)])=Hd.cell ⟨n+3,ltr p,tl,dS (1+cs.countP fun c=>c.1 == ltr p),t+11⟩ from rfl]
      simp only [cnt_cons,cnt_nil,cnt_map_cons]
      try ac_rfl
   ·have hmod:Int.fmod (i:Int) 2=1:=by rw [Int.fmod_eq_emod_of_nonneg _ (by decide)];omega
    have hpar:(i % 2 == 1)=true:=by rw [h2];rfl
    obtain⟨V7',nw,ep',n',t',hT,hnext⟩:=d4 hk L wc it wl dl ep2 ks V0 V1 V2 V3 V4 V5 V6 cs wp hcs hw4 s hs s3 s6 j (i+1) (by exact ox3 ‹_›) (.int ((i:Nat):Int) t) (vs++[.ref (n+3)]) (ep+1) (n+4) (t+12) (by rw [List.length_append,List.length_singleton];exact ox4 ‹_›)
    refine⟨V7',((⟨n+3,upS (ltr p),t+4,dS (1+cs.countP fun c=>c.1 == ltr p),t+11⟩:Hd)::nw),ep',n',t',by rw [if_neg (by rw [← hp,← hany,hI];decide),← hcnt];exact TabIs.cons (by rw [hpar];rfl) hT,fun h₀ B hwc hwl=>?_⟩
    have gR:=due4_on w n t L wc it wl (n+1) dl ep ep2 tl ks V0 V1 V2 V3 V4 V5 V6 V7 ((cs.countP fun c=>c.1 == ltr p:Nat):Int) ((i:Nat):Int) (ltr p) (dS (1+cs.countP fun c=>c.1 == ltr p)) [.int ((i:Nat):Int) 0,.int ((s - i:Nat):Int) 0,.int 1 0] [.int ((i+1:Nat):Int) 0,.int ((s - (i+1):Nat):Int) 0,.int 1 0] vs (strL cs) (strL (cs.drop (i+1))) []
    refine good_again gR B ((facts_nil.cons hwl).cons hwc) ⟨?_,?_,?_,?_,?_,?_,?_,?_,?_,?_,?_,?_,?_,?_,trivial⟩ ?_
    ·exact midH B (fun h₁ B1 K1 F1=>rnx0 B1 it n t s i s3 s6 (by exact ox1 ‹_›)) rfl rfl
    ·exact mid_ B (fun h₁ B1 K1 F1=>git_ev B1 wl ep2 n (t+2) i t (strL cs) (.str (ltr p) tl) (by exact ox7 ‹_› (Nat.le_trans ‹_› (by decide))) hgi (K1 _ _ hwl))
    ·exact fun m=>addi_ev _ _ _ _ m
    ·refine midH B (T:=[(n,fldO "slice" [(.int (((i:Nat):Int)+1) (t+3)),.none,.none])]) (T':=[(n+1,lstO (strL (cs.drop (i+1))) 0),(n,fldO "slice" [(.int (((i:Nat):Int)+1) (t+3)),.none,.none])]) (fun h₁ B1 K1 F1=>?_) rfl rfl
     have:=lsl_ev (os:=os) (k:=k+21) B1 wl ep2 n (n+1) (t+4) (strL cs) (.int (((i:Nat):Int)+1) (t+3)) .none (some (((i:Nat):Int)+1)) none (.int _ _) .none (by unfold strL;rw [List.length_map];exact Nat.le_trans (Nat.le_of_eq ‹_›) (Nat.le_trans ‹_› (by decide))) (K1 _ _ hwl)
     rw [pick_dr] at this
     exact this
    ·refine mid_ B (fun h₁ B1 K1 F1=>?_)
     rw [← hI]
     exact has_ev B1 (n+1) 0 (n+2) (t+4) tl (cs.drop (i+1)) (ltr p) (F1 _ (.head _))
    ·exact mid_ B (fun h₁ B1 K1 F1=>git_ev B1 wl ep2 (n+2) (t+4) i t (strL cs) (.str (ltr p) tl) (by exact ox7 ‹_› (Nat.le_trans ‹_› (by decide))) hgi (K1 _ _ hwl))
    ·exact mid_ B (fun h₁ B1 K1 F1=>git_ev B1 wl ep2 (n+2) (t+4) i t (strL cs) (.str (ltr p) tl) (by exact ox7 ‹_› (Nat.le_trans ‹_› (by decide))) hgi (K1 _ _ hwl))
    ·exact fun m=>up_ev B _ (ltr_is _) m
    ·intro m
     have:=mod_ev (w:=w) (h₀:=h₀) (os:=os) (k:=k+21) ((i:Nat):Int) 2 t (t+5) (by decide) m
     rw [hmod] at this
     exact this
    ·exact mid_ B (fun h₁ B1 K1 F1=>git_ev B1 wl ep2 (n+3) (t+9) i t (strL cs) (.str (ltr p) tl) (by exact ox7 ‹_› (Nat.le_trans ‹_› (by decide))) hgi (K1 _ _ hwl))
    ·exact mid_ B (fun h₁ B1 K1 F1=>cnt_ev B1 wl ep2 (n+3) (t+9) tl cs (ltr p) (K1 _ _ hwl))
    ·exact fun m=>addi_ev _ _ _ _ m
    ·exact fun m=>mls_ev B _ _ (1+cs.countP fun c=>c.1 == ltr p) _ (by exact oxl) (by exact oxm ‹_›) (by omega) m
    ·exact midE B 6 (fun h₁ B1 K1 F1=>app_ev B1 dl ep (n+4) (t+12) vs (.ref (n+3)) (by exact ox6 ‹_› (by decide))) rfl rfl
    ·refine use B [(n+3,tupO [.str (upS (ltr p)) (t+4),.str (dS (1+cs.countP fun c=>c.1 == ltr p)) (t+11)])] [] (fun z=>?_) (fun z=>?_) (fun h₁ B1 K1 F1=>hnext h₁ B1 (K1 _ _ hwc) (K1 _ _ hwl))
     ·rw [show rngO (i+1) (s - (i+1))=fldO "range_iterator" [.int ((i+1:Nat):Int) 0,.int ((s - (i+1):Nat):Int) 0,.int 1 0] from rfl]
      simp only [cnt_cons,cnt_nil]
      try ac_rfl
     ·rw [show vs++refsH ((⟨n+3,upS (ltr p),t+4,dS (1+cs.countP fun c=>c.1 == ltr p),t+11⟩:Hd)::nw)=vs++[.ref (n+3)]++refsH nw by unfold refsH;simp,
       show (n+3,tupO [.str (upS (ltr p)) (t+4),.str (dS (1+cs.countP fun c=>c.1 == ltr p)) (t+11)])=Hd.cell ⟨n+3,upS (ltr p),t+4,dS (1+cs.countP fun c=>c.1 == ltr p),t+11⟩ from rfl]
      simp only [cnt_cons,cnt_nil,cnt_map_cons]
      try ac_rfl
  ·rcases hp2 with h2 | h2
   ·obtain⟨V7',nw,ep',n',t',hT,hnext⟩:=d4 hk L wc it wl dl ep2 ks V0 V1 V2 V3 V4 V5 V6 cs wp hcs hw4 s hs s3 s6 j (i+1) (by exact ox3 ‹_›) (.int ((i:Nat):Int) t) vs ep (n+2) (t+4) (by exact ox5 ‹_›)
    refine⟨V7',nw,ep',n',t',by rw [dueB,if_pos (by rw [← hany];exact hI)];exact hT,fun h₀ B hwc hwl=>?_⟩
    have gR:=due4_ei w n t L wc it wl (n+1) dl ep ep2 tl ks V0 V1 V2 V3 V4 V5 V6 V7 ((cs.countP fun c=>c.1 == ltr p:Nat):Int) ((i:Nat):Int) (ltr p) (dS (1+cs.countP fun c=>c.1 == ltr p)) [.int ((i:Nat):Int) 0,.int ((s - i:Nat):Int) 0,.int 1 0] [.int ((i+1:Nat):Int) 0,.int ((s - (i+1):Nat):Int) 0,.int 1 0] vs (strL cs) (strL (cs.drop (i+1))) []
    refine good_again gR B ((facts_nil.cons hwl).cons hwc) ⟨?_,?_,?_,?_,?_,trivial⟩ ?_
    ·exact midH B (fun h₁ B1 K1 F1=>rnx0 B1 it n t s i s3 s6 (by exact ox1 ‹_›)) rfl rfl
    ·exact mid_ B (fun h₁ B1 K1 F1=>git_ev B1 wl ep2 n (t+2) i t (strL cs) (.str (ltr p) tl) (by exact ox7 ‹_› (Nat.le_trans ‹_› (by decide))) hgi (K1 _ _ hwl))
    ·exact fun m=>addi_ev _ _ _ _ m
    ·refine midH B (T:=[(n,fldO "slice" [(.int (((i:Nat):Int)+1) (t+3)),.none,.none])]) (T':=[(n+1,lstO (strL (cs.drop (i+1))) 0),(n,fldO "slice" [(.int (((i:Nat):Int)+1) (t+3)),.none,.none])]) (fun h₁ B1 K1 F1=>?_) rfl rfl
     have:=lsl_ev (os:=os) (k:=k+21) B1 wl ep2 n (n+1) (t+4) (strL cs) (.int (((i:Nat):Int)+1) (t+3)) .none (some (((i:Nat):Int)+1)) none (.int _ _) .none (by unfold strL;rw [List.length_map];exact Nat.le_trans (Nat.le_of_eq ‹_›) (Nat.le_trans ‹_› (by decide))) (K1 _ _ hwl)
     rw [pick_dr] at this
     exact this
    ·refine mid_ B (fun h₁ B1 K1 F1=>?_)
     rw [← hI]
     exact has_ev B1 (n+1) 0 (n+2) (t+4) tl (cs.drop (i+1)) (ltr p) (F1 _ (.head _))
    ·exact hnext h₀ B hwc hwl
   ·obtain⟨V7',nw,ep',n',t',hT,hnext⟩:=d4 hk L wc it wl dl ep2 ks V0 V1 V2 V3 V4 V5 V6 cs wp hcs hw4 s hs s3 s6 j (i+1) (by exact ox3 ‹_›) (.int ((i:Nat):Int) t) vs ep (n+2) (t+4) (by exact ox5 ‹_›)
    refine⟨V7',nw,ep',n',t',by rw [dueB,if_pos (by rw [← hany];exact hI)];exact hT,fun h₀ B hwc hwl=>?_⟩
    have gR:=due4_oi w n t L wc it wl (n+1) dl ep ep2 tl ks V0 V1 V2 V3 V4 V5 V6 V7 ((cs.countP fun c=>c.1 == ltr p:Nat):Int) ((i:Nat):Int) (ltr p) (dS (1+cs.countP fun c=>c.1 == ltr p)) [.int ((i:Nat):Int) 0,.int ((s - i:Nat):Int) 0,.int 1 0] [.int ((i+1:Nat):Int) 0,.int ((s - (i+1):Nat):Int) 0,.int 1 0] vs (strL cs) (strL (cs.drop (i+1))) []
    refine good_again gR B ((facts_nil.cons hwl).cons hwc) ⟨?_,?_,?_,?_,?_,trivial⟩ ?_
    ·exact midH B (fun h₁ B1 K1 F1=>rnx0 B1 it n t s i s3 s6 (by exact ox1 ‹_›)) rfl rfl
    ·exact mid_ B (fun h₁ B1 K1 F1=>git_ev B1 wl ep2 n (t+2) i t (strL cs) (.str (ltr p) tl) (by exact ox7 ‹_› (Nat.le_trans ‹_› (by decide))) hgi (K1 _ _ hwl))
    ·exact fun m=>addi_ev _ _ _ _ m
    ·refine midH B (T:=[(n,fldO "slice" [(.int (((i:Nat):Int)+1) (t+3)),.none,.none])]) (T':=[(n+1,lstO (strL (cs.drop (i+1))) 0),(n,fldO "slice" [(.int (((i:Nat):Int)+1) (t+3)),.none,.none])]) (fun h₁ B1 K1 F1=>?_) rfl rfl
     have:=lsl_ev (os:=os) (k:=k+21) B1 wl ep2 n (n+1) (t+4) (strL cs) (.int (((i:Nat):Int)+1) (t+3)) .none (some (((i:Nat):Int)+1)) none (.int _ _) .none (by unfold strL;rw [List.length_map];exact Nat.le_trans (Nat.le_of_eq ‹_›) (Nat.le_trans ‹_› (by decide))) (K1 _ _ hwl)
     rw [pick_dr] at this
     exact this
    ·refine mid_ B (fun h₁ B1 K1 F1=>?_)
     rw [← hI]
     exact has_ev B1 (n+1) 0 (n+2) (t+4) tl (cs.drop (i+1)) (ltr p) (F1 _ (.head _))
    ·exact hnext h₀ B hwc hwl
theorem d4_all {k:Nat} (hk:k≤90) (L wc it wl dl ep2:Nat) (ks:Nat→Nat) (V0 V1 V2 V3 V4 V5 V6:Value) (cs:List (Str×Nat)) (wp:List Nat) (hcs:cs.map (·.1)=wp.map ltr) (hw4:∀ q∈wp,q < 4) (s:Nat) (hs:cs.length=s) (s3:3≤s) (s6:s≤6) (vs:List Value) (ep n t:Nat) (hz:vs.length+s≤60) :
  ∃(V7':Value) (nw:List Hd) (ep' n' t':Nat),TabIs nw (dueB wp 0 s)∧∀(h₀:Heap),Base w h₀→h₀.get? wc=some (celO (some (.ref wl)))→h₀.get? wl=some (lstO (strL cs) ep2) →
   Spec w h₀ os k (loopC (D4' w) (.ref it) (dEnv w L wc)) ⟨[(it,rngO 0 (s - 0)),(L,frN w nm258 ks [V0,V1,V2,V3,V4,V5,V6,.ref dl]),(dl,lstO vs ep)],n,t⟩ (.ok .next)
    ⟨(L,frN w nm258 (upd ks 8 (t+1)) [V0,V1,V2,V3,V4,V5,V6,.ref dl,V7'])::(dl,lstO (vs++refsH nw) ep')::nw.map Hd.cell,n',t'⟩:=by
 obtain⟨s0,hs0⟩:∃ s0,s=s0+1:=⟨s - 1,by exact oxc ‹_› (by decide)⟩
 have hil:0 < cs.length:=by omega
 obtain⟨p,hp⟩:∃ p,wp.getD 0 0=p:=⟨_,rfl⟩
 have hwl':wp.length=cs.length:=by have:=congrArg List.length hcs;simpa using this.symm
 have hwi:wp[0]?=some p:=by
  rw [← hp,List.getD_eq_getElem?_getD,List.getElem?_eq_getElem (by exact Nat.le_trans ‹_› (Nat.le_of_eq (Eq.symm ‹_›)))];rfl
 have hp4:p < 4:=hw4 p (List.mem_of_getElem? hwi)
 obtain⟨tl,hci⟩:∃ tl,cs[0]?=some (ltr p,tl):=by
  have h1:(cs.map (·.1))[0]?=some (ltr p):=by rw [hcs,List.getElem?_map,hwi];rfl
  rw [List.getElem?_map] at h1
  cases hc:cs[0]? with
  | none=>rw [hc] at h1;cases h1
  | some ci=>rw [hc] at h1;exact⟨ci.2,by rw [← Option.some.inj h1]⟩
 have hgi:(strL cs)[0]?=some (.str (ltr p) tl):=by unfold strL;rw [List.getElem?_map,hci];rfl
 have hany:((cs.drop (0+1)).any fun c=>c.1 == ltr p)=(wp.drop (0+1)).any (·== wp.getD 0 0):=by
  rw [hp];exact any_ltr hp4 (by rw [List.map_drop,List.map_drop,hcs]) (fun q hq=>hw4 q (List.mem_of_mem_drop hq))
 have hcnt:(cs.countP fun c=>c.1 == ltr p)=wp.countP (·== p):=cnt_ltr hp4 hcs hw4
 have hc1:1≤cs.countP fun c=>c.1 == ltr p:=by
  rw [hcnt];exact List.countP_pos_iff.mpr ⟨p,List.mem_of_getElem? hwi,by simp⟩
 have hc6:(cs.countP fun c=>c.1 == ltr p)≤cs.length:=List.countP_le_length
 have hmod:Int.fmod ((0:Nat):Int) 2=0:=rfl
 have hpar:(0 % 2 == 1)=false:=rfl
 have hB:dueB wp 0 s=dueB wp 0 (s0+1):=by rw [hs0]
 rw [hB,dueB,hp]
 cases hI:((cs.drop (0+1)).any fun c=>c.1 == ltr p)
 ·obtain⟨V7',nw,ep',n',t',hT,hnext⟩:=d4 (w:=w) (os:=os) (k:=k) (by exact Nat.le_trans ‹_› (by decide)) L wc it wl dl ep2 (upd ks 8 (t+1)) V0 V1 V2 V3 V4 V5 V6 cs wp hcs hw4 s hs s3 s6 s0 (0+1) (by omega) (.int ((0:Nat):Int) t) (vs++[.ref (n+3)]) (ep+1) (n+4) (t+12) (by rw [List.length_append,List.length_singleton];omega)
  refine⟨V7',((⟨n+3,ltr p,tl,dS (1+cs.countP fun c=>c.1 == ltr p),t+11⟩:Hd)::nw),ep',n',t',by rw [if_neg (by rw [← hp,← hany,hI];decide),← hcnt];exact TabIs.cons (by rw [hpar];rfl) hT,fun h₀ B hwc hwl=>?_⟩
  have gR:=due4_fn w n t L wc it wl (n+1) dl ep ep2 tl ks V0 V1 V2 V3 V4 V5 V6 ((cs.countP fun c=>c.1 == ltr p:Nat):Int) ((0:Nat):Int) (ltr p) (dS (1+cs.countP fun c=>c.1 == ltr p)) [.int ((0:Nat):Int) 0,.int ((s - 0:Nat):Int) 0,.int 1 0] [.int ((0+1:Nat):Int) 0,.int ((s - (0+1):Nat):Int) 0,.int 1 0] vs (strL cs) (strL (cs.drop (0+1))) []
  refine good_again gR B ((facts_nil.cons hwl).cons hwc) ⟨?_,?_,?_,?_,?_,?_,?_,?_,?_,?_,?_,?_,?_,?_,trivial⟩ ?_
  ·exact midH B (fun h₁ B1 K1 F1=>rnx0 B1 it n t s 0 s3 s6 (by exact oxg ‹_› (by decide))) rfl rfl
  ·exact mid_ B (fun h₁ B1 K1 F1=>git_ev B1 wl ep2 n (t+2) 0 t (strL cs) (.str (ltr p) tl) (by exact Nat.succ_pos _) hgi (K1 _ _ hwl))
  ·exact fun m=>addi_ev _ _ _ _ m
  ·refine midH B (T:=[(n,fldO "slice" [(.int (((0:Nat):Int)+1) (t+3)),.none,.none])]) (T':=[(n+1,lstO (strL (cs.drop (0+1))) 0),(n,fldO "slice" [(.int (((0:Nat):Int)+1) (t+3)),.none,.none])]) (fun h₁ B1 K1 F1=>?_) rfl rfl
   have:=lsl_ev (os:=os) (k:=k+21) B1 wl ep2 n (n+1) (t+4) (strL cs) (.int (((0:Nat):Int)+1) (t+3)) .none (some (((0:Nat):Int)+1)) none (.int _ _) .none (by unfold strL;rw [List.length_map];exact Nat.le_trans (Nat.le_of_eq ‹_›) (Nat.le_trans ‹_› (by decide))) (K1 _ _ hwl)
   rw [pick_dr] at this
   exact this
  ·refine mid_ B (fun h₁ B1 K1 F1=>?_)
   rw [← hI]
   exact has_ev B1 (n+1) 0 (n+2) (t+4) tl (cs.drop (0+1)) (ltr p) (F1 _ (.head _))
  ·exact mid_ B (fun h₁ B1 K1 F1=>git_ev B1 wl ep2 (n+2) (t+4) 0 t (strL cs) (.str (ltr p) tl) (by exact Nat.succ_pos _) hgi (K1 _ _ hwl))
  ·exact mid_ B (fun h₁ B1 K1 F1=>git_ev B1 wl ep2 (n+2) (t+4) 0 t (strL cs) (.str (ltr p) tl) (by exact Nat.succ_pos _) hgi (K1 _ _ hwl))
  ·exact fun m=>up_ev B _ (ltr_is _) m
  ·intro m
   have:=mod_ev (w:=w) (h₀:=h₀) (os:=os) (k:=k+21) ((0:Nat):Int) 2 t (t+5) (by decide) m
   rw [hmod] at this
   exact this
  ·exact mid_ B (fun h₁ B1 K1 F1=>git_ev B1 wl ep2 (n+3) (t+9) 0 t (strL cs) (.str (ltr p) tl) (by exact Nat.succ_pos _) hgi (K1 _ _ hwl))
  ·exact mid_ B (fun h₁ B1 K1 F1=>cnt_ev B1 wl ep2 (n+3) (t+9) tl cs (ltr p) (K1 _ _ hwl))
  ·exact fun m=>addi_ev _ _ _ _ m
  ·exact fun m=>mls_ev B _ _ (1+cs.countP fun c=>c.1 == ltr p) _ (by exact oxl) (by exact oxm ‹_›) (by omega) m
  ·exact midE B 6 (fun h₁ B1 K1 F1=>app_ev B1 dl ep (n+4) (t+12) vs (.ref (n+3)) (by exact ox6 ‹_› (by decide))) rfl rfl
  ·refine use B [(n+3,tupO [.str (ltr p) tl,.str (dS (1+cs.countP fun c=>c.1 == ltr p)) (t+11)])] [] (fun z=>?_) (fun z=>?_) (fun h₁ B1 K1 F1=>hnext h₁ B1 (K1 _ _ hwc) (K1 _ _ hwl))
   ·rw [show rngO (0+1) (s - (0+1))=fldO "range_iterator" [.int ((0+1:Nat):Int) 0,.int ((s - (0+1):Nat):Int) 0,.int 1 0] from rfl]
    simp only [cnt_cons,cnt_nil]
    try ac_rfl
   ·rw [show vs++refsH ((⟨n+3,ltr p,tl,dS (1+cs.countP fun c=>c.1 == ltr p),t+11⟩:Hd)::nw)=vs++[.ref (n+3)]++refsH nw by unfold refsH;simp,
     show (n+3,tupO [.str (ltr p) tl,.str (dS (1+cs.countP fun c=>c.1 == ltr p)) (t+11)])=Hd.cell ⟨n+3,ltr p,tl,dS (1+cs.countP fun c=>c.1 == ltr p),t+11⟩ from rfl]
    simp only [cnt_cons,cnt_nil,cnt_map_cons]
    try ac_rfl
 ·obtain⟨V7',nw,ep',n',t',hT,hnext⟩:=d4 (w:=w) (os:=os) (k:=k) (by exact Nat.le_trans ‹_› (by decide)) L wc it wl dl ep2 (upd ks 8 (t+1)) V0 V1 V2 V3 V4 V5 V6 cs wp hcs hw4 s hs s3 s6 s0 (0+1) (by omega) (.int ((0:Nat):Int) t) vs ep (n+2) (t+4) (by omega)
  refine⟨V7',nw,ep',n',t',by rw [if_pos (by rw [← hp,← hany];exact hI)];exact hT,fun h₀ B hwc hwl=>?_⟩
  have gR:=due4_fi w n t L wc it wl (n+1) dl ep ep2 tl ks V0 V1 V2 V3 V4 V5 V6 ((cs.countP fun c=>c.1 == ltr p:Nat):Int) ((0:Nat):Int) (ltr p) (dS (1+cs.countP fun c=>c.1 == ltr p)) [.int ((0:Nat):Int) 0,.int ((s - 0:Nat):Int) 0,.int 1 0] [.int ((0+1:Nat):Int) 0,.int ((s - (0+1):Nat):Int) 0,.int 1 0] vs (strL cs) (strL (cs.drop (0+1))) []
  refine good_again gR B ((facts_nil.cons hwl).cons hwc) ⟨?_,?_,?_,?_,?_,trivial⟩ ?_
  ·exact midH B (fun h₁ B1 K1 F1=>rnx0 B1 it n t s 0 s3 s6 (by exact oxg ‹_› (by decide))) rfl rfl
  ·exact mid_ B (fun h₁ B1 K1 F1=>git_ev B1 wl ep2 n (t+2) 0 t (strL cs) (.str (ltr p) tl) (by exact Nat.succ_pos _) hgi (K1 _ _ hwl))
  ·exact fun m=>addi_ev _ _ _ _ m
  ·refine midH B (T:=[(n,fldO "slice" [(.int (((0:Nat):Int)+1) (t+3)),.none,.none])]) (T':=[(n+1,lstO (strL (cs.drop (0+1))) 0),(n,fldO "slice" [(.int (((0:Nat):Int)+1) (t+3)),.none,.none])]) (fun h₁ B1 K1 F1=>?_) rfl rfl
   have:=lsl_ev (os:=os) (k:=k+21) B1 wl ep2 n (n+1) (t+4) (strL cs) (.int (((0:Nat):Int)+1) (t+3)) .none (some (((0:Nat):Int)+1)) none (.int _ _) .none (by unfold strL;rw [List.length_map];exact Nat.le_trans (Nat.le_of_eq ‹_›) (Nat.le_trans ‹_› (by decide))) (K1 _ _ hwl)
   rw [pick_dr] at this
   exact this
  ·refine mid_ B (fun h₁ B1 K1 F1=>?_)
   rw [← hI]
   exact has_ev B1 (n+1) 0 (n+2) (t+4) tl (cs.drop (0+1)) (ltr p) (F1 _ (.head _))
  ·exact hnext h₀ B hwc hwl
end
noncomputable def offZ (s:Nat) (pl:List (Nat×Nat)):List (Int×Nat):=(pl.map fun y=>(List.range s).map fun k=>(-((y.2*60 / (k+1):Nat):Int),y.1)).flatten
noncomputable def oZ (x:Int×Int×Str):Int×Nat:=(x.1,x.2.1.toNat)
theorem offF_Z (s:Nat):∀ pl:List (Nat×Nat),(offF s pl).map oZ=offZ s pl
 | []=>rfl
 | y::pl=>by
  unfold offF offZ
  rw [List.map_cons,List.map_cons,List.flatten_cons,List.flatten_cons,List.map_append]
  have ih:=offF_Z s pl
  unfold offF offZ at ih
  rw [ih]
  congr 1
  unfold offY
  rw [List.map_map]
  refine List.map_congr_left fun k _=>?_
  show ((-((y.2*60 / (0+k+1):Nat):Int)),((y.1:Int)).toNat)=_
  rw [Int.toNat_natCast,Nat.zero_add]
theorem offF_mem {s:Nat} {pl:List (Nat×Nat)} {x:Int×Int×Str} (h:x∈offF s pl):∃ y∈pl,x.2.1=(y.1:Int)∧x.2.2=ltr y.1:=by
 unfold offF at h
 obtain⟨l,hl,hx⟩:=List.mem_flatten.mp h
 obtain⟨y,hy,rfl⟩:=List.mem_map.mp hl
 unfold offY at hx
 obtain⟨k,_,rfl⟩:=List.mem_map.mp hx
 exact⟨y,hy,rfl,rfl⟩
theorem offF_len (s:Nat):∀ pl:List (Nat×Nat),(offF s pl).length=pl.length*s
 | []=>by simp [offF]
 | y::pl=>by
  have ih:=offF_len s pl
  unfold offF at ih ⊢
  rw [List.map_cons,List.flatten_cons,List.length_append,ih,List.length_cons,Nat.succ_mul]
  simp [offY,Nat.add_comm]
theorem off_ok {nw:List Of} {s:Nat} {ls:List Li} (hc:nw.map oF=offF s (plOf ls)) (h2:2≤ls.length) (h4:ls.length≤4) (hl4:∀ y∈ls,y.p < 4) (hv:∀ y∈ls,1≤y.v) (s3:3≤s) (s6:s≤6):OffsOk nw∧∀ o∈nw,∃ p:Nat,p < 4∧o.p=(p:Int)∧o.c=ltr p:=by
 have hlen:nw.length=ls.length*s:=by
  have:=congrArg List.length hc
  rw [List.length_map,offF_len] at this
  simpa [plOf] using this
 have hm:∀ o∈nw,∃ p:Nat,p < 4∧o.p=(p:Int)∧o.c=ltr p:=by
  intro o ho
  obtain⟨y,hy,e1,e2⟩:=offF_mem (hc▸List.mem_map_of_mem (f:=oF) ho)
  obtain⟨z,hz,rfl⟩:=List.mem_map.mp hy
  exact⟨z.p,hl4 z hz,e1,e2⟩
 have h6:ls.length*s≤24:=Nat.mul_le_mul h4 s6
 have h2':2*3≤ls.length*s:=Nat.mul_le_mul h2 s3
 refine⟨⟨by omega,by omega,?_,fun o ho=>?_,fun x hx y hy e=>?_⟩,hm⟩
 ·match ls,h2 with
  | y::ls',_ =>
   have h1:=hv y (.head _)
   obtain⟨s',rfl⟩:∃ s',s=s'+1+1:=⟨s - 2,by omega⟩
   have e:offF (s'+1+1) (plOf (y::ls'))=(-((y.v*60 / (0+1):Nat):Int),(y.p:Int),ltr y.p)::(-((y.v*60 / (0+1+1):Nat):Int),(y.p:Int),ltr y.p)::(offY y.p y.v (0+1+1) s'++offF (s'+1+1) (plOf ls')):=by
    show (offY y.p y.v 0 (s'+1+1))++_=_
    rw [offY_succ,offY_succ]
    rfl
   rw [e] at hc
   obtain⟨o0,t0,rfl,c0,ct⟩:=List.map_eq_cons_iff.mp hc
   obtain⟨o1,t1,rfl,c1,_⟩:=List.map_eq_cons_iff.mp ct
   show o0.r < o1.r
   unfold Of.r
   have q0:o0.q=-((y.v*60 / (0+1):Nat):Int):=congrArg (fun x=>x.1) c0
   have p0:o0.p=(y.p:Int):=congrArg (fun x=>x.2.1) c0
   have q1:o1.q=-((y.v*60 / (0+1+1):Nat):Int):=congrArg (fun x=>x.1) c1
   have p1:o1.p=(y.p:Int):=congrArg (fun x=>x.2.1) c1
   rw [q0,p0,q1,p1]
   omega
 ·obtain⟨p,hp,e,_⟩:=hm o ho
  rw [e];omega
 ·obtain⟨p,hp,e1,e2⟩:=hm x hx
  obtain⟨p',hp',e1',e2'⟩:=hm y hy
  unfold Of.r at e
  have:p=p':=by omega
  rw [e2,e2',this]
noncomputable def dueP (wp ps:List Nat) (s:Nat):PT:=((ps.filter fun p=>!(wp.any (·== p))).map fun p=>(p,false,1))++dueB wp 0 s
noncomputable def Won (s:Nat) (pl:List (Nat×Nat)) (wp:List Nat):Prop:=∃ Z:List (Int×Nat),Z.Perm (offZ s pl)∧Z.Pairwise (fun a b=>4*a.1+(a.2:Int)≤4*b.1+(b.2:Int))∧wp=(Z.take s).map (·.2)
theorem won_of {nw:List Of} {s:Nat} {ls:List Li} (hc:nw.map oF=offF s (plOf ls)) (ho:OffsOk nw) (hm:∀ o∈nw,∃ p:Nat,p < 4∧o.p=(p:Int)∧o.c=ltr p) :
  Won s (plOf ls) (((sortO nw).take s).map fun o=>o.p.toNat)∧(wonO ((sortO nw).take s)).map (·.1)=(((sortO nw).take s).map fun o=>o.p.toNat).map ltr∧(∀ q∈((sortO nw).take s).map fun o=>o.p.toNat,q < 4):=by
 obtain⟨hp,hs⟩:=sortO_perm ho.two ho.asc
 have hm':∀ o∈(sortO nw).take s,∃ p:Nat,p < 4∧o.p=(p:Int)∧o.c=ltr p:=fun o h=>hm o (hp.mem_iff.mp (List.mem_of_mem_take h))
 refine⟨⟨(sortO nw).map fun o=>(o.q,o.p.toNat),?_,?_,?_⟩,?_,?_⟩
 ·rw [← offF_Z,← hc,List.map_map]
  exact hp.map _
 ·rw [List.pairwise_map]
  refine hs.imp_of_mem fun {a b} ha hb h=>?_
  obtain⟨p,_,e,_⟩:=hm a (hp.mem_iff.mp ha)
  obtain⟨p',_,e',_⟩:=hm b (hp.mem_iff.mp hb)
  unfold Of.r at h
  show 4*a.q+((a.p.toNat:Nat):Int)≤4*b.q+((b.p.toNat:Nat):Int)
  omega
 ·rw [← List.map_take,List.map_map];rfl
 ·unfold wonO
  rw [List.map_map,List.map_map]
  refine List.map_congr_left fun o h=>?_
  obtain⟨p,_,e,e2⟩:=hm' o h
  show o.c=ltr o.p.toNat
  rw [e2,e,Int.toNat_natCast]
 ·intro q hq
  obtain⟨o,h,rfl⟩:=List.mem_map.mp hq
  obtain⟨p,hp4,e,_⟩:=hm' o h
  show o.p.toNat < 4
  rw [e,Int.toNat_natCast];exact hp4
theorem dueA_eq {cs:List (Str×Nat)} {wp:List Nat} (hcs:cs.map (·.1)=wp.map ltr) (hw:∀ q∈wp,q < 4) (ps:List Nat) (hp:∀ p∈ps,p < 4):dueA cs ps=((ps.filter fun p=>!(wp.any (·== p))).map fun p=>(p,false,1)):=by
 unfold dueA
 congr 1
 refine List.filter_congr fun p h=>?_
 rw [any_ltr (hp p h) hcs hw]
section
variable {w:World} {os:OsState}
theorem due_ok {k:Nat} (hk:k≤60) (la le ts n t:Nat) (ls:List Li) (h2:2≤ls.length) (h4:ls.length≤4) (hl4:∀ y∈ls,y.p < 4) (hv:∀ y∈ls,1≤y.v) (s:Nat) (s3:3≤s) (s6:s≤6) :
  ∃(d ep:Nat) (hs:List Hd) (n' t':Nat) (wp:List Nat),Won s (plOf ls) wp∧TabIs hs (dueP wp (ls.map (·.p)) s)∧∀(h₀:Heap),Base w h₀→LisIn h₀ la le ls →
   Spec w h₀ os k (.call (.ref 258) ⟨[.ref la,.int s ts],[]⟩) ⟨[],n,t⟩ (.ok (.ret (.ref d))) ⟨(d,lstO (refsH hs) ep)::hs.map Hd.cell,n',t'⟩:=by
 obtain⟨ks1,A3,A4,A5,A6,nw,ep1,n1,t1,hc,hl1⟩:=du1_all (w:=w) (os:=os) (k:=k+21) (by exact Nat.le_trans (Nat.add_le_add_right ‹_› _) (by decide)) n (n+1) (n+3) (n+2) la le ts (.ref la) ls h2 h4 s s3 s6 (upd (tf t) 2 (t+2)) (n+4) (t+3)
 obtain⟨hok,hm⟩:=off_ok hc h2 h4 hl4 hv s3 s6
 obtain⟨hW,hcs,hw4⟩:=won_of hc hok hm
 obtain⟨hperm,_⟩:=sortO_perm hok.two hok.asc
 have hlen:nw.length=ls.length*s:=by
  have:=congrArg List.length hc
  rw [List.length_map,offF_len] at this
  simpa [plOf] using this
 have h2':2*s≤ls.length*s:=Nat.mul_le_mul_right s h2
 generalize hws:(sortO nw).take s=ws at hW hcs hw4
 have hwl:ws.length=s:=by
  rw [← hws,List.length_take,hperm.length_eq];omega
 have hmem:∀ o∈ws,o∈nw:=fun o h=>hperm.mem_iff.mp (List.mem_of_mem_take (hws▸h))
 obtain⟨k0,V8,n4,t4,hl2⟩:=cq_all (w:=w) (os:=os) (k:=k+21) (by exact Nat.le_trans (Nat.add_le_add_right ‹_› _) (by decide)) n (n+1) (n1+4+2) (n1+4+2+1) (n1+4+2+2) (n1+4+1) 0 ws (by omega) (by exact Nat.le_trans (Nat.le_of_eq ‹_›) (Nat.le_trans ‹_› (by decide))) (n1+4+2+3) t1
 obtain⟨j0,j1,j2,V9,V10,V11,nwA,ep4,n6,t6,hTA,hl3⟩:=cd_all (w:=w) (os:=os) (k:=k+21) (by exact Nat.le_trans (Nat.add_le_add_right ‹_› _) (by decide)) n (n+1) n4 (n4+1) (n4+2) la le (n1+4+2+1) ws.length (wonO ws) ls h2 h4 (n4+3) t4
 have hlA:nwA.length≤4:=by
  have:=congrArg List.length hTA
  rw [List.length_map,List.length_map] at this
  have q:(dueA (wonO ws) (ls.map (·.p))).length≤(ls.map (·.p)).length:=by unfold dueA;rw [List.length_map];exact List.length_filter_le ..
  rw [List.length_map] at q
  omega
 obtain⟨V7,nwB,ep5,n5,t5,hTB,hl4'⟩:=d4_all (w:=w) (os:=os) (k:=k+21) (by exact Nat.le_trans (Nat.add_le_add_right ‹_› _) (by decide)) n (n+1) (n6+1) (n1+4+2+1) (n4+1) ws.length (upd ks1 7 t6) (.ref la) (.int s ts) (.ref (n+2)) A3 A4 A5 A6 (wonO ws) (ws.map fun o=>o.p.toNat) hcs hw4 s (by unfold wonO;rw [List.length_map];exact hwl) s3 s6 (refsH nwA) ep4 (n6+2) (t6+3) (by unfold refsH;rw [List.length_map];omega)
 have hps:∀ p∈ls.map (·.p),p < 4:=fun p hp=>by obtain⟨y,hy,rfl⟩:=List.mem_map.mp hp;exact hl4 y hy
 refine⟨n4+1,ep5,nwA++nwB,n5,t5,ws.map fun o=>o.p.toNat,hW,?_,fun h₀ B hL=>?_⟩
 ·unfold dueP
  rw [← dueA_eq hcs hw4 _ hps]
  exact hTA.app hTB
 have hro:refsO (sortO nw)=(sortO nw).map fun o=>.ref o.a:=rfl
 have htk:kms_pick (refsO (sortO nw)) none (some (s:Int))=refsO ws:=by
  rw [pick_to,← hws];unfold refsO;rw [List.map_take]
 have hrl:(refsO (sortO nw)).length≤100:=by
  unfold refsO;rw [List.length_map,hperm.length_eq];have:=hok.few;omega
 refine due_in B (by exact Nat.le_trans ‹_› (by decide)) la ts s n t [] ?_
 have hfin:refsH (nwA++nwB)=refsH nwA++refsH nwB:=by unfold refsH;rw [List.map_append]
 rw [hfin]
 have gR:=due_b s3 s6 w n t n1 t1 (n1+4) t1 (n1+4+2) t1 n4 t4 n5 t5 n6 t6 la le (n1+1) (n1+4+1) ep1 0 ws.length ep4 ep5 2 ts k0 j0 j1 j2 ks1 (upd (upd ks1 7 t6) 8 (t6+3+1)) A3 A4 A5 A6 V7 V8 V9 V10 V11 ((ls.map (·.a)).map .ref) (refsO nw) (refsO (sortO nw)) (refsO ws) (strL (wonO ws)) (refsH nwA) (refsH nwA++refsH nwB) (nw.map Of.cell) ((n1+4+2+1,lstO (strL (wonO ws)) ws.length)::nwA.map Hd.cell) ((nwA++nwB).map Hd.cell)
 refine good_done gR B (facts_nil.cons hL.l) ⟨?_,?_,?_,?_,?_,?_,trivial⟩
 ·refine use B [(n+1,celO none)] [] (fun z=>?_) (fun z=>?_) (fun h₁ B1 K1 F1=>hl1 h₁ B1 (hL.keeps K1))
  ·simp only [cnt_cons,cnt_nil];try ac_rfl
  ·simp only [cnt_cons,cnt_nil];try ac_rfl
 ·exact midH B (T:=[]) (fun h₁ B1 K1 F1=>sorted_ok B1 (n+2) ep1 n1 t1 nw hok (F1.sub fun p hp=>by
   rcases List.mem_cons.mp hp with rfl | hp
   ·exact .tail _ (.tail _ (.head _))
   ·exact .tail _ (.tail _ (.tail _ hp)))) rfl rfl
 ·refine midH B (T:=[(n1+4,fldO "slice" [.none,.int s ts,.none])]) (T':=[(n1+4+1,lstO (refsO ws) 0),(n1+4,fldO "slice" [.none,.int s ts,.none])]) (fun h₁ B1 K1 F1=>?_) rfl rfl
  have:=lsl_ev (os:=os) (k:=k+21) B1 (n1+1) 2 (n1+4) (n1+4+1) t1 (refsO (sortO nw)) .none (.int s ts) none (some (s:Int)) .none (.int _ _) hrl (F1 _ (.head _))
  rw [htk] at this
  exact this
 ·refine use B ((n1+4+1,lstO (refsO ws) 0)::(n1+4,fldO "slice" [.none,.int s ts,.none])::(n1+1,lstO (refsO (sortO nw)) 2)::(n+1,celO none)::(n,frN w nm258 ks1 [.ref la,.int s ts,.ref (n+2),A3,A4,A5,A6])::(n+2,lstO (refsO nw) ep1)::nw.map Of.cell) ((n1+4+1,lstO (refsO ws) 0)::(n1+4,fldO "slice" [.none,.int s ts,.none])::(n1+1,lstO (refsO (sortO nw)) 2)::(n+2,lstO (refsO nw) ep1)::nw.map Of.cell) (fun z=>?_) (fun z=>?_) (fun h₁ B1 K1 F1=>hl2 h₁ B1 (F1.sub fun p hp=>by
   rcases List.mem_cons.mp hp with rfl | hp
   ·exact .head _
   ·obtain⟨o,ho,rfl⟩:=List.mem_map.mp hp
    exact .tail _ (.tail _ (.tail _ (.tail _ (.tail _ (.tail _ (List.mem_map_of_mem (hmem o ho)))))))))
  ·simp only [cnt_cons,cnt_nil];try ac_rfl
  ·simp only [cnt_cons,cnt_nil];try ac_rfl
 ·refine use B [(n1+4+2+2,dctO [] 2),(n1+4+2+1,lstO (strL (wonO ws)) ws.length),(n+1,celO (some (.ref (n1+4+2+1)))),(n,frN w nm258 ks1 [.ref la,.int s ts,.ref (n+2),A3,A4,A5,A6])] [(n1+4+2+2,dctO [] 2)] (fun z=>?_) (fun z=>?_) (fun h₁ B1 K1 F1=>hl3 h₁ B1 (hL.keeps K1) (F1 _ (.tail _ (.tail _ (.head _)))) (F1 _ (.tail _ (.head _))))
  ·simp only [cnt_cons,cnt_nil];try ac_rfl
  ·simp only [cnt_cons,cnt_nil];try ac_rfl
 ·refine use B ((n6,fldO "range" [(.int 0 (t6+1)),(.int s ts),(.int 1 (t6+2))])::(n4+2,dctO [] 6)::(n+1,celO (some (.ref (n1+4+2+1))))::(n1+4+2+1,lstO (strL (wonO ws)) ws.length)::nwA.map Hd.cell) [(n6,fldO "range" [(.int 0 (t6+1)),(.int s ts),(.int 1 (t6+2))]),(n4+2,dctO [] 6),(n+1,celO (some (.ref (n1+4+2+1)))),(n1+4+2+1,lstO (strL (wonO ws)) ws.length)] (fun z=>?_) (fun z=>?_) (fun h₁ B1 K1 F1=>hl4' h₁ B1 (F1 _ (.tail _ (.tail _ (.head _)))) (F1 _ (.tail _ (.tail _ (.tail _ (.head _))))))
  ·rw [show rngO 0 (s - 0)=fldO "range_iterator" [(.int 0 0),(.int s 0),(.int 1 0)] from rfl]
   simp only [cnt_cons,cnt_nil];try ac_rfl
  ·rw [List.map_append]
   simp only [cnt_cons,cnt_nil,cnt_append];try ac_rfl
end
noncomputable def nm265:List Str:=[sO "lists",sO "table",sO "seats",sO "votes",sO "after",sO "place",sO "letter",sO "entry",sO "held"]
theorem sea_in {w:World} {h₀:Heap} {os:OsState} (B:Base w h₀) {k:Nat} (hk:k≤200) (la x ts tw:Nat) (s vv:Int) (n t:Nat) (rest:List (Nat×Obj)) {r:Result} {m':SM}
  (h:Spec w h₀ os k (.func (bodyOf (fdAt w 265)) (envAt w 265 n)) ⟨(n,frN w nm265 (tf t) [(.ref la),(.ref x),(.int s ts),(.int vv tw)])::rest,n+1,t+4⟩ r m') :
  Spec w h₀ os k (.call (.ref 265) ⟨[.ref la,.ref x,.int s ts,.int vv tw],[]⟩) ⟨rest,n,t⟩ r m' :=
 spec_fn B (by kernel_rfl) (show RT3 (runT w (bindZ (fdAt w 265) ⟨[.ref la,.ref x,.int s ts,.int vv tw],[]⟩) ⟨rest,n,t⟩ []) (.ok [((sO "lists"),(.ref la)),((sO "table"),(.ref x)),((sO "seats"),(.int s ts)),((sO "votes"),(.int vv tw))]) ⟨rest,n,t⟩ from⟨by kernel_rfl,by kernel_rfl,by kernel_rfl⟩)
  (show RT3 (runT w (envZ (fdAt w 265).scope (fdAt w 265).globals (fdAt w 265).closure [((sO "lists"),(.ref la)),((sO "table"),(.ref x)),((sO "seats"),(.int s ts)),((sO "votes"),(.int vv tw))] ((fdAt w 265).qualname++sO ".<locals>.") (some 265) (fdAt w 265).code none (fdAt w 265).builtins) ⟨rest,n,t⟩ [1,1,1,1,1,1,1,1]) (.ok (envAt w 265 n)) ⟨(n,frN w nm265 (tf t) [(.ref la),(.ref x),(.int s ts),(.int vv tw)])::rest,n+1,t+4⟩ from⟨by kernel_rfl,by kernel_rfl,by kernel_rfl⟩) h hk
theorem sea_e:∀(w:World) (n t s1 t1 L it st:Nat) (V15:Value) (f1 f2:List Value) (O3:Obj) (rest:List (Nat×Obj)),(fun(A:Nat×Obj)=>GoodH w (loopC (stAt (bodyOf (fdAt w 265)) 1) (.ref it) (envAt w 265 L)) [] ⟨A::(L,O3)::rest,n,t⟩ [1,1,1] [.at (.call (.builtin "list_iterator.__next__") ⟨[(.ref it)],[]⟩) ⟨A::(L,O3)::rest,n,t⟩ (.error (.ref st)) ⟨(st,fldO "StopIteration" [V15,.none,.none,.none,(.bool false),.none])::(it,fldO "list_iterator" f2)::(L,O3)::rest,s1,t1⟩] (.ok .next) [2] 3 ⟨(L,O3)::rest,s1,t1⟩) (it,fldO "list_iterator" f1):=by walk_at "r"
theorem sea_f:∀(w:World) (n t s2 t2 L it a e x dx th l af ep tp tl tv ts tw tz tn d4:Nat) (ks:Nat→Nat) (V0 V11 V12:Value) (p v g ct s vv:Int) (c ds:Str) (f1 f2 vs:List Value) (rest:List (Nat×Obj)),(fun(A B C D E F G H I J K N O P:Nat×Obj) (M:Code)=>Good w M [(a,tupO [(.int p tp),(.str c tl),(.ref e)]),(e,tupO [(.int v tv),V11,V12,(.int ct tn),(.ref d4)])] ⟨P::F::K::J::B::rest,n,t⟩ [1,1,1,1001,1001,1001,0,1001,1,1,0,1,1,1,1001,1,1,1,0,1,1,1,1001,1,1,1,0,1,1,1,1001,1,1,1,0,1,1,1,1001,1,1,1,5,5,5,5,5,5,0,0,5,7,0,0,0,7,0,0,0,7,0,0,0,0,7,8,5,1,0,1,1,1,5,5,5,6,6,6,6,5,5,5,1002,1002,1002,0,1002,1002,5,5,1002,1002,1002,0,1002,1002,5,1,5,5,1,1,5,1002,1002,1002,0,1002,1002,5,1002,1002,1002,0,1002,1002,1] [.at (.call (.builtin "list_iterator.__next__") ⟨[(.ref it)],[]⟩) ⟨P::F::K::J::B::rest,n,t⟩ (.ok (.ret (.ref a))) ⟨G::F::K::J::B::rest,n,t⟩,.any (.call (.builtin "str.upper") ⟨[(.str c tl)],[]⟩) (aStr (upS c)),.at (.call (.ref 177) ⟨[(.ref x),(.str (upS c) (t+3))],[]⟩) ⟨C::N::H::G::E::K::J::B::rest,(n+3),(t+4)⟩ (.ok (.ret (.str ds tz))) ⟨C::N::H::G::E::K::J::B::rest,s2,t2⟩,.any (.call (.builtin "len") ⟨[(.str ds tz)],[]⟩) (aLen g),.any (.call (.builtin "int.__sub__") ⟨[(.int g (t2+1)),(.int 1 (t2+2))],[]⟩) (aInt (g - 1)),.any (.call (.builtin "int.__mul__") ⟨[(.int v tv),(.int s ts)],[]⟩) (aInt (v*s)),.any (.call (.builtin "int.__mul__") ⟨[(.int (g - 1) (t2+3)),(.int vv tw)],[]⟩) (aInt ((g - 1)*vv)),.any (.call (.builtin "int.__sub__") ⟨[(.int (v*s) (t2+7)),(.int ((g - 1)*vv) (t2+8))],[]⟩) (aInt (v*s - (g - 1)*vv)),.at (.call (.builtin "list.append") ⟨[(.ref af),(.ref (s2+1))],[]⟩) ⟨I::D::C::N::H::G::A::K::J::B::rest,(s2+2),(t2+12)⟩ (.ok (.ret .none)) ⟨I::D::C::N::H::G::A::O::J::B::rest,(s2+2),(t2+12)⟩] (.ok (.again M)) [0,1,5,6,7,8,9] 10 ⟨I::D::G::A::O::J::B::rest,(s2+2),(t2+12)⟩) (L,frN w nm265 (upd (upd (upd (upd ks 5 t) 6 (t+1)) 7 (t+2)) 8 (t2+4)) [V0,(.ref x),(.int s ts),(.int vv tw),(.ref af),(.int p tp),(.str c tl),(.ref e),(.int (g - 1) (t2+3))]) (dx,dctO [ez w.params (sO "_headers") th (.ref l)] 1) ((n+2),fldO "StopIteration" [(.ref (n+1)),.none,.none,.none,(.bool false),.none]) (s2,tupO [(.int v tv),(.int (g - 1) (t2+3)),(.int (v*s - (g - 1)*vv) (t2+9)),(.int ct tn),(.ref d4)]) (L,frN w nm265 (upd (upd (upd ks 5 t) 6 (t+1)) 7 (t+2)) [V0,(.ref x),(.int s ts),(.int vv tw),(.ref af),(.int p tp),(.str c tl),(.ref e)]) (L,frN w nm265 ks [V0,(.ref x),(.int s ts),(.int vv tw),(.ref af)]) (it,fldO "list_iterator" f2) (n,fldO "tuple_iterator" [.none,(.int 3 0)]) ((s2+1),tupO [(.int p tp),(.str c tl),(.ref s2)]) (x,insO 230 dx) (af,lstO vs ep) ((n+1),tupO []) (af,lstO (vs++[(.ref (s2+1))]) (ep+1)) (it,fldO "list_iterator" f1) (loopC (stAt (bodyOf (fdAt w 265)) 1) (.ref it) (envAt w 265 L)):=by walk_at "r"
theorem sea_l:∀(w:World) (n t s2 t2 L it a e x dx th l af ep tp tl tv ts tw tz tn d4:Nat) (ks:Nat→Nat) (V0 V3 V4 V5 V6 V11 V12:Value) (p v g ct s vv:Int) (c ds:Str) (f1 f2 vs:List Value) (rest:List (Nat×Obj)),(fun(A B C D E F G H I J K N O P:Nat×Obj) (M:Code)=>Good w M [(a,tupO [(.int p tp),(.str c tl),(.ref e)]),(e,tupO [(.int v tv),V11,V12,(.int ct tn),(.ref d4)])] ⟨P::E::K::J::A::rest,n,t⟩ [1,1,1,1001,1001,1001,0,1001,1,1,0,1,1,1,1001,1,1,1,0,1,1,1,1001,1,1,1,0,1,1,1,1001,1,1,1,0,1,1,1,1001,1,1,1,5,5,5,5,5,5,0,0,5,7,0,0,0,7,0,0,0,7,0,0,0,0,7,8,5,1,0,1,1,1,5,5,5,6,6,6,6,5,5,5,1002,1002,1002,0,1002,1002,5,5,1002,1002,1002,0,1002,1002,5,1,5,5,1,1,5,1002,1002,1002,0,1002,1002,5,1002,1002,1002,0,1002,1002,1] [.at (.call (.builtin "list_iterator.__next__") ⟨[(.ref it)],[]⟩) ⟨P::E::K::J::A::rest,n,t⟩ (.ok (.ret (.ref a))) ⟨F::E::K::J::A::rest,n,t⟩,.any (.call (.builtin "str.upper") ⟨[(.str c tl)],[]⟩) (aStr (upS c)),.at (.call (.ref 177) ⟨[(.ref x),(.str (upS c) (t+3))],[]⟩) ⟨B::N::G::F::H::K::J::A::rest,(n+3),(t+4)⟩ (.ok (.ret (.str ds tz))) ⟨B::N::G::F::H::K::J::A::rest,s2,t2⟩,.any (.call (.builtin "len") ⟨[(.str ds tz)],[]⟩) (aLen g),.any (.call (.builtin "int.__sub__") ⟨[(.int g (t2+1)),(.int 1 (t2+2))],[]⟩) (aInt (g - 1)),.any (.call (.builtin "int.__mul__") ⟨[(.int v tv),(.int s ts)],[]⟩) (aInt (v*s)),.any (.call (.builtin "int.__mul__") ⟨[(.int (g - 1) (t2+3)),(.int vv tw)],[]⟩) (aInt ((g - 1)*vv)),.any (.call (.builtin "int.__sub__") ⟨[(.int (v*s) (t2+7)),(.int ((g - 1)*vv) (t2+8))],[]⟩) (aInt (v*s - (g - 1)*vv)),.at (.call (.builtin "list.append") ⟨[(.ref af),(.ref (s2+1))],[]⟩) ⟨I::D::B::N::G::F::C::K::J::A::rest,(s2+2),(t2+12)⟩ (.ok (.ret .none)) ⟨I::D::B::N::G::F::C::O::J::A::rest,(s2+2),(t2+12)⟩] (.ok (.again M)) [0,1,5,6,7,8,9] 10 ⟨I::D::F::C::O::J::A::rest,(s2+2),(t2+12)⟩) (dx,dctO [ez w.params (sO "_headers") th (.ref l)] 1) ((n+2),fldO "StopIteration" [(.ref (n+1)),.none,.none,.none,(.bool false),.none]) (L,frN w nm265 ks [V0,(.ref x),(.int s ts),(.int vv tw),(.ref af),(.int p tp),(.str c tl),(.ref e),(.int (g - 1) (t2+3))]) (s2,tupO [(.int v tv),(.int (g - 1) (t2+3)),(.int (v*s - (g - 1)*vv) (t2+9)),(.int ct tn),(.ref d4)]) (L,frN w nm265 ks [V0,(.ref x),(.int s ts),(.int vv tw),(.ref af),V3,V4,V5,V6]) (it,fldO "list_iterator" f2) (n,fldO "tuple_iterator" [.none,(.int 3 0)]) (L,frN w nm265 ks [V0,(.ref x),(.int s ts),(.int vv tw),(.ref af),(.int p tp),(.str c tl),(.ref e),V6]) ((s2+1),tupO [(.int p tp),(.str c tl),(.ref s2)]) (x,insO 230 dx) (af,lstO vs ep) ((n+1),tupO []) (af,lstO (vs++[(.ref (s2+1))]) (ep+1)) (it,fldO "list_iterator" f1) (loopC (stAt (bodyOf (fdAt w 265)) 1) (.ref it) (envAt w 265 L)):=by walk_at "r"
theorem sea_b:∀(w:World) (n t s1 t1 la le x ep ts tw:Nat) (ks:Nat→Nat) (V3 V4 V5 V6:Value) (s vv:Int) (va vs:List Value) (rest0 rest:List (Nat×Obj)),(fun(A:Nat×Obj)=>Good w (.func (bodyOf (fdAt w 265)) (envAt w 265 n)) [(la,lstO va le)] ⟨(n,frN w nm265 (tf t) [(.ref la),(.ref x),(.int s ts),(.int vv tw)])::rest0,(n+1),(t+4)⟩ [2,2,2,1001,1001,0,1001,1,1,1] [.at (loopC (stAt (bodyOf (fdAt w 265)) 1) (.ref (n+2)) (envAt w 265 n)) ⟨((n+2),fldO "list_iterator" [(.ref la),(.int 0 0)])::((n+1),lstO [] 0)::(n,frN w nm265 (tf t) [(.ref la),(.ref x),(.int s ts),(.int vv tw),(.ref (n+1))])::rest0,(n+3),(t+5)⟩ (.ok .next) ⟨(n,frN w nm265 ks [(.ref la),(.ref x),(.int s ts),(.int vv tw),(.ref (n+1)),V3,V4,V5,V6])::A::rest,s1,t1⟩] (.ok (.done (.ret (.ref (n+1))))) [1] 2 ⟨A::rest,s1,t1⟩) ((n+1),lstO vs ep):=by walk_at "r"
structure De where
 p:Nat
 t:Nat
 v:Nat
 u:Nat
noncomputable def deE (w:World) (x:De):DictEntry:=ez w.params (ltr x.p) x.t (.int x.v x.u)
noncomputable def dcE (w:World) (l:List De):List DictEntry:=l.map (deE w)
noncomputable def dcO (w:World) (l:List De):Obj:=dctO (dcE w l) l.length
structure En where
 p:Nat
 v:Nat
 h:Int
 o:Int
 c:Int
 d:Nat
 cs:List De
structure Lx where
 a:Nat
 tp:Nat
 tl:Nat
 e:Nat
 tv:Nat
 p:Nat
 v:Nat
 h:Int
 th:Nat
 o:Int
 to:Nat
 c:Int
 tc:Nat
 d:Nat
 cs:List De
noncomputable def Lx.en (y:Lx):En:=⟨y.p,y.v,y.h,y.o,y.c,y.d,y.cs⟩
noncomputable def Lx.li (y:Lx):Li:=⟨y.a,y.tp,y.tl,y.e,y.tv,y.p,y.v,.int y.h y.th,.int y.o y.to,.int y.c y.tc,.ref y.d⟩
noncomputable def Lx.enO (y:Lx):Obj:=tupO [.int y.v y.tv,.int y.h y.th,.int y.o y.to,.int y.c y.tc,.ref y.d]
noncomputable def Lx.tuO (y:Lx):Obj:=tupO [.int y.p y.tp,.str (ltr y.p) y.tl,.ref y.e]
noncomputable def liC:List Lx→List (Nat×Obj)
 | []=>[]
 | y::ys=>(y.a,y.tuO)::(y.e,y.enO)::liC ys
noncomputable def refsL (xs:List Lx):List Value:=xs.map fun y=>.ref y.a
theorem liC_mem {xs:List Lx} {y:Lx} (h:y∈xs):(y.a,y.tuO)∈liC xs∧(y.e,y.enO)∈liC xs:=by
 induction xs with
 | nil=>nomatch h
 | cons x xs ih =>
  rcases List.mem_cons.mp h with rfl | h
  ·exact⟨.head _,.tail _ (.head _)⟩
  ·exact⟨.tail _ (.tail _ (ih h).1),.tail _ (.tail _ (ih h).2)⟩
theorem refsL_eq (xs:List Lx):refsL xs=((xs.map Lx.li).map (·.a)).map .ref:=by
 unfold refsL;rw [List.map_map,List.map_map];rfl
theorem lisIn_of {h:Heap} {la le:Nat} {xs:List Lx} (h1:h.get? la=some (lstO (refsL xs) le)) (h2:Facts h (liC xs)):LisIn h la le (xs.map Lx.li):=by
 refine⟨by rw [h1,refsL_eq],fun y hy=>?_,fun y hy=>?_⟩
 ·obtain⟨x,hx,rfl⟩:=List.mem_map.mp hy
  exact h2 _ (liC_mem hx).1
 ·obtain⟨x,hx,rfl⟩:=List.mem_map.mp hy
  exact h2 _ (liC_mem hx).2
noncomputable def seatE (T:PT) (s:Nat) (vv:Int) (e:En):En:=⟨e.p,e.v,(dots T e.p:Int) - 1,(e.v:Int)*(s:Int) - ((dots T e.p:Int) - 1)*vv,e.c,e.d,e.cs⟩
theorem cnt_liC (z:Nat×Obj) (y:Lx) (ys:List Lx):cnt z (liC (y::ys))=one z (y.a,y.tuO)+(one z (y.e,y.enO)+cnt z (liC ys)):=rfl
section
variable {w:World} {os:OsState}
structure TabOk (T:PT) (xs:List Lx):Prop where
 ok:PTok T
 two:2≤T.length
 four:T.length≤4
 seven:∀ e∈T,e.2.2≤7
 all:∀ y∈xs,∃ e∈T,e.1=y.p
noncomputable abbrev E1' (w:World):Stmt:=stAt (bodyOf (fdAt w 265)) 1
theorem appR {h₀:Heap} (B:Base w h₀) {k:Nat} (l ep n t:Nat) (vs:List Value) (v:Value) (hz:vs.length≤100) (rest:List (Nat×Obj)) :
  Spec w h₀ os k (.call (.builtin "list.append") ⟨[.ref l,v],[]⟩) ⟨[(l,lstO vs ep)]++rest,n,t⟩ (.ok (.ret .none)) ⟨[(l,lstO (vs++[v]) (ep+1))]++rest,n,t⟩ :=
 spec_frz B fun h₁ B1 _ _=>app_ev B1 l ep n t vs v hz
theorem sea1 {k:Nat} (hk:k≤110) (L it la le x dx th l epT af ts tw:Nat) (V0:Value) (s:Nat) (s6:s≤6) (vv:Int) (hvv:-(2 ^ 60)≤vv∧vv≤2 ^ 60) (hs:List Hd) (T:PT) (hTab:TabIs hs T) (xs:List Lx) (hT:TabOk T xs) (h2:2≤xs.length) (h4:xs.length≤6):∀(ys:List Lx) (i:Nat),(∀ y∈ys,y∈xs)→((xs.map Lx.li).map (·.a)).drop i=ys.map (·.a)→i+ys.length=xs.length →
  ∀(ks:Nat→Nat) (V3 V4 V5 V6:Value) (vs:List Value) (ep n t:Nat),vs.length+ys.length≤60 →
  ∃(ks':Nat→Nat) (V3' V4' V5' V6':Value) (nw:List Lx) (ep' n' t':Nat),nw.map Lx.en=ys.map (fun y=>seatE T s vv y.en)∧∀(h₀:Heap),Base w h₀→LisIn h₀ la le (xs.map Lx.li) →
   Spec w h₀ os k (loopC (E1' w) (.ref it) (envAt w 265 L)) ⟨(it,fldO "list_iterator" [.ref la,.int (i:Int) 0])::(L,frN w nm265 ks [V0,.ref x,.int s ts,.int vv tw,.ref af,V3,V4,V5,V6])::(af,lstO vs ep)::tabC w x dx th l epT hs,n,t⟩ (.ok .next)
    ⟨(L,frN w nm265 ks' [V0,.ref x,.int s ts,.int vv tw,.ref af,V3',V4',V5',V6'])::(af,lstO (vs++refsL nw) ep')::(liC nw++tabC w x dx th l epT hs),n',t'⟩
 | [],i,_,_,hi=>by
  intro ks V3 V4 V5 V6 vs ep n t _
  refine⟨ks,V3,V4,V5,V6,[],ep,n+2,t,rfl,fun h₀ B hL=>?_⟩
  have hi:i=((xs.map Lx.li).map (·.a)).length:=by simpa using hi
  rw [show vs++refsL []=vs from List.append_nil _]
  exact good_h (sea_e w n t (n+2) t L it (n+1) (.ref n) [.ref la,.int (i:Int) 0] [.none,.int (i:Int) 0] _ _) B facts_nil ⟨midH B (fun h₁ B1 K1 F1=>lne B1 it la le n t ((xs.map Lx.li).map (·.a)) i (by simpa using h2) (by simpa using h4) (K1 _ _ hL.l) hi) rfl rfl,trivial⟩
 | y::ys,i,hm,hd,hi=>by
  intro ks V3 V4 V5 V6 vs ep n t hz
  rw [List.length_cons] at hi hz
  obtain⟨hri,hd'⟩:=drop_at hd
  obtain⟨e0,he0,hep⟩:=hT.all y (hm y (.head _))
  obtain⟨d,e',tz,hget⟩:=getT (w:=w) (os:=os) (k:=k+21) (by exact Nat.le_trans (Nat.add_le_add_right ‹_› _) (by decide)) x dx th l epT hTab hT.ok hT.two hT.four he0 (nm:=upS (ltr y.p)) (nm_is (p:=y.p) true (hep▸hT.ok.lt e0 he0)) (by rw [hep];exact low_nm (p:=y.p) true (hep▸hT.ok.lt e0 he0)) (t+3)
  rw [hep] at hget
  have hdd:=dots_mem hT.ok he0
  rw [hep] at hdd
  have hd1:1≤dots T y.p:=by rw [hdd];exact hT.ok.ge e0 he0
  have hd7:dots T y.p≤7:=by rw [hdd];exact hT.seven e0 he0
  obtain⟨ks',V3',V4',V5',V6',nw,ep',n',t',hc,hnext⟩:=sea1 hk L it la le x dx th l epT af ts tw V0 s s6 vv hvv hs T hTab xs hT h2 h4 ys (i+1) (fun z hz=>hm z (.tail _ hz)) hd' (by exact ox3 ‹_›) ks (.int y.p y.tp) (.str (ltr y.p) y.tl) (.ref y.e) (.int ((dots T y.p:Int) - 1) (t+4+e'+3)) (vs++[.ref (n+3+d+1)]) (ep+1) (n+3+d+2) (t+4+e'+12) (by rw [List.length_append,List.length_singleton];exact ox4 ‹_›)
  refine⟨ks',V3',V4',V5',V6',(⟨n+3+d+1,y.tp,y.tl,n+3+d,y.tv,y.p,y.v,(dots T y.p:Int) - 1,t+4+e'+3,(y.v:Int)*(s:Int) - ((dots T y.p:Int) - 1)*vv,t+4+e'+9,y.c,y.tc,y.d,y.cs⟩:Lx)::nw,ep',n',t',by rw [List.map_cons,List.map_cons,hc];rfl,fun h₀ B hL=>?_⟩
  have gR:=sea_l w n t (n+3+d) (t+4+e') L it y.a y.e x dx th l af ep y.tp y.tl y.tv ts tw tz y.tc y.d ks V0 V3 V4 V5 V6 (.int y.h y.th) (.int y.o y.to) y.p y.v (dots T y.p) y.c s vv (ltr y.p) (dS (dots T y.p)) [.ref la,.int ((i:Nat):Int) 0] [.ref la,.int ((i+1:Nat):Int) 0] vs ((l,lstO (hs.map fun h=>.ref h.a) epT)::hs.map Hd.cell)
  refine good_again gR B ((facts_nil.cons (hL.e y.li (List.mem_map_of_mem (hm y (.head _))))).cons (hL.t y.li (List.mem_map_of_mem (hm y (.head _))))) ⟨?_,?_,?_,?_,?_,?_,?_,?_,?_,trivial⟩ ?_
  ·exact midH B (fun h₁ B1 K1 F1=>lnx B1 it la le n t ((xs.map Lx.li).map (·.a)) i y.a (by simpa using h2) (by simpa using h4) (K1 _ _ hL.l) hri) rfl rfl
  ·exact fun m=>up_ev B _ (ltr_is _) m
  ·refine midE B 6 (T:=tabC w x dx th l epT hs) (T':=tabC w x dx th l epT hs) (fun h₁ B1 K1 F1=>?_) rfl rfl
   have:=hget h₁ B1 (n+3) (t+4) []
   rw [List.append_nil] at this
   exact this
  ·exact fun m=>len_ev B _ hd1 hd7 m
  ·exact fun m=>subi_ev _ _ _ _ m
  ·exact fun m=>mul_ev _ _ _ _ (by omega) m
  ·exact fun m=>mul_ev _ _ _ _ hvv m
  ·exact fun m=>subi_ev _ _ _ _ m
  ·exact mid [_,_,_,_,_,_,_] _ (fun rest=>appR B af ep (n+3+d+2) (t+4+e'+12) vs (.ref (n+3+d+1)) (by exact ox6 ‹_› (by decide)) rest)
  ·refine use B [(n+3+d+1,(⟨n+3+d+1,y.tp,y.tl,n+3+d,y.tv,y.p,y.v,(dots T y.p:Int) - 1,t+4+e'+3,(y.v:Int)*(s:Int) - ((dots T y.p:Int) - 1)*vv,t+4+e'+9,y.c,y.tc,y.d,y.cs⟩:Lx).tuO),(n+3+d,(⟨n+3+d+1,y.tp,y.tl,n+3+d,y.tv,y.p,y.v,(dots T y.p:Int) - 1,t+4+e'+3,(y.v:Int)*(s:Int) - ((dots T y.p:Int) - 1)*vv,t+4+e'+9,y.c,y.tc,y.d,y.cs⟩:Lx).enO)] [] (fun z=>?_) (fun z=>?_) (fun h₁ B1 K1 F1=>hnext h₁ B1 (hL.keeps K1))
   ·simp only [cnt_cons,cnt_tab,cnt_nil,cnt_append,List.cons_append,List.nil_append];try ac_rfl
   ·rw [show vs++refsL ((⟨n+3+d+1,y.tp,y.tl,n+3+d,y.tv,y.p,y.v,(dots T y.p:Int) - 1,t+4+e'+3,(y.v:Int)*(s:Int) - ((dots T y.p:Int) - 1)*vv,t+4+e'+9,y.c,y.tc,y.d,y.cs⟩:Lx)::nw)=vs++[.ref (n+3+d+1)]++refsL nw by unfold refsL;simp]
    simp only [cnt_cons,cnt_tab,cnt_nil,cnt_append,cnt_liC,List.cons_append];try ac_rfl
theorem sea1_all {k:Nat} (hk:k≤110) (L it la le x dx th l epT af ts tw:Nat) (V0:Value) (s:Nat) (s6:s≤6) (vv:Int) (hvv:-(2 ^ 60)≤vv∧vv≤2 ^ 60) (hs:List Hd) (T:PT) (hTab:TabIs hs T) (xs:List Lx) (hT:TabOk T xs) (h2:2≤xs.length) (h4:xs.length≤6) (ks:Nat→Nat) (n t:Nat) :
  ∃(ks':Nat→Nat) (V3' V4' V5' V6':Value) (nw:List Lx) (ep' n' t':Nat),nw.map Lx.en=xs.map (fun y=>seatE T s vv y.en)∧∀(h₀:Heap),Base w h₀→LisIn h₀ la le (xs.map Lx.li) →
   Spec w h₀ os k (loopC (E1' w) (.ref it) (envAt w 265 L)) ⟨(it,fldO "list_iterator" [.ref la,.int ((0:Nat):Int) 0])::(L,frN w nm265 ks [V0,.ref x,.int s ts,.int vv tw,.ref af])::(af,lstO [] 0)::tabC w x dx th l epT hs,n,t⟩ (.ok .next)
    ⟨(L,frN w nm265 ks' [V0,.ref x,.int s ts,.int vv tw,.ref af,V3',V4',V5',V6'])::(af,lstO (refsL nw) ep')::(liC nw++tabC w x dx th l epT hs),n',t'⟩:=by
 match xs,h2 with
 | y::ys,h2 =>
  rw [List.length_cons] at h4
  obtain⟨vs,hvs⟩:∃ vs:List Value,vs=[]:=⟨_,rfl⟩
  obtain⟨ep,hep0⟩:∃ ep:Nat,ep=0:=⟨_,rfl⟩
  obtain⟨e0,he0,hep⟩:=hT.all y (.head _)
  obtain⟨d,e',tz,hget⟩:=getT (w:=w) (os:=os) (k:=k+21) (by exact Nat.le_trans (Nat.add_le_add_right ‹_› _) (by decide)) x dx th l epT hTab hT.ok hT.two hT.four he0 (nm:=upS (ltr y.p)) (nm_is (p:=y.p) true (hep▸hT.ok.lt e0 he0)) (by rw [hep];exact low_nm (p:=y.p) true (hep▸hT.ok.lt e0 he0)) (t+3)
  rw [hep] at hget
  have hdd:=dots_mem hT.ok he0
  rw [hep] at hdd
  have hd1:1≤dots T y.p:=by rw [hdd];exact hT.ok.ge e0 he0
  have hd7:dots T y.p≤7:=by rw [hdd];exact hT.seven e0 he0
  obtain⟨ks',V3',V4',V5',V6',nw,ep',n',t',hc,hnext⟩:=sea1 (w:=w) (os:=os) (k:=k) hk L it la le x dx th l epT af ts tw V0 s s6 vv hvv hs T hTab (y::ys) hT h2 (by rw [List.length_cons];assumption) ys (0+1) (fun z hz=>.tail _ hz) (by rw [List.map_map];rfl) (by rw [List.length_cons];exact oxd) (upd (upd (upd (upd ks 5 t) 6 (t+1)) 7 (t+2)) 8 (t+4+e'+4)) (.int y.p y.tp) (.str (ltr y.p) y.tl) (.ref y.e) (.int ((dots T y.p:Int) - 1) (t+4+e'+3)) (vs++[.ref (n+3+d+1)]) (ep+1) (n+3+d+2) (t+4+e'+12) (by rw [hvs];simp;omega)
  refine⟨ks',V3',V4',V5',V6',(⟨n+3+d+1,y.tp,y.tl,n+3+d,y.tv,y.p,y.v,(dots T y.p:Int) - 1,t+4+e'+3,(y.v:Int)*(s:Int) - ((dots T y.p:Int) - 1)*vv,t+4+e'+9,y.c,y.tc,y.d,y.cs⟩:Lx)::nw,ep',n',t',by rw [List.map_cons,List.map_cons,hc];rfl,fun h₀ B hL=>?_⟩
  rw [show refsL ((⟨n+3+d+1,y.tp,y.tl,n+3+d,y.tv,y.p,y.v,(dots T y.p:Int) - 1,t+4+e'+3,(y.v:Int)*(s:Int) - ((dots T y.p:Int) - 1)*vv,t+4+e'+9,y.c,y.tc,y.d,y.cs⟩:Lx)::nw)=vs++refsL ((⟨n+3+d+1,y.tp,y.tl,n+3+d,y.tv,y.p,y.v,(dots T y.p:Int) - 1,t+4+e'+3,(y.v:Int)*(s:Int) - ((dots T y.p:Int) - 1)*vv,t+4+e'+9,y.c,y.tc,y.d,y.cs⟩:Lx)::nw) by rw [hvs,List.nil_append],show lstO [] 0=lstO vs ep by rw [hvs,hep0]]
  have hzz:vs.length≤100:=by rw [hvs];decide
  have gR:=sea_f w n t (n+3+d) (t+4+e') L it y.a y.e x dx th l af ep y.tp y.tl y.tv ts tw tz y.tc y.d ks V0 (.int y.h y.th) (.int y.o y.to) y.p y.v (dots T y.p) y.c s vv (ltr y.p) (dS (dots T y.p)) [.ref la,.int ((0:Nat):Int) 0] [.ref la,.int ((0+1:Nat):Int) 0] vs ((l,lstO (hs.map fun h=>.ref h.a) epT)::hs.map Hd.cell)
  refine good_again gR B ((facts_nil.cons (hL.e y.li (List.mem_map_of_mem (.head _)))).cons (hL.t y.li (List.mem_map_of_mem (.head _)))) ⟨?_,?_,?_,?_,?_,?_,?_,?_,?_,trivial⟩ ?_
  ·exact midH B (fun h₁ B1 K1 F1=>lnx B1 it la le n t (((y::ys).map Lx.li).map (·.a)) 0 y.a (by simpa using h2) (by simpa using h4) (K1 _ _ hL.l) rfl) rfl rfl
  ·exact fun m=>up_ev B _ (ltr_is _) m
  ·refine midE B 6 (T:=tabC w x dx th l epT hs) (T':=tabC w x dx th l epT hs) (fun h₁ B1 K1 F1=>?_) rfl rfl
   have:=hget h₁ B1 (n+3) (t+4) []
   rw [List.append_nil] at this
   exact this
  ·exact fun m=>len_ev B _ hd1 hd7 m
  ·exact fun m=>subi_ev _ _ _ _ m
  ·exact fun m=>mul_ev _ _ _ _ (by omega) m
  ·exact fun m=>mul_ev _ _ _ _ hvv m
  ·exact fun m=>subi_ev _ _ _ _ m
  ·exact mid [_,_,_,_,_,_,_] _ (fun rest=>appR B af ep (n+3+d+2) (t+4+e'+12) vs (.ref (n+3+d+1)) (by assumption) rest)
  ·refine use B [(n+3+d+1,(⟨n+3+d+1,y.tp,y.tl,n+3+d,y.tv,y.p,y.v,(dots T y.p:Int) - 1,t+4+e'+3,(y.v:Int)*(s:Int) - ((dots T y.p:Int) - 1)*vv,t+4+e'+9,y.c,y.tc,y.d,y.cs⟩:Lx).tuO),(n+3+d,(⟨n+3+d+1,y.tp,y.tl,n+3+d,y.tv,y.p,y.v,(dots T y.p:Int) - 1,t+4+e'+3,(y.v:Int)*(s:Int) - ((dots T y.p:Int) - 1)*vv,t+4+e'+9,y.c,y.tc,y.d,y.cs⟩:Lx).enO)] [] (fun z=>?_) (fun z=>?_) (fun h₁ B1 K1 F1=>hnext h₁ B1 (hL.keeps K1))
   ·simp only [cnt_cons,cnt_tab,cnt_nil,cnt_append,List.cons_append,List.nil_append];try ac_rfl
   ·rw [show vs++refsL ((⟨n+3+d+1,y.tp,y.tl,n+3+d,y.tv,y.p,y.v,(dots T y.p:Int) - 1,t+4+e'+3,(y.v:Int)*(s:Int) - ((dots T y.p:Int) - 1)*vv,t+4+e'+9,y.c,y.tc,y.d,y.cs⟩:Lx)::nw)=vs++[.ref (n+3+d+1)]++refsL nw by unfold refsL;simp]
    simp only [cnt_cons,cnt_tab,cnt_nil,cnt_append,cnt_liC,List.cons_append];try ac_rfl
theorem sea_ok {k:Nat} (hk:k≤80) (la le x dx th l epT ts tw n t:Nat) (s:Nat) (s6:s≤6) (vv:Int) (hvv:-(2 ^ 60)≤vv∧vv≤2 ^ 60) (hs:List Hd) (T:PT) (hTab:TabIs hs T) (xs:List Lx) (hT:TabOk T xs) (h2:2≤xs.length) (h4:xs.length≤6) :
  ∃(af ep' n' t':Nat) (nw:List Lx),nw.map Lx.en=xs.map (fun y=>seatE T s vv y.en)∧∀(h₀:Heap),Base w h₀→LisIn h₀ la le (xs.map Lx.li) →
   Spec w h₀ os k (.call (.ref 265) ⟨[.ref la,.ref x,.int s ts,.int vv tw],[]⟩) ⟨tabC w x dx th l epT hs,n,t⟩ (.ok (.ret (.ref af))) ⟨(af,lstO (refsL nw) ep')::(liC nw++tabC w x dx th l epT hs),n',t'⟩:=by
 obtain⟨ks',V3',V4',V5',V6',nw,ep',n',t',hc,hl⟩:=sea1_all (w:=w) (os:=os) (k:=k+21) (by exact Nat.le_trans (Nat.add_le_add_right ‹_› _) (by decide)) n (n+2) la le x dx th l epT (n+1) ts tw (.ref la) s s6 vv hvv hs T hTab xs hT h2 h4 (upd (tf t) 4 (t+4)) (n+3) (t+5)
 refine⟨n+1,ep',n',t',nw,hc,fun h₀ B hL=>?_⟩
 refine sea_in B (by exact Nat.le_trans ‹_› (by decide)) la x ts tw s vv n t _ ?_
 have gR:=sea_b w n t n' t' la le x ep' ts tw ks' V3' V4' V5' V6' s vv (((xs.map Lx.li).map (·.a)).map .ref) (refsL nw) (tabC w x dx th l epT hs) (liC nw++tabC w x dx th l epT hs)
 refine good_done gR B (facts_nil.cons hL.l) ⟨?_,trivial⟩
 refine fit [] (hl h₀ B hL) (fun z=>?_) (fun _=>rfl)
 simp only [cnt_cons,cnt_tab,cnt_nil]
 try ac_rfl
end
noncomputable def nm80:List Str:=[sO "target",sO "source",sO "new_callers",sO "func",sO "caller"]
theorem dit_1:∀(w:World) (n t d x it fa t0 u0:Nat) (v0:Int) (c0:Str) (rest:List (Nat×Obj)),(fun(A:Nat×Obj)=>GoodP w (.call (.builtin "dict_items.__iter__") ⟨[.ref x],[]⟩) [((d+2),dctO [ez w.params c0 t0 (.int v0 u0)] 1)] ⟨A::rest,n,t⟩ [1,1,1001,1001]  (.ok (.ret (.ref n))) [0,1] 2 ⟨(n,fldO "dict_itemiterator" [.none,(.bool false),(.ref (d+2)),(.int 0 0),(.int 1 0),(.int 1 0),.none,.none])::A::rest,(n+1),t⟩) (x,fldO "dict_items" [(.ref (d+2))]):=by
 refine byRow2 "special-get-raises" ?_ ?_<;>(intros;exact⟨by kernel_rfl,by kernel_rfl,by kernel_rfl⟩)
theorem dnx_1_0:∀(w:World) (n t d x it fa t0 u0:Nat) (v0:Int) (c0:Str) (rest:List (Nat×Obj)),GoodP w (.call (.builtin "dict_itemiterator.__next__") ⟨[.ref it],[]⟩) [((d+2),dctO [ez w.params c0 t0 (.int v0 u0)] 1)] ⟨(it,fldO "dict_itemiterator" [.none,(.bool false),(.ref (d+2)),(.int 0 0),(.int 1 0),(.int 1 0),.none,.none])::rest,n,t⟩ [1,1,1,1001,1001,1,1,1,1,1,1,2,2,2,2,2,2,2,2,2,2,2]  (.ok (.ret (.ref n))) [0,1] 2 ⟨(n,tupO [(.str c0 t0),(.int v0 u0)])::(it,fldO "dict_itemiterator" [(.int ((n:Nat):Int) 0),(.bool false),(.ref (d+2)),(.int 1 0),(.int 1 0),(.int 1 0),(.str c0 t0),(.int v0 u0)])::rest,(n+1),t⟩:=by
 refine byRow2 "special-get-raises" ?_ ?_<;>(intros;exact⟨by kernel_rfl,by kernel_rfl,by kernel_rfl⟩)
theorem dnx_1_1:∀(w:World) (n t d x it fa t0 u0:Nat) (v0:Int) (c0:Str) (V8 V9:Value) (rest:List (Nat×Obj)),GoodP w (.call (.builtin "dict_itemiterator.__next__") ⟨[.ref it],[]⟩) [((d+2),dctO [ez w.params c0 t0 (.int v0 u0)] 1)] ⟨(it,fldO "dict_itemiterator" [.none,(.bool false),(.ref (d+2)),(.int 1 0),(.int 1 0),(.int 1 0),V8,V9])::rest,n,t⟩ [1,1,1,1001,1001,1,1,1]  (.error (.ref (n+1))) [0,1,2] 3 ⟨((n+1),fldO "StopIteration" [(.ref n),.none,.none,.none,(.bool false),.none])::(n,tupO [])::(it,fldO "dict_itemiterator" [.none,(.bool false),.none,(.int 1 0),(.int 1 0),(.int 1 0),V8,V9])::rest,(n+2),t⟩:=by
 refine byRow2 "special-get-raises" ?_ ?_<;>(intros;exact⟨by kernel_rfl,by kernel_rfl,by kernel_rfl⟩)
theorem dit_2:∀(w:World) (n t d x it fa t0 u0 t1 u1:Nat) (v0 v1:Int) (c0 c1:Str) (rest:List (Nat×Obj)),(fun(A:Nat×Obj)=>GoodP w (.call (.builtin "dict_items.__iter__") ⟨[.ref x],[]⟩) [((d+2),dctO [ez w.params c0 t0 (.int v0 u0),ez w.params c1 t1 (.int v1 u1)] 2)] ⟨A::rest,n,t⟩ [1,1,1001,1001]  (.ok (.ret (.ref n))) [0,1] 2 ⟨(n,fldO "dict_itemiterator" [.none,(.bool false),(.ref (d+2)),(.int 0 0),(.int 2 0),(.int 2 0),.none,.none])::A::rest,(n+1),t⟩) (x,fldO "dict_items" [(.ref (d+2))]):=by
 refine byRow2 "special-get-raises" ?_ ?_<;>(intros;exact⟨by kernel_rfl,by kernel_rfl,by kernel_rfl⟩)
theorem dnx_2_0:∀(w:World) (n t d x it fa t0 u0 t1 u1:Nat) (v0 v1:Int) (c0 c1:Str) (rest:List (Nat×Obj)),GoodP w (.call (.builtin "dict_itemiterator.__next__") ⟨[.ref it],[]⟩) [((d+2),dctO [ez w.params c0 t0 (.int v0 u0),ez w.params c1 t1 (.int v1 u1)] 2)] ⟨(it,fldO "dict_itemiterator" [.none,(.bool false),(.ref (d+2)),(.int 0 0),(.int 2 0),(.int 2 0),.none,.none])::rest,n,t⟩ [1,1,1,1001,1001,1,1,1,1,1,1,2,2,2,2,2,2,2,2,2,2,2]  (.ok (.ret (.ref n))) [0,1] 2 ⟨(n,tupO [(.str c0 t0),(.int v0 u0)])::(it,fldO "dict_itemiterator" [(.int ((n:Nat):Int) 0),(.bool false),(.ref (d+2)),(.int 1 0),(.int 2 0),(.int 2 0),(.str c0 t0),(.int v0 u0)])::rest,(n+1),t⟩:=by
 refine byRow2 "special-get-raises" ?_ ?_<;>(intros;exact⟨by kernel_rfl,by kernel_rfl,by kernel_rfl⟩)
theorem dnx_2_1:∀(w:World) (n t d x it fa t0 u0 t1 u1:Nat) (v0 v1:Int) (c0 c1:Str) (rest:List (Nat×Obj)),GoodP w (.call (.builtin "dict_itemiterator.__next__") ⟨[.ref it],[]⟩) [((d+2),dctO [ez w.params c0 t0 (.int v0 u0),ez w.params c1 t1 (.int v1 u1)] 2)] ⟨(it,fldO "dict_itemiterator" [.none,(.bool false),(.ref (d+2)),(.int 1 0),(.int 2 0),(.int 2 0),(.str c0 t0),(.int v0 u0)])::rest,n,t⟩ [1,1,1,1001,1001,1,1,1,1,1,1,2,2,2,2,2,2,2,2,2,2,2]  (.ok (.ret (.ref n))) [0,1] 2 ⟨(n,tupO [(.str c1 t1),(.int v1 u1)])::(it,fldO "dict_itemiterator" [(.int ((n:Nat):Int) 0),(.bool false),(.ref (d+2)),(.int 2 0),(.int 2 0),(.int 2 0),(.str c1 t1),(.int v1 u1)])::rest,(n+1),t⟩:=by
 refine byRow2 "special-get-raises" ?_ ?_<;>(intros;exact⟨by kernel_rfl,by kernel_rfl,by kernel_rfl⟩)
theorem dnx_2_2:∀(w:World) (n t d x it fa t0 u0 t1 u1:Nat) (v0 v1:Int) (c0 c1:Str) (V8 V9:Value) (rest:List (Nat×Obj)),GoodP w (.call (.builtin "dict_itemiterator.__next__") ⟨[.ref it],[]⟩) [((d+2),dctO [ez w.params c0 t0 (.int v0 u0),ez w.params c1 t1 (.int v1 u1)] 2)] ⟨(it,fldO "dict_itemiterator" [.none,(.bool false),(.ref (d+2)),(.int 2 0),(.int 2 0),(.int 2 0),V8,V9])::rest,n,t⟩ [1,1,1,1001,1001,1,1,1]  (.error (.ref (n+1))) [0,1,2] 3 ⟨((n+1),fldO "StopIteration" [(.ref n),.none,.none,.none,(.bool false),.none])::(n,tupO [])::(it,fldO "dict_itemiterator" [.none,(.bool false),.none,(.int 2 0),(.int 2 0),(.int 2 0),V8,V9])::rest,(n+2),t⟩:=by
 refine byRow2 "special-get-raises" ?_ ?_<;>(intros;exact⟨by kernel_rfl,by kernel_rfl,by kernel_rfl⟩)
theorem dit_3:∀(w:World) (n t d x it fa t0 u0 t1 u1 t2 u2:Nat) (v0 v1 v2:Int) (c0 c1 c2:Str) (rest:List (Nat×Obj)),(fun(A:Nat×Obj)=>GoodP w (.call (.builtin "dict_items.__iter__") ⟨[.ref x],[]⟩) [((d+2),dctO [ez w.params c0 t0 (.int v0 u0),ez w.params c1 t1 (.int v1 u1),ez w.params c2 t2 (.int v2 u2)] 3)] ⟨A::rest,n,t⟩ [1,1,1001,1001]  (.ok (.ret (.ref n))) [0,1] 2 ⟨(n,fldO "dict_itemiterator" [.none,(.bool false),(.ref (d+2)),(.int 0 0),(.int 3 0),(.int 3 0),.none,.none])::A::rest,(n+1),t⟩) (x,fldO "dict_items" [(.ref (d+2))]):=by
 refine byRow2 "special-get-raises" ?_ ?_<;>(intros;exact⟨by kernel_rfl,by kernel_rfl,by kernel_rfl⟩)
theorem dnx_3_0:∀(w:World) (n t d x it fa t0 u0 t1 u1 t2 u2:Nat) (v0 v1 v2:Int) (c0 c1 c2:Str) (rest:List (Nat×Obj)),GoodP w (.call (.builtin "dict_itemiterator.__next__") ⟨[.ref it],[]⟩) [((d+2),dctO [ez w.params c0 t0 (.int v0 u0),ez w.params c1 t1 (.int v1 u1),ez w.params c2 t2 (.int v2 u2)] 3)] ⟨(it,fldO "dict_itemiterator" [.none,(.bool false),(.ref (d+2)),(.int 0 0),(.int 3 0),(.int 3 0),.none,.none])::rest,n,t⟩ [1,1,1,1001,1001,1,1,1,1,1,1,2,2,2,2,2,2,2,2,2,2,2]  (.ok (.ret (.ref n))) [0,1] 2 ⟨(n,tupO [(.str c0 t0),(.int v0 u0)])::(it,fldO "dict_itemiterator" [(.int ((n:Nat):Int) 0),(.bool false),(.ref (d+2)),(.int 1 0),(.int 3 0),(.int 3 0),(.str c0 t0),(.int v0 u0)])::rest,(n+1),t⟩:=by
 refine byRow2 "special-get-raises" ?_ ?_<;>(intros;exact⟨by kernel_rfl,by kernel_rfl,by kernel_rfl⟩)
theorem dnx_3_1:∀(w:World) (n t d x it fa t0 u0 t1 u1 t2 u2:Nat) (v0 v1 v2:Int) (c0 c1 c2:Str) (rest:List (Nat×Obj)),GoodP w (.call (.builtin "dict_itemiterator.__next__") ⟨[.ref it],[]⟩) [((d+2),dctO [ez w.params c0 t0 (.int v0 u0),ez w.params c1 t1 (.int v1 u1),ez w.params c2 t2 (.int v2 u2)] 3)] ⟨(it,fldO "dict_itemiterator" [.none,(.bool false),(.ref (d+2)),(.int 1 0),(.int 3 0),(.int 3 0),(.str c0 t0),(.int v0 u0)])::rest,n,t⟩ [1,1,1,1001,1001,1,1,1,1,1,1,2,2,2,2,2,2,2,2,2,2,2]  (.ok (.ret (.ref n))) [0,1] 2 ⟨(n,tupO [(.str c1 t1),(.int v1 u1)])::(it,fldO "dict_itemiterator" [(.int ((n:Nat):Int) 0),(.bool false),(.ref (d+2)),(.int 2 0),(.int 3 0),(.int 3 0),(.str c1 t1),(.int v1 u1)])::rest,(n+1),t⟩:=by
 refine byRow2 "special-get-raises" ?_ ?_<;>(intros;exact⟨by kernel_rfl,by kernel_rfl,by kernel_rfl⟩)
theorem dnx_3_2:∀(w:World) (n t d x it fa t0 u0 t1 u1 t2 u2:Nat) (v0 v1 v2:Int) (c0 c1 c2:Str) (rest:List (Nat×Obj)),GoodP w (.call (.builtin "dict_itemiterator.__next__") ⟨[.ref it],[]⟩) [((d+2),dctO [ez w.params c0 t0 (.int v0 u0),ez w.params c1 t1 (.int v1 u1),ez w.params c2 t2 (.int v2 u2)] 3)] ⟨(it,fldO "dict_itemiterator" [.none,(.bool false),(.ref (d+2)),(.int 2 0),(.int 3 0),(.int 3 0),(.str c1 t1),(.int v1 u1)])::rest,n,t⟩ [1,1,1,1001,1001,1,1,1,1,1,1,2,2,2,2,2,2,2,2,2,2,2]  (.ok (.ret (.ref n))) [0,1] 2 ⟨(n,tupO [(.str c2 t2),(.int v2 u2)])::(it,fldO "dict_itemiterator" [(.int ((n:Nat):Int) 0),(.bool false),(.ref (d+2)),(.int 3 0),(.int 3 0),(.int 3 0),(.str c2 t2),(.int v2 u2)])::rest,(n+1),t⟩:=by
 refine byRow2 "special-get-raises" ?_ ?_<;>(intros;exact⟨by kernel_rfl,by kernel_rfl,by kernel_rfl⟩)
theorem dnx_3_3:∀(w:World) (n t d x it fa t0 u0 t1 u1 t2 u2:Nat) (v0 v1 v2:Int) (c0 c1 c2:Str) (V8 V9:Value) (rest:List (Nat×Obj)),GoodP w (.call (.builtin "dict_itemiterator.__next__") ⟨[.ref it],[]⟩) [((d+2),dctO [ez w.params c0 t0 (.int v0 u0),ez w.params c1 t1 (.int v1 u1),ez w.params c2 t2 (.int v2 u2)] 3)] ⟨(it,fldO "dict_itemiterator" [.none,(.bool false),(.ref (d+2)),(.int 3 0),(.int 3 0),(.int 3 0),V8,V9])::rest,n,t⟩ [1,1,1,1001,1001,1,1,1]  (.error (.ref (n+1))) [0,1,2] 3 ⟨((n+1),fldO "StopIteration" [(.ref n),.none,.none,.none,(.bool false),.none])::(n,tupO [])::(it,fldO "dict_itemiterator" [.none,(.bool false),.none,(.int 3 0),(.int 3 0),(.int 3 0),V8,V9])::rest,(n+2),t⟩:=by
 refine byRow2 "special-get-raises" ?_ ?_<;>(intros;exact⟨by kernel_rfl,by kernel_rfl,by kernel_rfl⟩)
theorem ac_in {w:World} {h₀:Heap} {os:OsState} (B:Base w h₀) {k:Nat} (hk:k≤200) (d e:Nat) (n t:Nat) (rest:List (Nat×Obj)) {r:Result} {m':SM}
  (h:Spec w h₀ os k (.func (bodyOf (fdAt w 80)) (envAt w 80 n)) ⟨(n,frN w nm80 (tf t) [(.ref (d+2)),(.ref (e+2))])::rest,n+1,t+2⟩ r m') :
  Spec w h₀ os k (.call (.ref 80) ⟨[.ref (d+2),.ref (e+2)],[]⟩) ⟨rest,n,t⟩ r m' :=
 spec_fn B (by kernel_rfl) (show RT3 (runT w (bindZ (fdAt w 80) ⟨[.ref (d+2),.ref (e+2)],[]⟩) ⟨rest,n,t⟩ []) (.ok [((sO "target"),(.ref (d+2))),((sO "source"),(.ref (e+2)))]) ⟨rest,n,t⟩ from⟨by kernel_rfl,by kernel_rfl,by kernel_rfl⟩)
  (show RT3 (runT w (envZ (fdAt w 80).scope (fdAt w 80).globals (fdAt w 80).closure [((sO "target"),(.ref (d+2))),((sO "source"),(.ref (e+2)))] ((fdAt w 80).qualname++sO ".<locals>.") (some 80) (fdAt w 80).code none (fdAt w 80).builtins) ⟨rest,n,t⟩ [1,1,1,1]) (.ok (envAt w 80 n)) ⟨(n,frN w nm80 (tf t) [(.ref (d+2)),(.ref (e+2))])::rest,n+1,t+2⟩ from⟨by kernel_rfl,by kernel_rfl,by kernel_rfl⟩) h hk
theorem ac1_e:∀(w:World) (n t s1 t1 L it st:Nat) (V15:Value) (f1 f2:List Value) (O3:Obj) (rest:List (Nat×Obj)),(fun(A:Nat×Obj)=>GoodH w (loopC (stAt (bodyOf (fdAt w 80)) 1) (.ref it) (envAt w 80 L)) [] ⟨A::(L,O3)::rest,n,t⟩ [1,1,1] [.at (.call (.builtin "dict_itemiterator.__next__") ⟨[(.ref it)],[]⟩) ⟨A::(L,O3)::rest,n,t⟩ (.error (.ref st)) ⟨(st,fldO "StopIteration" [V15,.none,.none,.none,(.bool false),.none])::(it,fldO "dict_itemiterator" f2)::(L,O3)::rest,s1,t1⟩] (.ok .next) [2] 3 ⟨(L,O3)::rest,s1,t1⟩) (it,fldO "dict_itemiterator" f1):=by walk_at "r"
theorem ac2_e:∀(w:World) (n t s1 t1 L it st:Nat) (V15:Value) (f1 f2:List Value) (O3:Obj) (rest:List (Nat×Obj)),(fun(A:Nat×Obj)=>GoodH w (loopC (stAt (bodyOf (fdAt w 80)) 2) (.ref it) (envAt w 80 L)) [] ⟨A::(L,O3)::rest,n,t⟩ [1,1,1] [.at (.call (.builtin "dict_itemiterator.__next__") ⟨[(.ref it)],[]⟩) ⟨A::(L,O3)::rest,n,t⟩ (.error (.ref st)) ⟨(st,fldO "StopIteration" [V15,.none,.none,.none,(.bool false),.none])::(it,fldO "dict_itemiterator" f2)::(L,O3)::rest,s1,t1⟩] (.ok .next) [2] 3 ⟨(L,O3)::rest,s1,t1⟩) (it,fldO "dict_itemiterator" f1):=by walk_at "r"
theorem dnA:∀(w:World) (n t it tl tv:Nat) (v:Int) (c:Str) (f1 f2:List Value) (rest:List (Nat×Obj)),(fun(A B C:Nat×Obj)=>GoodX w (tA (.ref it)) [] ⟨B::rest,n,t⟩ [1,1] [.at (.call (.builtin "dict_itemiterator.__next__") ⟨[(.ref it)],[]⟩) ⟨B::rest,n,t⟩ (.ok (.ret (.ref n))) ⟨A::C::rest,(n+1),t⟩] (.ok (some (.ref n))) [0,1] 2 ⟨A::C::rest,(n+1),t⟩) (n,tupO [(.str c tl),(.int v tv)]) (it,fldO "dict_itemiterator" f1) (it,fldO "dict_itemiterator" f2):=by walk_at "r"
theorem ac1_f:∀(w:World) (n t L it fa nd tl tv ep3:Nat) (ks:Nat→Nat) (V0 V1:Value) (v:Int) (c:Str) (f1:List Value) (es1 es2:List DictEntry) (rest:List (Nat×Obj)),(fun(A B C E F G:Nat×Obj) (D:Stmt)=>GoodX w (tB D (.ref it) (.ref fa) (envAt w 80 L)) [] ⟨E::B::(L,frN w nm80 ks [V0,V1,(.ref nd)])::(nd,dctO es1 ep3)::rest,n,t⟩ [1,1,1,0,1,1,1,0,1,1,1,2,1,1,1,0,1,1,1,2,1,1,1,0,1,1,1,2,1,1,1,6,6,6,6,6,6,6,7,7,1] [.at (.call (.builtin "dict.__setitem__") ⟨[(.ref nd),(.str c tl),(.int v tv)],[]⟩) ⟨C::((n+1),tupO [])::F::E::B::A::(nd,dctO es1 ep3)::rest,(n+3),(t+2)⟩ (.ok (.ret .none)) ⟨C::((n+1),tupO [])::F::E::B::A::G::rest,(n+3),(t+3)⟩] (.ok (.again (.forLoop (tgtS D) (.ref it) (forB D) (elsS D) (envAt w 80 L)))) [4,5,6] 7 ⟨B::A::G::rest,(n+3),(t+3)⟩) (L,frN w nm80 (upd (upd ks 3 t) 4 (t+1)) [V0,V1,(.ref nd),(.str c tl),(.int v tv)]) (it,fldO "dict_itemiterator" f1) ((n+2),fldO "StopIteration" [(.ref (n+1)),.none,.none,.none,(.bool false),.none]) (fa,tupO [(.str c tl),(.int v tv)]) (n,fldO "tuple_iterator" [.none,(.int 2 0)]) (nd,dctO es2 (ep3+1)) (stAt (bodyOf (fdAt w 80)) 1):=by walk_at "r"
theorem ac1_l:∀(w:World) (n t L it fa nd tl tv ep3:Nat) (ks:Nat→Nat) (V0 V1 V3 V4:Value) (v:Int) (c:Str) (f1:List Value) (es1 es2:List DictEntry) (rest:List (Nat×Obj)),(fun(A B C E F G:Nat×Obj) (D:Stmt)=>GoodX w (tB D (.ref it) (.ref fa) (envAt w 80 L)) [] ⟨E::B::(L,frN w nm80 ks [V0,V1,(.ref nd),V3,V4])::(nd,dctO es1 ep3)::rest,n,t⟩ [1,1,1,0,1,1,1,0,1,1,1,2,1,1,1,0,1,1,1,2,1,1,1,0,1,1,1,2,1,1,1,6,6,6,6,6,6,6,7,7,1] [.at (.call (.builtin "dict.__setitem__") ⟨[(.ref nd),(.str c tl),(.int v tv)],[]⟩) ⟨C::((n+1),tupO [])::F::E::B::A::(nd,dctO es1 ep3)::rest,(n+3),(t+2)⟩ (.ok (.ret .none)) ⟨C::((n+1),tupO [])::F::E::B::A::G::rest,(n+3),(t+3)⟩] (.ok (.again (.forLoop (tgtS D) (.ref it) (forB D) (elsS D) (envAt w 80 L)))) [4,5,6] 7 ⟨B::A::G::rest,(n+3),(t+3)⟩) (L,frN w nm80 ks [V0,V1,(.ref nd),(.str c tl),(.int v tv)]) (it,fldO "dict_itemiterator" f1) ((n+2),fldO "StopIteration" [(.ref (n+1)),.none,.none,.none,(.bool false),.none]) (fa,tupO [(.str c tl),(.int v tv)]) (n,fldO "tuple_iterator" [.none,(.int 2 0)]) (nd,dctO es2 (ep3+1)) (stAt (bodyOf (fdAt w 80)) 1):=by walk_at "r"
theorem ac2_l:∀(w:World) (n t L it fa nd tl tv ep3:Nat) (ks:Nat→Nat) (V0 V1 V3 V4:Value) (v:Int) (c:Str) (f1:List Value) (es1 es2:List DictEntry) (rest:List (Nat×Obj)),(fun(A B C D E G H I:Nat×Obj) (F:Stmt)=>GoodX w (tB F (.ref it) (.ref fa) (envAt w 80 L)) [] ⟨D::C::(L,frN w nm80 ks [V0,V1,(.ref nd),V3,V4])::G::rest,n,t⟩ [1,1,1,0,1,1,1,0,1,1,1,2,1,1,1,0,1,1,1,2,1,1,1,0,1,1,1,2,1,1,1,6,6,6,6,6,6,7,7,1,6,6,6,7,7,1] [.at (.call (.builtin "dict.__contains__") ⟨[(.ref nd),(.str c tl)],[]⟩) ⟨A::H::E::D::C::B::G::rest,(n+3),(t+2)⟩ (.ok (.ret (.bool false))) ⟨A::H::E::D::C::B::G::rest,(n+3),(t+3)⟩,.at (.call (.builtin "dict.__setitem__") ⟨[(.ref nd),(.str c tl),(.int v tv)],[]⟩) ⟨A::H::E::D::C::B::G::rest,(n+3),(t+3)⟩ (.ok (.ret .none)) ⟨A::H::E::D::C::B::I::rest,(n+3),(t+4)⟩] (.ok (.again (.forLoop (tgtS F) (.ref it) (forB F) (elsS F) (envAt w 80 L)))) [4,5,6] 7 ⟨C::B::I::rest,(n+3),(t+4)⟩) ((n+2),fldO "StopIteration" [(.ref (n+1)),.none,.none,.none,(.bool false),.none]) (L,frN w nm80 ks [V0,V1,(.ref nd),(.str c tl),(.int v tv)]) (it,fldO "dict_itemiterator" f1) (fa,tupO [(.str c tl),(.int v tv)]) (n,fldO "tuple_iterator" [.none,(.int 2 0)]) (nd,dctO es1 ep3) ((n+1),tupO []) (nd,dctO es2 (ep3+1)) (stAt (bodyOf (fdAt w 80)) 2):=by walk_at "r"
theorem ac_b:∀(w:World) (n t s1 t1 s2 t2 d e ep ep2 ep3 ep4:Nat) (ks ks2:Nat→Nat) (V3 V4 V5 V6:Value) (f1 f2:List Value) (es3 es4 es1 es2:List DictEntry) (rest rest1:List (Nat×Obj)),(fun(A B C D E F G H J:Nat×Obj) (I:Env)=>Good w (.func (bodyOf (fdAt w 80)) I) [((d+2),dctO es3 ep),((e+2),dctO es4 ep2)] ⟨[(n,frN w nm80 (tf t) [(.ref (d+2)),(.ref (e+2))])],(n+1),(t+2)⟩ [2,2,2,1001,1001,1001,1001,0,1001,1001,1,1,1,1,1,1,1002,1002,1002,1002,0,1002,1002,1,1,1,1,1,1] [.at (.call (.builtin "dict_items.__iter__") ⟨[(.ref (n+2))],[]⟩) ⟨[C,F,B],(n+3),(t+3)⟩ (.ok (.ret (.ref (n+3)))) ⟨[H,C,F,B],(n+4),(t+3)⟩,.at (loopC (stAt (bodyOf (fdAt w 80)) 1) (.ref (n+3)) I) ⟨[H,C,F,B],(n+4),(t+3)⟩ (.ok .next) ⟨A::E::rest,s1,t1⟩,.at (.call (.builtin "dict_items.__iter__") ⟨[(.ref s1)],[]⟩) ⟨D::A::E::rest,(s1+1),t1⟩ (.ok (.ret (.ref (s1+1)))) ⟨G::D::A::E::rest,(s1+2),t1⟩,.at (loopC (stAt (bodyOf (fdAt w 80)) 2) (.ref (s1+1)) I) ⟨G::D::A::E::rest,(s1+2),t1⟩ (.ok .next) ⟨(n,frN w nm80 ks2 [(.ref (d+2)),(.ref (e+2)),(.ref (n+1)),V3,V4])::J::rest1,s2,t2⟩] (.ok (.done (.ret (.ref (n+1))))) [1] 2 ⟨J::rest1,s2,t2⟩) (n,frN w nm80 ks [(.ref (d+2)),(.ref (e+2)),(.ref (n+1)),V5,V6]) (n,frN w nm80 (tf t) [(.ref (d+2)),(.ref (e+2)),(.ref (n+1))]) ((n+2),fldO "dict_items" [(.ref (d+2))]) (s1,fldO "dict_items" [(.ref (e+2))]) ((n+1),dctO es1 ep3) ((n+1),dctO [] 0) ((s1+1),fldO "dict_itemiterator" f2) ((n+3),fldO "dict_itemiterator" f1) ((n+1),dctO es2 ep4) (envAt w 80 n):=by walk_at "r"
theorem kz_eq (w:World) (p:Nat):kz w.params (ltr p)=(strKind P₀ w).hash (ltr p):=by
 show _=hashStr w (ltr p)
 unfold hashStr kz
 rw [if_neg (by rcases ltr_is p with h | h | h | h<;>rw [h]<;>decide),← PySem.W.ZFast.ze12210062019545310541]
theorem dc_keys (w:World) (l:List De):KeysOf (strKind P₀ w) (dcE w l).toArray:=by
 intro e he
 have he:e∈dcE w l:=by simpa using he
 obtain⟨x,_,rfl⟩:=List.mem_map.mp he
 exact⟨ltr x.p,by show (ltr x.p == ltr x.p)=true;exact beq_self_eq_true _,kz_eq w x.p⟩
theorem dc_none (w:World) {l:List De} {p:Nat} (hp:p < 4) (hl:∀ y∈l,y.p < 4∧y.p≠p):((dcE w l).toArray.findIdx? fun e=>(strKind P₀ w).is (ltr p) e.key)=none:=by
 rw [Array.findIdx?_eq_none_iff]
 intro e he
 have he:e∈dcE w l:=by simpa using he
 obtain⟨y,hy,rfl⟩:=List.mem_map.mp he
 show (ltr y.p == ltr p)=false
 rw [ltr_beq (hl y hy).1 hp]
 simpa using (hl y hy).2
section
variable {w:World} {h₀:Heap} {os:OsState}
theorem kt1 (w:World):∃ o,(ktop w.params).get 1=some o:=⟨o1 w.params,by kernel_rfl⟩
noncomputable def firstK (o:Obj):Option Str:=match o.data with
 | .dict es _=>match es[0]? with
  | some e=>match e.key with
   | .str x _=>some x
   | _=>none
  | none=>none
 | _=>none
noncomputable def firstAt (w:World) (a:Nat):Option Str:=match (ktop w.params).get a with
 | some o=>firstK o
 | none=>none
theorem fk0 (w:World):firstAt w 0=some (sO "__name__"):=by kernel_rfl
theorem fk1 (w:World):firstAt w 1=some (sO "builtins"):=by kernel_rfl
theorem not_mods (B:Base w h₀) {d:Nat} (h:h₀.get? d=none):(d == sysModules)=false:=by
 cases hd:(d == sysModules) with
 | false=>rfl
 | true =>
  have hd:d=1:=eq_of_beq hd
  subst hd
  obtain⟨o,ho⟩:=kt1 w
  rw [kt_at B.kt ho] at h
  cases h
theorem big_d (B:Base w h₀) {d:Nat} {x:De} {l:List De} (h:h₀.get? d=some (dcO w (x::l))):2≤d:=by
 have key:∀ a,firstAt w a≠none→d=a→firstAt w a=some (ltr x.p):=by
  rintro a ha rfl
  unfold firstAt at ha ⊢
  cases ho:(ktop w.params).get d with
  | none=>rw [ho] at ha;exact absurd rfl ha
  | some o =>
   rw [kt_at B.kt ho] at h
   cases h
   rfl
 rcases Nat.lt_or_ge d 2 with hlt | hge
 ·have:d=0∨d=1:=by exact oxh ‹_›
  rcases this with h0 | h1
  ·have:=key 0 (by rw [fk0];simp) h0
   rw [fk0] at this
   have:=Option.some.inj this
   rcases ltr_is x.p with e | e | e | e<;>rw [e] at this<;>exact absurd this (by decide)
  ·have:=key 1 (by rw [fk1];simp) h1
   rw [fk1] at this
   have:=Option.some.inj this
   rcases ltr_is x.p with e | e | e | e<;>rw [e] at this<;>exact absurd this (by decide)
 ·exact hge
theorem typeIs_dict {s:Shared} {d:Nat} {es:List DictEntry} {ep:Nat} (h:s.heap.get? d=some (dctO es ep)):s.TypeIs (.ref d) "dict":=⟨_,h,rfl⟩
theorem dset_ev {k:Nat} (d n t ep:Nat) (l:List De) (x:De) (hp:x.p < 4) (hl:∀ y∈l,y.p < 4∧y.p≠x.p) (hz:l.length≤100) :
  Spec w h₀ os k (.call (.builtin "dict.__setitem__") ⟨[.ref d,.str (ltr x.p) x.t,.int x.v x.u],[]⟩) ⟨[(d,dctO (dcE w l) ep)],n,t⟩ (.ok (.ret .none)) ⟨[(d,dctO (dcE w (l++[x])) (ep+1))],n,t+1⟩:=by
 intro A s R hA D q
 have ho:s.heap.get? d=some (dctO (dcE w l) ep):=(D.cell _ (.head _)).1
 have hT:=typeIs_dict ho
 have D':=(D.update (j:=0) (p:=(d,dctO (dcE w l) ep)) rfl (f:=Obj.mapDictKeys (·.push ⟨kz w.params (ltr x.p),.str (ltr x.p) x.t,.int x.v x.u⟩)) (by rfl)).fresh
 have e':Obj.mapDictKeys (·.push ⟨kz w.params (ltr x.p),.str (ltr x.p) x.t,.int x.v x.u⟩) (dctO (dcE w l) ep)=dctO (dcE w (l++[x])) (ep+1):=by
  unfold dctO Obj.mapDictKeys dcE
  simp [deE,ez]
 refine codeAny_call_builtin F.slot_dict_setitem.plain F.entry_dict_setitem (F.slot_dict_setitem.check _ _ _ _ _ _ _ _ hT (F.args_dict_setitem_3 _ _ _) ?_)
 show wpAny _ _ (Builtin.Dict.notOrdered "__setitem__" ⟨[.ref d,.str (ltr x.p) x.t,.int x.v x.u],[]⟩ >>= _) _ _ s
 refine wpAny_bind (wpAny_notOrdered_dict hT ?_)
 show wpAny _ _ (dictSet d (.str (ltr x.p) x.t) (.int x.v x.u) >>= _) _ _ s
 refine wpAny_bind ?_
 unfold dictSet
 try with_reducible refine wpAny_holding ?_
 have hkey:(strKind P₀ w).is (ltr x.p) (.str (ltr x.p) x.t)=true:=by show (ltr x.p == ltr x.p)=true;exact beq_self_eq_true _
 refine wpAny_bind ((strKind P₀ w).pyHash hkey ?_)
 unfold dictSetHashed
 try with_reducible refine wpAny_holding ?_
 refine wpAny_bind (wpAny_dictFind_of (s:={ s with toks:=s.toks+1 }) hkey ho rfl (dc_keys w l) ?_)
 rw [dc_none w hp hl]
 refine wpAny_bind (wpAny_rule (wpAny_updateDictKeys (hz:=by unfold dcE;simp only [List.size_toArray,List.length_map];rw [sizeLine_eq];exact Nat.le_trans ‹_› (by decide)) (s:={ s with toks:=s.toks+1 }) ho rfl ?_))
 rw [← kz_eq]
 refine wpAny_pure (q _ ?_)
 rw [← e']
 exact D'
theorem dhas_ev (B:Base w h₀) {k:Nat} (d n t ep:Nat) (l:List De) (p u:Nat) (hp:p < 4) (hl:∀ y∈l,y.p < 4∧y.p≠p) :
  Spec w h₀ os k (.call (.builtin "dict.__contains__") ⟨[.ref d,.str (ltr p) u],[]⟩) ⟨[(d,dctO (dcE w l) ep)],n,t⟩ (.ok (.ret (.bool false))) ⟨[(d,dctO (dcE w l) ep)],n,t+1⟩:=by
 intro A s R hA D q
 have ho:s.heap.get? d=some (dctO (dcE w l) ep):=(D.cell _ (.head _)).1
 have hT:=typeIs_dict ho
 have hd:(d == sysModules)=false:=by
  exact not_mods B (D.cell _ (.head _)).2
 refine codeAny_call_builtin F.slot_dict_contains.plain F.entry_dict_contains (F.slot_dict_contains.check _ _ _ _ _ _ _ _ hT (F.args_dict_contains_2 _ _) ?_)
 show wpAny _ _ (dictGet d (.str (ltr p) u) >>= _) _ _ s
 have hkey:(strKind P₀ w).is (ltr p) (.str (ltr p) u)=true:=by show (ltr p == ltr p)=true;exact beq_self_eq_true _
 refine wpAny_bind ?_
 unfold dictGet
 try with_reducible refine wpAny_holding ?_
 refine wpAny_bind ((strKind P₀ w).pyHash hkey (wpAny_bind (wpAny_dictFind_of (s:={ s with toks:=s.toks+1 }) hkey ho rfl (dc_keys w l) ?_)))
 rw [dc_none w hp hl]
 refine wpAny_pure ?_
 show wpAny _ _ (Builtin.Dict.pendingKey? d (.str (ltr p) u) >>= _) _ _ _
 exact wpAny_bind (wpAny_pendingKey_other hd (wpAny_pure (q _ D.fresh)))
end
noncomputable abbrev A1' (w:World):Stmt:=stAt (bodyOf (fdAt w 80)) 1
noncomputable abbrev A2' (w:World):Stmt:=stAt (bodyOf (fdAt w 80)) 2
noncomputable def itO (f:Value) (d i sz:Nat) (kv:Value×Value):Obj:=fldO "dict_itemiterator" [f,.bool false,.ref d,.int (i:Int) 0,.int (sz:Int) 0,.int (sz:Int) 0,kv.1,kv.2]
noncomputable def kvO (x:De):Value×Value:=(.str (ltr x.p) x.t,.int x.v x.u)
noncomputable def tuD (x:De):Obj:=tupO [.str (ltr x.p) x.t,.int x.v x.u]
noncomputable def kvAt (l:List De):Nat→Value×Value
 | 0=>(.none,.none)
 | i+1=>match l[i]? with
  | some x=>kvO x
  | none=>(.none,.none)
section
variable {w:World} {h₀:Heap} {os:OsState}
theorem dnx (B:Base w h₀) {k:Nat} (it d n t:Nat):∀(l:List De) (i:Nat) (x:De),l.length≤3→l[i]?=some x→h₀.get? d=some (dcO w l) →
  Spec w h₀ os k (.call (.builtin "dict_itemiterator.__next__") ⟨[.ref it],[]⟩) ⟨[(it,itO .none d i l.length (kvAt l i))],n,t⟩ (.ok (.ret (.ref n))) ⟨[(n,tuD x),(it,itO (.int (n:Int) 0) d (i+1) l.length (kvO x))],n+1,t⟩
 | [],_,_,_,e,_=>nomatch e
 | [x0],0,x,_,e,f=>by
  obtain rfl:x0=x:=by simpa using e
  obtain⟨d',rfl⟩:∃ d',d=d'+2:=⟨d - 2,by have:=big_d B f;exact oxb ‹_›⟩
  exact good_p (dnx_1_0 w n t d' 0 it 0 x0.t x0.u x0.v (ltr x0.p) []) B (facts_nil.cons f)
 | [x0],i+1,x,_,e,_=>by simp at e
 | [x0,x1],0,x,_,e,f=>by
  obtain rfl:x0=x:=by simpa using e
  obtain⟨d',rfl⟩:∃ d',d=d'+2:=⟨d - 2,by have:=big_d B f;exact oxb ‹_›⟩
  exact good_p (dnx_2_0 w n t d' 0 it 0 x0.t x0.u x1.t x1.u x0.v x1.v (ltr x0.p) (ltr x1.p) []) B (facts_nil.cons f)
 | [x0,x1],1,x,_,e,f=>by
  obtain rfl:x1=x:=by simpa using e
  obtain⟨d',rfl⟩:∃ d',d=d'+2:=⟨d - 2,by have:=big_d B f;exact oxb ‹_›⟩
  exact good_p (dnx_2_1 w n t d' 0 it 0 x0.t x0.u x1.t x1.u x0.v x1.v (ltr x0.p) (ltr x1.p) []) B (facts_nil.cons f)
 | [x0,x1],i+2,x,_,e,_=>by simp at e
 | [x0,x1,x2],0,x,_,e,f=>by
  obtain rfl:x0=x:=by simpa using e
  obtain⟨d',rfl⟩:∃ d',d=d'+2:=⟨d - 2,by have:=big_d B f;exact oxb ‹_›⟩
  exact good_p (dnx_3_0 w n t d' 0 it 0 x0.t x0.u x1.t x1.u x2.t x2.u x0.v x1.v x2.v (ltr x0.p) (ltr x1.p) (ltr x2.p) []) B (facts_nil.cons f)
 | [x0,x1,x2],1,x,_,e,f=>by
  obtain rfl:x1=x:=by simpa using e
  obtain⟨d',rfl⟩:∃ d',d=d'+2:=⟨d - 2,by have:=big_d B f;exact oxb ‹_›⟩
  exact good_p (dnx_3_1 w n t d' 0 it 0 x0.t x0.u x1.t x1.u x2.t x2.u x0.v x1.v x2.v (ltr x0.p) (ltr x1.p) (ltr x2.p) []) B (facts_nil.cons f)
 | [x0,x1,x2],2,x,_,e,f=>by
  obtain rfl:x2=x:=by simpa using e
  obtain⟨d',rfl⟩:∃ d',d=d'+2:=⟨d - 2,by have:=big_d B f;exact oxb ‹_›⟩
  exact good_p (dnx_3_2 w n t d' 0 it 0 x0.t x0.u x1.t x1.u x2.t x2.u x0.v x1.v x2.v (ltr x0.p) (ltr x1.p) (ltr x2.p) []) B (facts_nil.cons f)
 | [x0,x1,x2],i+3,x,_,e,_=>by simp at e
 | _::_::_::_::_,_,_,h,_,_=>absurd h (by simp only [List.length_cons];omega)
theorem dne (B:Base w h₀) {k:Nat} (it d n t:Nat) (kv:Value×Value):∀(l:List De) (i:Nat),1≤l.length→l.length≤3→i=l.length→h₀.get? d=some (dcO w l) →
  Spec w h₀ os k (.call (.builtin "dict_itemiterator.__next__") ⟨[.ref it],[]⟩) ⟨[(it,itO .none d i l.length kv)],n,t⟩ (.error (.ref (n+1))) ⟨[(n+1,fldO "StopIteration" [.ref n,.none,.none,.none,.bool false,.none]),(it,fldO "dict_itemiterator" [.none,.bool false,.none,.int (i:Int) 0,.int (l.length:Int) 0,.int (l.length:Int) 0,kv.1,kv.2])],n+2,t⟩
 | [],_,h,_,_,_=>absurd h (by decide)
 | [x0],i,_,_,e,f=>by
  subst e
  obtain⟨d',rfl⟩:∃ d',d=d'+2:=⟨d - 2,by have:=big_d B f;exact oxb ‹_›⟩
  refine SpecE.less (good_p (dnx_1_1 w n t d' 0 it 0 x0.t x0.u x0.v (ltr x0.p) kv.1 kv.2 []) B (facts_nil.cons f)) (.cons₂ _ (.cons _ (List.Sublist.refl _))) rfl rfl
 | [x0,x1],i,_,_,e,f=>by
  subst e
  obtain⟨d',rfl⟩:∃ d',d=d'+2:=⟨d - 2,by have:=big_d B f;exact oxb ‹_›⟩
  refine SpecE.less (good_p (dnx_2_2 w n t d' 0 it 0 x0.t x0.u x1.t x1.u x0.v x1.v (ltr x0.p) (ltr x1.p) kv.1 kv.2 []) B (facts_nil.cons f)) (.cons₂ _ (.cons _ (List.Sublist.refl _))) rfl rfl
 | [x0,x1,x2],i,_,_,e,f=>by
  subst e
  obtain⟨d',rfl⟩:∃ d',d=d'+2:=⟨d - 2,by have:=big_d B f;exact oxb ‹_›⟩
  refine SpecE.less (good_p (dnx_3_3 w n t d' 0 it 0 x0.t x0.u x1.t x1.u x2.t x2.u x0.v x1.v x2.v (ltr x0.p) (ltr x1.p) (ltr x2.p) kv.1 kv.2 []) B (facts_nil.cons f)) (.cons₂ _ (.cons _ (List.Sublist.refl _))) rfl rfl
 | _::_::_::_::_,_,_,h,_,_=>absurd h (by simp only [List.length_cons];omega)
theorem dit (B:Base w h₀) {k:Nat} (x d n t:Nat):∀(l:List De),1≤l.length→l.length≤3→h₀.get? d=some (dcO w l) →
  Spec w h₀ os k (.call (.builtin "dict_items.__iter__") ⟨[.ref x],[]⟩) ⟨[(x,fldO "dict_items" [.ref d])],n,t⟩ (.ok (.ret (.ref n))) ⟨[(n,itO .none d 0 l.length (kvAt l 0)),(x,fldO "dict_items" [.ref d])],n+1,t⟩
 | [],h,_,_=>absurd h (by decide)
 | [x0],_,_,f=>by
  obtain⟨d',rfl⟩:∃ d',d=d'+2:=⟨d - 2,by have:=big_d B f;exact oxb ‹_›⟩
  exact good_p (dit_1 w n t d' x 0 0 x0.t x0.u x0.v (ltr x0.p) []) B (facts_nil.cons f)
 | [x0,x1],_,_,f=>by
  obtain⟨d',rfl⟩:∃ d',d=d'+2:=⟨d - 2,by have:=big_d B f;exact oxb ‹_›⟩
  exact good_p (dit_2 w n t d' x 0 0 x0.t x0.u x1.t x1.u x0.v x1.v (ltr x0.p) (ltr x1.p) []) B (facts_nil.cons f)
 | [x0,x1,x2],_,_,f=>by
  obtain⟨d',rfl⟩:∃ d',d=d'+2:=⟨d - 2,by have:=big_d B f;exact oxb ‹_›⟩
  exact good_p (dit_3 w n t d' x 0 0 x0.t x0.u x1.t x1.u x2.t x2.u x0.v x1.v x2.v (ltr x0.p) (ltr x1.p) (ltr x2.p) []) B (facts_nil.cons f)
 | _::_::_::_::_,_,h,_=>absurd h (by simp only [List.length_cons];omega)
end
noncomputable def tupP:Expr→List Expr×Nat×Pos
 | .Tuple es x p=>(es,x,p)
 | _=>([],0,default)
noncomputable def ForIs (s:Stmt):Prop:=∀ it env,loopC s it env=.forLoop (tgtS s) it (forB s) (elsS s) env
theorem a1_for (w:World):ForIs (A1' w):=fun _ _=>by kernel_rfl
theorem a2_for (w:World):ForIs (A2' w):=fun _ _=>by kernel_rfl
theorem a1_tup (w:World):∃ es x p,tgtS (A1' w)=.Tuple es x p:=⟨(tupP (tgtS (A1' w))).1,(tupP (tgtS (A1' w))).2.1,(tupP (tgtS (A1' w))).2.2,by kernel_rfl⟩
theorem a2_tup (w:World):∃ es x p,tgtS (A2' w)=.Tuple es x p:=⟨(tupP (tgtS (A2' w))).1,(tupP (tgtS (A2' w))).2.1,(tupP (tgtS (A2' w))).2.2,by kernel_rfl⟩
structure DeOk (l:List De):Prop where
 lt:∀ y∈l,y.p < 4
 nd:(l.map (·.p)).Nodup
theorem DeOk.new {b l:List De} {i:Nat} {x:De} (h:DeOk (b++l)) (e:l[i]?=some x):x.p < 4∧∀ y∈b++l.take i,y.p < 4∧y.p≠x.p:=by
 have hm:x∈b++l:=List.mem_append_right _ (List.mem_of_getElem? e)
 obtain⟨hi,hx⟩:=List.getElem?_eq_some_iff.mp e
 have hs:b++l=(b++l.take i)++x::l.drop (i+1):=by
  rw [List.append_assoc,← hx,List.getElem_cons_drop,List.take_append_drop]
 refine⟨h.lt x hm,fun y hy=>⟨h.lt y (by rw [hs];exact List.mem_append_left _ hy),fun q=>?_⟩⟩
 have nd:=h.nd
 rw [hs,List.map_append,List.map_cons] at nd
 exact (List.nodup_append.mp nd).2.2 _ (List.mem_map_of_mem hy) _ (.head _) q
theorem kvAt_succ {l:List De} {i:Nat} {x:De} (e:l[i]?=some x):kvAt l (i+1)=kvO x:=by
 show (match l[i]? with
  | some x=>kvO x
  | none=>(.none,.none))=_
 rw [e]
theorem take_succ_at {l:List De} {i:Nat} {x:De} (e:l[i]?=some x):l.take (i+1)=l.take i++[x]:=by
 rw [List.take_add_one,e];rfl
section
variable {w:World} {os:OsState}
theorem al1 {k:Nat} (hk:k≤160) (L it d nd:Nat) (V0 V1:Value) (b l:List De) (h1:1≤l.length) (h3:l.length≤3) (hb:b.length≤3) (ok:DeOk (b++l)) (ks:Nat→Nat):∀(j i:Nat),i+j=l.length →
  ∀(V3 V4:Value) (ep n t:Nat),∃(V3' V4':Value) (n' t':Nat),∀(h₀:Heap),Base w h₀→h₀.get? d=some (dcO w l) →
   Spec w h₀ os k (loopC (A1' w) (.ref it) (envAt w 80 L)) ⟨[(it,itO .none d i l.length (kvAt l i)),(L,frN w nm80 ks [V0,V1,.ref nd,V3,V4]),(nd,dctO (dcE w (b++l.take i)) ep)],n,t⟩ (.ok .next)
    ⟨[(L,frN w nm80 ks [V0,V1,.ref nd,V3',V4']),(nd,dctO (dcE w (b++l)) (ep+j))],n',t'⟩
 | 0,i,hi=>by
  intro V3 V4 ep n t
  refine⟨V3,V4,n+2,t,fun h₀ B hd=>?_⟩
  have hi:i=l.length:=by assumption
  have ht:l.take i=l:=by rw [hi,List.take_length]
  rw [ht]
  exact good_h (ac1_e w n t (n+2) t L it (n+1) (.ref n) [.none,.bool false,.ref d,.int (i:Int) 0,.int (l.length:Int) 0,.int (l.length:Int) 0,(kvAt l i).1,(kvAt l i).2] [.none,.bool false,.none,.int (i:Int) 0,.int (l.length:Int) 0,.int (l.length:Int) 0,(kvAt l i).1,(kvAt l i).2] _ _) B facts_nil ⟨midH B (fun h₁ B1 K1 F1=>dne B1 it d n t (kvAt l i) l i h1 h3 hi (K1 _ _ hd)) rfl rfl,trivial⟩
 | j+1,i,hi=>by
  intro V3 V4 ep n t
  obtain⟨x,hx⟩:∃ x,l[i]?=some x:=⟨l[i]'(by exact ox1 ‹_›),List.getElem?_eq_getElem _⟩
  have hnew:=ok.new hx
  obtain⟨V3',V4',n',t',hnext⟩:=al1 hk L it d nd V0 V1 b l h1 h3 hb ok ks j (i+1) (by exact ox3 ‹_›) (.str (ltr x.p) x.t) (.int x.v x.u) (ep+1) (n+1+3) (t+3)
  refine⟨V3',V4',n',t',fun h₀ B hd=>?_⟩
  rw [show ep+(j+1)=ep+1+j by exact oxa]
  have gA:=dnA w n t it x.t x.u x.v (ltr x.p) [.none,.bool false,.ref d,.int ((i:Nat):Int) 0,.int (l.length:Int) 0,.int (l.length:Int) 0,(kvAt l i).1,(kvAt l i).2] [.int (n:Int) 0,.bool false,.ref d,.int ((i+1:Nat):Int) 0,.int (l.length:Int) 0,.int (l.length:Int) 0,(kvO x).1,(kvO x).2] [(L,frN w nm80 ks [V0,V1,.ref nd,V3,V4]),(nd,dctO (dcE w (b++l.take i)) ep)]
  have gB:=ac1_l w (n+1) t L it n nd x.t x.u ep ks V0 V1 V3 V4 x.v (ltr x.p) [.none,.bool false,.ref d,.int ((i+1:Nat):Int) 0,.int (l.length:Int) 0,.int (l.length:Int) 0,(kvO x).1,(kvO x).2] (dcE w (b++l.take i)) (dcE w (b++l.take i++[x])) []
  refine spec_owned (j:=1) (fs:=[.bool false,.ref d,.int ((i+1:Nat):Int) 0,.int (l.length:Int) 0,.int (l.length:Int) 0,(kvO x).1,(kvO x).2]) B (a1_for w _ _) (a1_tup w) gA rfl gB facts_nil ⟨?_,trivial⟩ ⟨?_,trivial⟩ ?_
  ·exact midH B (fun h₁ B1 K1 F1=>dnx B1 it d n t l i x h3 hx (K1 _ _ hd)) rfl rfl
  ·exact mid [_,_,_,_,_,_] [] (fun rest=>spec_frz B fun h₁ B1 _ _=>dset_ev nd (n+1+3) (t+2) ep (b++l.take i) x hnew.1 hnew.2 (by rw [List.length_append,List.length_take];omega))
  ·have:=hnext h₀ B hd
   rw [kvAt_succ hx,take_succ_at hx,← List.append_assoc] at this
   exact this
theorem al2 {k:Nat} (hk:k≤160) (L it d nd:Nat) (V0 V1:Value) (b l:List De) (h1:1≤l.length) (h3:l.length≤3) (hb:b.length≤3) (ok:DeOk (b++l)) (ks:Nat→Nat):∀(j i:Nat),i+j=l.length →
  ∀(V3 V4:Value) (ep n t:Nat),∃(V3' V4':Value) (n' t':Nat),∀(h₀:Heap),Base w h₀→h₀.get? d=some (dcO w l) →
   Spec w h₀ os k (loopC (A2' w) (.ref it) (envAt w 80 L)) ⟨[(it,itO .none d i l.length (kvAt l i)),(L,frN w nm80 ks [V0,V1,.ref nd,V3,V4]),(nd,dctO (dcE w (b++l.take i)) ep)],n,t⟩ (.ok .next)
    ⟨[(L,frN w nm80 ks [V0,V1,.ref nd,V3',V4']),(nd,dctO (dcE w (b++l)) (ep+j))],n',t'⟩
 | 0,i,hi=>by
  intro V3 V4 ep n t
  refine⟨V3,V4,n+2,t,fun h₀ B hd=>?_⟩
  have hi:i=l.length:=by assumption
  have ht:l.take i=l:=by rw [hi,List.take_length]
  rw [ht]
  exact good_h (ac2_e w n t (n+2) t L it (n+1) (.ref n) [.none,.bool false,.ref d,.int (i:Int) 0,.int (l.length:Int) 0,.int (l.length:Int) 0,(kvAt l i).1,(kvAt l i).2] [.none,.bool false,.none,.int (i:Int) 0,.int (l.length:Int) 0,.int (l.length:Int) 0,(kvAt l i).1,(kvAt l i).2] _ _) B facts_nil ⟨midH B (fun h₁ B1 K1 F1=>dne B1 it d n t (kvAt l i) l i h1 h3 hi (K1 _ _ hd)) rfl rfl,trivial⟩
 | j+1,i,hi=>by
  intro V3 V4 ep n t
  obtain⟨x,hx⟩:∃ x,l[i]?=some x:=⟨l[i]'(by exact ox1 ‹_›),List.getElem?_eq_getElem _⟩
  have hnew:=ok.new hx
  obtain⟨V3',V4',n',t',hnext⟩:=al2 hk L it d nd V0 V1 b l h1 h3 hb ok ks j (i+1) (by exact ox3 ‹_›) (.str (ltr x.p) x.t) (.int x.v x.u) (ep+1) (n+1+3) (t+4)
  refine⟨V3',V4',n',t',fun h₀ B hd=>?_⟩
  rw [show ep+(j+1)=ep+1+j by exact oxa]
  have gA:=dnA w n t it x.t x.u x.v (ltr x.p) [.none,.bool false,.ref d,.int ((i:Nat):Int) 0,.int (l.length:Int) 0,.int (l.length:Int) 0,(kvAt l i).1,(kvAt l i).2] [.int (n:Int) 0,.bool false,.ref d,.int ((i+1:Nat):Int) 0,.int (l.length:Int) 0,.int (l.length:Int) 0,(kvO x).1,(kvO x).2] [(L,frN w nm80 ks [V0,V1,.ref nd,V3,V4]),(nd,dctO (dcE w (b++l.take i)) ep)]
  have gB:=ac2_l w (n+1) t L it n nd x.t x.u ep ks V0 V1 V3 V4 x.v (ltr x.p) [.none,.bool false,.ref d,.int ((i+1:Nat):Int) 0,.int (l.length:Int) 0,.int (l.length:Int) 0,(kvO x).1,(kvO x).2] (dcE w (b++l.take i)) (dcE w (b++l.take i++[x])) []
  refine spec_owned (j:=1) (fs:=[.bool false,.ref d,.int ((i+1:Nat):Int) 0,.int (l.length:Int) 0,.int (l.length:Int) 0,(kvO x).1,(kvO x).2]) B (a2_for w _ _) (a2_tup w) gA rfl gB facts_nil ⟨?_,trivial⟩ ⟨?_,?_,trivial⟩ ?_
  ·exact midH B (fun h₁ B1 K1 F1=>dnx B1 it d n t l i x h3 hx (K1 _ _ hd)) rfl rfl
  ·exact mid [_,_,_,_,_,_] [] (fun rest=>spec_frz B fun h₁ B1 _ _=>dhas_ev B1 nd (n+1+3) (t+2) ep (b++l.take i) x.p x.t hnew.1 hnew.2)
  ·exact mid [_,_,_,_,_,_] [] (fun rest=>spec_frz B fun h₁ B1 _ _=>dset_ev nd (n+1+3) (t+3) ep (b++l.take i) x hnew.1 hnew.2 (by rw [List.length_append,List.length_take];omega))
  ·have:=hnext h₀ B hd
   rw [kvAt_succ hx,take_succ_at hx,← List.append_assoc] at this
   exact this
theorem al1_all {k:Nat} (hk:k≤160) (L it d nd:Nat) (V0 V1:Value) (l:List De) (h1:1≤l.length) (h3:l.length≤3) (ok:DeOk l) (ks:Nat→Nat) (n t:Nat) :
  ∃(V3' V4':Value) (n' t':Nat),∀(h₀:Heap),Base w h₀→h₀.get? d=some (dcO w l) →
   Spec w h₀ os k (loopC (A1' w) (.ref it) (envAt w 80 L)) ⟨[(it,itO .none d 0 l.length (kvAt l 0)),(L,frN w nm80 ks [V0,V1,.ref nd]),(nd,dctO [] 0)],n,t⟩ (.ok .next)
    ⟨[(L,frN w nm80 (upd (upd ks 3 t) 4 (t+1)) [V0,V1,.ref nd,V3',V4']),(nd,dctO (dcE w l) l.length)],n',t'⟩:=by
 obtain⟨x,hx⟩:∃ x,l[0]?=some x:=⟨l[0]'(by assumption),List.getElem?_eq_getElem _⟩
 obtain⟨b,hb⟩:∃ b:List De,b=[]:=⟨_,rfl⟩
 obtain⟨ep,hep⟩:∃ ep:Nat,ep=0:=⟨_,rfl⟩
 obtain⟨j,hj⟩:∃ j,l.length=j+1:=⟨l.length - 1,by exact oxc ‹_› (by decide)⟩
 have ok':DeOk (b++l):=by rw [hb];exact ok
 have hbl:b.length≤3:=by rw [hb];decide
 have hnew:=ok'.new hx
 obtain⟨V3',V4',n',t',hnext⟩:=al1 (w:=w) (os:=os) hk L it d nd V0 V1 b l h1 h3 hbl ok' (upd (upd ks 3 t) 4 (t+1)) j (0+1) (by omega) (.str (ltr x.p) x.t) (.int x.v x.u) (ep+1) (n+1+3) (t+3)
 refine⟨V3',V4',n',t',fun h₀ B hd=>?_⟩
 rw [show dctO [] 0=dctO (dcE w (b++l.take 0)) ep by rw [hb,hep];rfl,show dctO (dcE w l) l.length=dctO (dcE w (b++l)) (ep+1+j) by rw [hb,hep,hj];congr 1;exact oxd.symm]
 have gA:=dnA w n t it x.t x.u x.v (ltr x.p) [.none,.bool false,.ref d,.int ((0:Nat):Int) 0,.int (l.length:Int) 0,.int (l.length:Int) 0,(kvAt l 0).1,(kvAt l 0).2] [.int (n:Int) 0,.bool false,.ref d,.int ((0+1:Nat):Int) 0,.int (l.length:Int) 0,.int (l.length:Int) 0,(kvO x).1,(kvO x).2] [(L,frN w nm80 ks [V0,V1,.ref nd]),(nd,dctO (dcE w (b++l.take 0)) ep)]
 have gB:=ac1_f w (n+1) t L it n nd x.t x.u ep ks V0 V1 x.v (ltr x.p) [.none,.bool false,.ref d,.int ((0+1:Nat):Int) 0,.int (l.length:Int) 0,.int (l.length:Int) 0,(kvO x).1,(kvO x).2] (dcE w (b++l.take 0)) (dcE w (b++l.take 0++[x])) []
 refine spec_owned (j:=1) (fs:=[.bool false,.ref d,.int ((0+1:Nat):Int) 0,.int (l.length:Int) 0,.int (l.length:Int) 0,(kvO x).1,(kvO x).2]) B (a1_for w _ _) (a1_tup w) gA rfl gB facts_nil ⟨?_,trivial⟩ ⟨?_,trivial⟩ ?_
 ·exact midH B (fun h₁ B1 K1 F1=>dnx B1 it d n t l 0 x h3 hx (K1 _ _ hd)) rfl rfl
 ·exact mid [_,_,_,_,_,_] [] (fun rest=>spec_frz B fun h₁ B1 _ _=>dset_ev nd (n+1+3) (t+2) ep (b++l.take 0) x hnew.1 hnew.2 (by rw [List.length_append,List.length_take];exact Nat.le_trans ‹_› (by decide)))
 ·have:=hnext h₀ B hd
  rw [kvAt_succ hx,take_succ_at hx,← List.append_assoc] at this
  exact this
theorem addc_ok {k:Nat} (hk:k≤120) (d e n t:Nat) (l1 l2:List De) (h1:1≤l1.length) (h13:l1.length≤3) (h2:1≤l2.length) (h23:l2.length≤3) (ok:DeOk (l1++l2)) :
  ∃(nd n' t':Nat),∀(h₀:Heap),Base w h₀→h₀.get? d=some (dcO w l1)→h₀.get? e=some (dcO w l2) →
   Spec w h₀ os k (.call (.ref 80) ⟨[.ref d,.ref e],[]⟩) ⟨[],n,t⟩ (.ok (.ret (.ref nd))) ⟨[(nd,dcO w (l1++l2))],n',t'⟩:=by
 have ok1:DeOk l1:=⟨fun y hy=>ok.lt y (List.mem_append_left _ hy),by have:=ok.nd;rw [List.map_append] at this;exact (List.nodup_append.mp this).1⟩
 obtain⟨V5,V6,n1,t1,hl1⟩:=al1_all (w:=w) (os:=os) (k:=k+21) (by exact Nat.le_trans (Nat.add_le_add_right ‹_› _) (by decide)) n (n+3) d (n+1) (.ref d) (.ref e) l1 h1 h13 ok1 (upd (tf t) 2 (t+2)) (n+4) (t+3)
 obtain⟨V3,V4,n2,t2,hl2⟩:=al2 (w:=w) (os:=os) (k:=k+21) (by exact Nat.le_trans (Nat.add_le_add_right ‹_› _) (by decide)) n (n1+1) e (n+1) (.ref d) (.ref e) l1 l2 h2 h23 h13 ok (upd (upd (upd (tf t) 2 (t+2)) 3 (t+3)) 4 (t+3+1)) l2.length 0 (by exact Nat.zero_add _) V5 V6 l1.length (n1+2) t1
 refine⟨n+1,n2,t2,fun h₀ B f1 f2=>?_⟩
 have q1:∃ d',d=d'+2:=by
  match l1,h1,f1 with
  | x::l,_,f1=>exact⟨d - 2,by have:=big_d B f1;exact oxb ‹_›⟩
 have q2:∃ e',e=e'+2:=by
  match l2,h2,f2 with
  | x::l,_,f2=>exact⟨e - 2,by have:=big_d B f2;exact oxb ‹_›⟩
 obtain⟨d',rfl⟩:=q1
 obtain⟨e',rfl⟩:=q2
 refine ac_in B (by exact Nat.le_trans ‹_› (by decide)) d' e' n t [] ?_
 have gR:=ac_b w n t n1 t1 n2 t2 d' e' l1.length l2.length l1.length (l1.length+l2.length) (upd (upd (upd (tf t) 2 (t+2)) 3 (t+3)) 4 (t+3+1)) (upd (upd (upd (tf t) 2 (t+2)) 3 (t+3)) 4 (t+3+1)) V3 V4 V5 V6 [.none,.bool false,.ref (d'+2),.int ((0:Nat):Int) 0,.int (l1.length:Int) 0,.int (l1.length:Int) 0,.none,.none] [.none,.bool false,.ref (e'+2),.int ((0:Nat):Int) 0,.int (l2.length:Int) 0,.int (l2.length:Int) 0,.none,.none] (dcE w l1) (dcE w l2) (dcE w l1) (dcE w (l1++l2)) [] []
 have hfin:(⟨[(n+1,dcO w (l1++l2))],n2,t2⟩:SM)=⟨(n+1,dctO (dcE w (l1++l2)) (l1.length+l2.length))::[],n2,t2⟩:=by unfold dcO;rw [List.length_append]
 rw [hfin]
 refine good_done gR B ((facts_nil.cons f2).cons f1) ⟨?_,?_,?_,?_,trivial⟩
 ·exact midH B (T:=[(n+2,fldO "dict_items" [.ref (d'+2)])]) (T':=[(n+3,itO .none (d'+2) 0 l1.length (kvAt l1 0)),(n+2,fldO "dict_items" [.ref (d'+2)])]) (fun h₁ B1 K1 F1=>dit B1 (n+2) (d'+2) (n+3) (t+3) l1 h1 h13 (K1 _ _ f1)) rfl rfl
 ·refine use B [(n+2,fldO "dict_items" [.ref (d'+2)])] [(n+2,fldO "dict_items" [.ref (d'+2)])] (fun z=>?_) (fun z=>?_) (fun h₁ B1 K1 F1=>hl1 h₁ B1 (K1 _ _ f1))
  ·rw [show itO .none (d'+2) 0 l1.length (kvAt l1 0)=fldO "dict_itemiterator" [.none,.bool false,.ref (d'+2),.int ((0:Nat):Int) 0,.int (l1.length:Int) 0,.int (l1.length:Int) 0,.none,.none] from rfl]
   simp only [cnt_cons,cnt_nil];try ac_rfl
  ·simp only [cnt_cons,cnt_nil];try ac_rfl
 ·exact midH B (T:=[(n1,fldO "dict_items" [.ref (e'+2)])]) (T':=[(n1+1,itO .none (e'+2) 0 l2.length (kvAt l2 0)),(n1,fldO "dict_items" [.ref (e'+2)])]) (fun h₁ B1 K1 F1=>dit B1 n1 (e'+2) (n1+1) t1 l2 h2 h23 (K1 _ _ f2)) rfl rfl
 ·refine use B [(n1,fldO "dict_items" [.ref (e'+2)])] [(n1,fldO "dict_items" [.ref (e'+2)])] (fun z=>?_) (fun z=>?_) (fun h₁ B1 K1 F1=>hl2 h₁ B1 (K1 _ _ f2))
  ·rw [show itO .none (e'+2) 0 l2.length (kvAt l2 0)=fldO "dict_itemiterator" [.none,.bool false,.ref (e'+2),.int ((0:Nat):Int) 0,.int (l2.length:Int) 0,.int (l2.length:Int) 0,.none,.none] from rfl,List.take_zero,List.append_nil]
   simp only [cnt_cons,cnt_nil];try ac_rfl
  ·simp only [cnt_cons,cnt_nil];try ac_rfl
end
noncomputable def nm73:List Str:=[sO "target",sO "source",sO "cc",sO "nc",sO "tt",sO "ct",sO "callers",sO "t_cc",sO "t_nc",sO "t_tt",sO "t_ct",sO "t_callers"]
noncomputable def nm272:List Str:=[sO "lists",sO "p",sO "q",sO "place",sO "letter",sO "entry"]
theorem afs_in {w:World} {h₀:Heap} {os:OsState} (B:Base w h₀) {k:Nat} (hk:k≤200) (e f:Nat) (n t:Nat) (rest:List (Nat×Obj)) {r:Result} {m':SM}
  (h:Spec w h₀ os k (.func (bodyOf (fdAt w 73)) (envAt w 73 n)) ⟨(n,frN w nm73 (tf t) [(.ref e),(.ref f)])::rest,n+1,t+2⟩ r m') :
  Spec w h₀ os k (.call (.ref 73) ⟨[.ref e,.ref f],[]⟩) ⟨rest,n,t⟩ r m' :=
 spec_fn B (by kernel_rfl) (show RT3 (runT w (bindZ (fdAt w 73) ⟨[.ref e,.ref f],[]⟩) ⟨rest,n,t⟩ []) (.ok [((sO "target"),(.ref e)),((sO "source"),(.ref f))]) ⟨rest,n,t⟩ from⟨by kernel_rfl,by kernel_rfl,by kernel_rfl⟩)
  (show RT3 (runT w (envZ (fdAt w 73).scope (fdAt w 73).globals (fdAt w 73).closure [((sO "target"),(.ref e)),((sO "source"),(.ref f))] ((fdAt w 73).qualname++sO ".<locals>.") (some 73) (fdAt w 73).code none (fdAt w 73).builtins) ⟨rest,n,t⟩ [1,1,1,1]) (.ok (envAt w 73 n)) ⟨(n,frN w nm73 (tf t) [(.ref e),(.ref f)])::rest,n+1,t+2⟩ from⟨by kernel_rfl,by kernel_rfl,by kernel_rfl⟩) h hk
theorem afs_b:∀(w:World) (n t s1 t1 e f d1 d2 nd t0 t1' t2 t3 u0 u1 u2 u3:Nat) (v0 v1 v2 v3 r0 r1 r2 r3:Int) (rest:List (Nat×Obj)),(fun(A B C D E:Nat×Obj)=>Good w (.func (bodyOf (fdAt w 73)) (envAt w 73 n)) [(e,tupO [(.int v0 t0),(.int v1 t1'),(.int v2 t2),(.int v3 t3),(.ref d1)]),(f,tupO [(.int r0 u0),(.int r1 u1),(.int r2 u2),(.int r3 u3),(.ref d2)])] ⟨[(n,frN w nm73 (tf t) [(.ref e),(.ref f)])],(n+1),(t+2)⟩ [1,1002,1002,1002,0,1002,1,1,0,1,1,1,1002,1,1,1,0,1,1,1,1002,1,1,1,0,1,1,1,1002,1,1,1,0,1,1,1,1002,1,1,1,0,1,1,1,1002,1,1,1,0,1,1,1,1002,1,1,1,4,4,4,4,4,4,4,4,4,4,4,1001,1001,1001,0,1001,1,1,0,1,1,1,1001,1,1,1,0,1,1,1,1001,1,1,1,0,1,1,1,1001,1,1,1,0,1,1,1,1001,1,1,1,0,1,1,1,1001,1,1,1,0,1,1,1,1001,1,1,1,7,7,7,7,7,7,7,7,7,7,7,7,1,7,7,1,7,7,1,7,7,1,0,7,7,0,1] [.any (.call (.builtin "int.__add__") ⟨[(.int r0 u0),(.int v0 t0)],[]⟩) (aInt (r0+v0)),.any (.call (.builtin "int.__add__") ⟨[(.int r1 u1),(.int v1 t1')],[]⟩) (aInt (r1+v1)),.any (.call (.builtin "int.__add__") ⟨[(.int r2 u2),(.int v2 t2)],[]⟩) (aInt (r2+v2)),.any (.call (.builtin "int.__add__") ⟨[(.int r3 u3),(.int v3 t3)],[]⟩) (aInt (r3+v3)),.at (.call (.ref 80) ⟨[(.ref d1),(.ref d2)],[]⟩) ⟨[B,((n+5),tupO []),D,C,((n+2),tupO []),E,A],(n+7),(t+16)⟩ (.ok (.ret (.ref nd))) ⟨B::((n+5),tupO [])::D::C::((n+2),tupO [])::E::A::rest,s1,t1⟩] (.ok (.done (.ret (.ref s1)))) [0] 8 ⟨(s1,tupO [(.int (r0+v0) (t+12)),(.int (r1+v1) (t+13)),(.int (r2+v2) (t+14)),(.int (r3+v3) (t+15)),(.ref nd)])::rest,(s1+1),t1⟩) (n,frN w nm73 (tf t) [(.ref e),(.ref f),(.int r0 u0),(.int r1 u1),(.int r2 u2),(.int r3 u3),(.ref d2),(.int v0 t0),(.int v1 t1'),(.int v2 t2),(.int v3 t3),(.ref d1)]) ((n+6),fldO "StopIteration" [(.ref (n+5)),.none,.none,.none,(.bool false),.none]) ((n+3),fldO "StopIteration" [(.ref (n+2)),.none,.none,.none,(.bool false),.none]) ((n+4),fldO "tuple_iterator" [.none,(.int 5 0)]) ((n+1),fldO "tuple_iterator" [.none,(.int 5 0)]):=by walk_at "r"
theorem joi_in {w:World} {h₀:Heap} {os:OsState} (B:Base w h₀) {k:Nat} (hk:k≤200) (la tq tm:Nat) (p q:Int) (n t:Nat) (rest:List (Nat×Obj)) {r:Result} {m':SM}
  (h:Spec w h₀ os k (.func (bodyOf (fdAt w 272)) (envAt w 272 n)) ⟨(n,frN w nm272 (tf t) [(.ref la),(.int p tq),(.int q tm)])::rest,n+1,t+3⟩ r m') :
  Spec w h₀ os k (.call (.ref 272) ⟨[.ref la,.int p tq,.int q tm],[]⟩) ⟨rest,n,t⟩ r m' :=
 spec_fn B (by kernel_rfl) (show RT3 (runT w (bindZ (fdAt w 272) ⟨[.ref la,.int p tq,.int q tm],[]⟩) ⟨rest,n,t⟩ []) (.ok [((sO "lists"),(.ref la)),((sO "p"),(.int p tq)),((sO "q"),(.int q tm))]) ⟨rest,n,t⟩ from⟨by kernel_rfl,by kernel_rfl,by kernel_rfl⟩)
  (show RT3 (runT w (envZ (fdAt w 272).scope (fdAt w 272).globals (fdAt w 272).closure [((sO "lists"),(.ref la)),((sO "p"),(.int p tq)),((sO "q"),(.int q tm))] ((fdAt w 272).qualname++sO ".<locals>.") (some 272) (fdAt w 272).code none (fdAt w 272).builtins) ⟨rest,n,t⟩ [1,1,1,1,1,1]) (.ok (envAt w 272 n)) ⟨(n,frN w nm272 (tf t) [(.ref la),(.int p tq),(.int q tm)])::rest,n+1,t+3⟩ from⟨by kernel_rfl,by kernel_rfl,by kernel_rfl⟩) h hk
theorem joi_b:∀(w:World) (n t s1 t1 la le a b e f tp tl tq tm ne tb td w0 w1 w2 w3 w4 w5:Nat) (p q x y:Int) (c b':Str) (l1 l2 l3 l4 l5 l6 va:List Value) (rest:List (Nat×Obj)),(fun(A B C D E F G H I J K L M N O:Nat×Obj)=>Good w (.func (bodyOf (fdAt w 272)) (envAt w 272 n)) [(la,lstO va le),(a,tupO [(.int x tp),(.str c tl),(.ref e)]),(b,tupO [(.int y tb),(.str b' td),(.ref f)])] ⟨[K],(n+1),(t+3)⟩ [1,1,1001,1001,1001,1,1002,1002,1002,0,1002,1,1,0,1,1,1,1002,1,1,1,0,1,1,1,1002,1,1,1,0,1,1,1,1002,1,1,1,0,1,1,1,1002,1,1,1,4,4,4,4,4,4,4,4,1001,1001,1001,1,6,6,0,6,6,6,1001,1001,1001,1,1003,1003,1003,0,1003,1003,0,0,1,3,1,3,1,9,9,1,9,1001,1001,1001,1,3,1,3,1,12,12,1,1001,1001,1001,1,3,1,3,1] [.at (.call (.builtin "list.__getitem__") ⟨[(.ref la),(.int p tq)],[]⟩) ⟨[K],(n+1),(t+3)⟩ (.ok (.ret (.ref a))) ⟨[K],(n+1),(t+3)⟩,.at (.call (.builtin "list.__getitem__") ⟨[(.ref la),(.ref (n+4))],[]⟩) ⟨[D,B,H,C,A],(n+5),(t+6)⟩ (.ok (.ret (.ref w0))) ⟨[I,D,B,H,C,A],(n+6),(t+6)⟩,.at (.call (.builtin "list.__getitem__") ⟨[(.ref la),(.int q tm)],[]⟩) ⟨[I,D,B,H,C,A],(n+6),(t+6)⟩ (.ok (.ret (.ref b))) ⟨[I,D,B,H,C,A],(n+6),(t+6)⟩,.at (.call (.ref 73) ⟨[(.ref e),(.ref f)],[]⟩) ⟨[I,D,B,H,C,A],(n+6),(t+7)⟩ (.ok (.ret (.ref ne))) ⟨I::D::B::H::C::A::rest,s1,t1⟩,.at (.call (.builtin "list.__add__") ⟨[(.ref w0),(.ref (s1+1))],[]⟩) ⟨G::F::I::D::B::H::C::A::rest,(s1+2),t1⟩ (.ok (.ret (.ref w1))) ⟨L::G::F::I::D::B::H::C::A::rest,(s1+3),t1⟩,.any (.call (.builtin "int.__add__") ⟨[(.int p tq),(.int 1 t1)],[]⟩) (aInt (p+1)),.at (.call (.builtin "list.__getitem__") ⟨[(.ref la),(.ref (s1+3))],[]⟩) ⟨E::L::G::F::I::D::B::H::C::A::rest,(s1+4),(t1+2)⟩ (.ok (.ret (.ref w2))) ⟨M::E::L::G::F::I::D::B::H::C::A::rest,(s1+5),(t1+2)⟩,.at (.call (.builtin "list.__add__") ⟨[(.ref w1),(.ref w2)],[]⟩) ⟨M::E::L::G::F::I::D::B::H::C::A::rest,(s1+5),(t1+2)⟩ (.ok (.ret (.ref w3))) ⟨N::M::E::L::G::F::I::D::B::H::C::A::rest,(s1+6),(t1+2)⟩,.any (.call (.builtin "int.__add__") ⟨[(.int q tm),(.int 1 (t1+2))],[]⟩) (aInt (q+1)),.at (.call (.builtin "list.__getitem__") ⟨[(.ref la),(.ref (s1+6))],[]⟩) ⟨J::N::M::E::L::G::F::I::D::B::H::C::A::rest,(s1+7),(t1+4)⟩ (.ok (.ret (.ref w4))) ⟨O::J::N::M::E::L::G::F::I::D::B::H::C::A::rest,(s1+8),(t1+4)⟩,.at (.call (.builtin "list.__add__") ⟨[(.ref w3),(.ref w4)],[]⟩) ⟨O::J::N::M::E::L::G::F::I::D::B::H::C::A::rest,(s1+8),(t1+4)⟩ (.ok (.ret (.ref w5))) ⟨(w5,lstO l6 0)::O::J::N::M::E::L::G::F::I::D::B::H::C::A::rest,(s1+9),(t1+4)⟩] (.ok (.done (.ret (.ref w5)))) [0,8] 15 ⟨(w5,lstO l6 0)::F::rest,(s1+9),(t1+4)⟩) (n,frN w nm272 (tf t) [(.ref la),(.int p tq),(.int q tm),(.int x tp),(.str c tl),(.ref e)]) ((n+3),fldO "StopIteration" [(.ref (n+2)),.none,.none,.none,(.bool false),.none]) ((n+1),fldO "tuple_iterator" [.none,(.int 3 0)]) ((n+4),fldO "slice" [.none,(.int p tq),.none]) ((s1+3),fldO "slice" [(.int (p+1) (t1+1)),(.int q tm),.none]) (s1,tupO [(.int x tp),(.str c tl),(.ref ne)]) ((s1+1),lstO [(.ref s1)] 0) ((n+2),tupO []) (w0,lstO l1 0) ((s1+6),fldO "slice" [(.int (q+1) (t1+3)),.none,.none]) (n,frN w nm272 (tf t) [(.ref la),(.int p tq),(.int q tm)]) (w1,lstO l2 0) (w2,lstO l3 0) (w3,lstO l4 0) (w4,lstO l5 0):=by walk_at "r"
section
variable {w:World} {h₀:Heap} {os:OsState}
theorem midT (B:Base w h₀) {k:Nat} {c:Code} {r:Result} {M M' T':List (Nat×Obj)} {n t n' t':Nat}
  (h:∀ h₁,Base w h₁→Keeps h₀ h₁→Facts h₁ M→Spec w h₁ os k c ⟨[],n,t⟩ r ⟨T',n',t'⟩) (e2:M'=M++T':=by rfl):Spec w h₀ os k c ⟨M,n,t⟩ r ⟨M',n',t'⟩:=by
 subst e2
 have z:Spec w h₀ os k c ⟨M,n,t⟩ r ⟨T'++M,n',t'⟩:=midH B (T:=[]) h rfl rfl
 exact SpecE.post z List.perm_append_comm rfl rfl
theorem cat_ev {k:Nat} (l e l' e' n t:Nat) (vs ws:List Value) (f1:h₀.get? l=some (lstO vs e)) (f2:h₀.get? l'=some (lstO ws e')) (hz:vs.length+ws.length≤100) :
  Spec w h₀ os k (.call (.builtin "list.__add__") ⟨[.ref l,.ref l'],[]⟩) ⟨[],n,t⟩ (.ok (.ret (.ref n))) ⟨[(n,lstO (vs++ws) 0)],n+1,t⟩:=by
 intro A s R hA D q
 have h1:s.heap.get? l=some (lstO vs e):=D.keep _ _ f1
 have h2:s.heap.get? l'=some (lstO ws e'):=D.keep _ _ f2
 refine codeAny_call_builtin F.slot_list_add.plain F.entry_list_add (F.slot_list_add.check _ _ _ _ _ _ _ _ ⟨_,h1,rfl⟩ (F.args_list_add_2 _ _) (AutoSeq1.list___add___list_list_0 l vs.toArray e l' ws.toArray e' (by rw [List.size_toArray,List.size_toArray,sizeLine_eq];exact Nat.le_trans ‹_› (by decide)) P₀ w A R s ⟨h1,h2,?_⟩))
 have D1:=D.alloc (o:=lstO (vs++ws) 0) (by rfl)
 have hs:s.heap.objs.size=n:=D.size
 have e:vs.toArray++ws.toArray=(vs++ws).toArray:=by simp
 rw [e,hs]
 exact q _ D1
theorem pick_mid (vs:List Value) (a b:Nat) (hb:b≤vs.length):kms_pick vs (some (a:Int)) (some (b:Int))=(vs.drop a).take (b - a):=by
 unfold kms_pick kms_lo kms_hi
 dsimp only
 rw [if_neg (by omega),if_neg (by omega),Int.toNat_natCast,Int.toNat_natCast,Nat.min_eq_left hb]
 by_cases h:a≤vs.length
 ·rw [Nat.min_eq_left h]
 ·rw [Nat.min_eq_right (by omega),List.drop_of_length_le (Nat.le_refl _),List.drop_of_length_le (by omega)]
  simp
end
noncomputable def joinE (x y:En) (d:Nat):En:=⟨x.p,y.v+x.v,y.h+x.h,y.o+x.o,y.c+x.c,d,x.cs++y.cs⟩
section
variable {w:World} {os:OsState}
theorem afs_ok {k:Nat} (hk:k≤90) (n t:Nat) (x y:Lx) (h1:1≤x.cs.length) (h13:x.cs.length≤3) (h2:1≤y.cs.length) (h23:y.cs.length≤3) (ok:DeOk (x.cs++y.cs)) :
  ∃(s n' t' nd u0 u1 u2 u3:Nat),∀(h₀:Heap),Base w h₀→h₀.get? x.e=some x.enO→h₀.get? y.e=some y.enO→h₀.get? x.d=some (dcO w x.cs)→h₀.get? y.d=some (dcO w y.cs) →
   Spec w h₀ os k (.call (.ref 73) ⟨[.ref x.e,.ref y.e],[]⟩) ⟨[],n,t⟩ (.ok (.ret (.ref s))) ⟨[(s,tupO [.int ((y.v+x.v:Nat):Int) u0,.int (y.h+x.h) u1,.int (y.o+x.o) u2,.int (y.c+x.c) u3,.ref nd]),(nd,dcO w (x.cs++y.cs))],n',t'⟩:=by
 obtain⟨nd,n1,t1,hc⟩:=addc_ok (w:=w) (os:=os) (k:=k+21) (by exact Nat.le_trans (Nat.add_le_add_right ‹_› _) (by decide)) x.d y.d (n+7) (t+16) x.cs y.cs h1 h13 h2 h23 ok
 refine⟨n1,n1+1,t1,nd,t+12,t+13,t+14,t+15,fun h₀ B fx fy dx dy=>?_⟩
 refine afs_in B (by exact Nat.le_trans ‹_› (by decide)) x.e y.e n t [] ?_
 have gR:=afs_b w n t n1 t1 x.e y.e x.d y.d nd x.tv x.th x.to x.tc y.tv y.th y.to y.tc x.v x.h x.o x.c y.v y.h y.o y.c [(nd,dcO w (x.cs++y.cs))]
 refine good_done gR B ((facts_nil.cons fy).cons fx) ⟨fun m=>addi_ev _ _ _ _ m,fun m=>addi_ev _ _ _ _ m,fun m=>addi_ev _ _ _ _ m,fun m=>addi_ev _ _ _ _ m,?_,trivial⟩
 exact midT B (fun h₁ B1 K1 F1=>hc h₁ B1 (K1 _ _ dx) (K1 _ _ dy)) rfl
noncomputable def joinL (xs:List Lx) (p q:Nat) (z:Lx):List Lx:=xs.take p++[z]++(xs.drop (p+1)).take (q - (p+1))++xs.drop (q+1)
theorem joi_ok {k:Nat} (hk:k≤60) (la le tq tm n t:Nat) (xs:List Lx) (p q:Nat) (hpq:p < q) (h4:xs.length≤4) (x y:Lx) (hx:xs[p]?=some x) (hy:xs[q]?=some y) (h1:1≤x.cs.length) (h13:x.cs.length≤3) (h2:1≤y.cs.length) (h23:y.cs.length≤3) (ok:DeOk (x.cs++y.cs)) :
  ∃(r n' t':Nat) (z:Lx),z.en=joinE x.en y.en z.d∧∀(h₀:Heap),Base w h₀→Facts h₀ ((la,lstO (refsL xs) le)::liC xs)→h₀.get? x.d=some (dcO w x.cs)→h₀.get? y.d=some (dcO w y.cs) →
   Spec w h₀ os k (.call (.ref 272) ⟨[.ref la,.int p tq,.int q tm],[]⟩) ⟨[],n,t⟩ (.ok (.ret (.ref r))) ⟨[(r,lstO (refsL (joinL xs p q z)) 0),(z.a,z.tuO),(z.e,z.enO),(z.d,dcO w z.cs)],n',t'⟩:=by
 obtain⟨s,n1,t1,nd,u0,u1,u2,u3,hc⟩:=afs_ok (w:=w) (os:=os) (k:=k+21) (by exact Nat.le_trans (Nat.add_le_add_right ‹_› _) (by decide)) (n+6) (t+7) x y h1 h13 h2 h23 ok
 have hq:q < xs.length:=(List.getElem?_eq_some_iff.mp hy).1
 have hl:(refsL xs).length=xs.length:=by unfold refsL;rw [List.length_map]
 refine⟨n1+8,n1+9,t1+4,⟨n1,x.tp,x.tl,s,u0,x.p,y.v+x.v,y.h+x.h,u1,y.o+x.o,u2,y.c+x.c,u3,nd,x.cs++y.cs⟩,rfl,fun h₀ B hF dx dy=>?_⟩
 have hxm:=List.mem_of_getElem? hx
 have hym:=List.mem_of_getElem? hy
 have fa:=hF _ (.tail _ (liC_mem hxm).1)
 have fe:=hF _ (.tail _ (liC_mem hxm).2)
 have fb:=hF _ (.tail _ (liC_mem hym).1)
 have ff:=hF _ (.tail _ (liC_mem hym).2)
 have fl:=hF _ (.head _)
 have gx:(refsL xs)[p]?=some (.ref x.a):=by unfold refsL;rw [List.getElem?_map,hx];rfl
 have gy:(refsL xs)[q]?=some (.ref y.a):=by unfold refsL;rw [List.getElem?_map,hy];rfl
 refine joi_in B (by exact Nat.le_trans ‹_› (by decide)) la tq tm p q n t [] ?_
 have gR:=joi_b w n t n1 t1 la le x.a y.a x.e y.e x.tp x.tl tq tm s y.tp y.tl (n+5) (n1+2) (n1+4) (n1+5) (n1+7) (n1+8) p q x.p y.p (ltr x.p) (ltr y.p)
  ((refsL xs).take p) ((refsL xs).take p++[.ref n1]) (((refsL xs).drop (p+1)).take (q - (p+1))) ((refsL xs).take p++[.ref n1]++((refsL xs).drop (p+1)).take (q - (p+1))) ((refsL xs).drop (q+1)) ((refsL xs).take p++[.ref n1]++((refsL xs).drop (p+1)).take (q - (p+1))++(refsL xs).drop (q+1)) (refsL xs)
  [(s,tupO [.int ((y.v+x.v:Nat):Int) u0,.int (y.h+x.h) u1,.int (y.o+x.o) u2,.int (y.c+x.c) u3,.ref nd]),(nd,dcO w (x.cs++y.cs))]
 have hj:refsL (joinL xs p q ⟨n1,x.tp,x.tl,s,u0,x.p,y.v+x.v,y.h+x.h,u1,y.o+x.o,u2,y.c+x.c,u3,nd,x.cs++y.cs⟩)=(refsL xs).take p++[.ref n1]++((refsL xs).drop (p+1)).take (q - (p+1))++(refsL xs).drop (q+1):=by
  unfold refsL joinL
  simp only [List.map_append,List.map_take,List.map_drop,List.map_cons,List.map_nil]
 rw [hj]
 refine good_done gR B (((facts_nil.cons fb).cons fa).cons fl) ⟨?_,?_,?_,?_,?_,?_,?_,?_,?_,?_,?_,trivial⟩
 ·exact mid_ B (fun h₁ B1 K1 F1=>git_ev B1 la le (n+1) (t+3) p tq (refsL xs) _ (by omega) gx (K1 _ _ fl))
 ·refine midH B (T:=[(n+4,fldO "slice" [.none,.int (p:Int) tq,.none])]) (T':=[(n+5,lstO ((refsL xs).take p) 0),(n+4,fldO "slice" [.none,.int (p:Int) tq,.none])]) (fun h₁ B1 K1 F1=>?_) rfl rfl
  have:=lsl_ev (os:=os) (k:=k+21) B1 la le (n+4) (n+5) (t+6) (refsL xs) .none (.int (p:Int) tq) none (some (p:Int)) .none (.int _ _) (by exact Nat.le_trans (Nat.le_of_eq ‹_›) (Nat.le_trans ‹_› (by decide))) (K1 _ _ fl)
  rw [pick_to] at this
  exact this
 ·exact mid_ B (fun h₁ B1 K1 F1=>git_ev B1 la le (n+6) (t+6) q tm (refsL xs) _ (by exact ox8 ‹_› (Nat.le_trans ‹_› (by decide))) gy (K1 _ _ fl))
 ·exact midT B (fun h₁ B1 K1 F1=>hc h₁ B1 (K1 _ _ fe) (K1 _ _ ff) (K1 _ _ dx) (K1 _ _ dy)) rfl
 ·exact midH B (T:=[]) (T':=[(n1+2,lstO ((refsL xs).take p++[.ref n1]) 0)]) (fun h₁ B1 K1 F1=>cat_ev (n+5) 0 (n1+1) 0 (n1+2) t1 _ _ (F1 _ (.tail _ (.tail _ (.head _)))) (F1 _ (.head _)) (by rw [List.length_take,List.length_singleton];omega)) rfl rfl
 ·exact fun m=>addi_ev _ _ _ _ m
 ·refine midH B (T:=[(n1+3,fldO "slice" [.int ((p:Int)+1) (t1+1),.int (q:Int) tm,.none])]) (T':=[(n1+4,lstO (((refsL xs).drop (p+1)).take (q - (p+1))) 0),(n1+3,fldO "slice" [.int ((p:Int)+1) (t1+1),.int (q:Int) tm,.none])]) (fun h₁ B1 K1 F1=>?_) rfl rfl
  have:=lsl_ev (os:=os) (k:=k+21) B1 la le (n1+3) (n1+4) (t1+2) (refsL xs) (.int ((p:Int)+1) (t1+1)) (.int (q:Int) tm) (some ((p:Int)+1)) (some (q:Int)) (.int _ _) (.int _ _) (by exact Nat.le_trans (Nat.le_of_eq ‹_›) (Nat.le_trans ‹_› (by decide))) (K1 _ _ fl)
  rw [show ((p:Int)+1)=((p+1:Nat):Int) from rfl,pick_mid _ _ _ (by omega)] at this
  exact this
 ·exact midH B (T:=[]) (T':=[(n1+5,lstO ((refsL xs).take p++[.ref n1]++((refsL xs).drop (p+1)).take (q - (p+1))) 0)]) (fun h₁ B1 K1 F1=>cat_ev (n1+2) 0 (n1+4) 0 (n1+5) (t1+2) _ _ (F1 _ (.tail _ (.tail _ (.head _)))) (F1 _ (.head _)) (by simp only [List.length_append,List.length_take,List.length_drop,List.length_singleton];omega)) rfl rfl
 ·exact fun m=>addi_ev _ _ _ _ m
 ·refine midH B (T:=[(n1+6,fldO "slice" [.int ((q:Int)+1) (t1+3),.none,.none])]) (T':=[(n1+7,lstO ((refsL xs).drop (q+1)) 0),(n1+6,fldO "slice" [.int ((q:Int)+1) (t1+3),.none,.none])]) (fun h₁ B1 K1 F1=>?_) rfl rfl
  have:=lsl_ev (os:=os) (k:=k+21) B1 la le (n1+6) (n1+7) (t1+4) (refsL xs) (.int ((q:Int)+1) (t1+3)) .none (some ((q:Int)+1)) none (.int _ _) .none (by exact Nat.le_trans (Nat.le_of_eq ‹_›) (Nat.le_trans ‹_› (by decide))) (K1 _ _ fl)
  rw [show ((q:Int)+1)=((q+1:Nat):Int) from rfl,pick_from] at this
  exact this
 ·exact midH B (T:=[]) (T':=[(n1+8,lstO ((refsL xs).take p++[.ref n1]++((refsL xs).drop (p+1)).take (q - (p+1))++(refsL xs).drop (q+1)) 0)]) (fun h₁ B1 K1 F1=>cat_ev (n1+5) 0 (n1+7) 0 (n1+8) (t1+4) _ _ (F1 _ (.tail _ (.tail _ (.head _)))) (F1 _ (.head _)) (by simp only [List.length_append,List.length_take,List.length_drop,List.length_singleton];omega)) rfl rfl
end
noncomputable def nm246:List Str:=[sO "numbers",sO "lists",sO "k",sO "votes"]
noncomputable def nm239:List Str:=[sO "script",sO "row"]
theorem lis_in {w:World} {h₀:Heap} {os:OsState} (B:Base w h₀) {k:Nat} (hk:k≤200) (nu:Nat) (n t:Nat) (rest:List (Nat×Obj)) {r:Result} {m':SM}
  (h:Spec w h₀ os k (.func (bodyOf (fdAt w 246)) (envAt w 246 n)) ⟨(n,frN w nm246 (tf t) [(.ref nu)])::rest,n+1,t+1⟩ r m') :
  Spec w h₀ os k (.call (.ref 246) ⟨[.ref nu],[]⟩) ⟨rest,n,t⟩ r m' :=
 spec_fn B (by kernel_rfl) (show RT3 (runT w (bindZ (fdAt w 246) ⟨[.ref nu],[]⟩) ⟨rest,n,t⟩ []) (.ok [((sO "numbers"),(.ref nu))]) ⟨rest,n,t⟩ from⟨by kernel_rfl,by kernel_rfl,by kernel_rfl⟩)
  (show RT3 (runT w (envZ (fdAt w 246).scope (fdAt w 246).globals (fdAt w 246).closure [((sO "numbers"),(.ref nu))] ((fdAt w 246).qualname++sO ".<locals>.") (some 246) (fdAt w 246).code none (fdAt w 246).builtins) ⟨rest,n,t⟩ [1,1]) (.ok (envAt w 246 n)) ⟨(n,frN w nm246 (tf t) [(.ref nu)])::rest,n+1,t+1⟩ from⟨by kernel_rfl,by kernel_rfl,by kernel_rfl⟩) h hk
theorem lis_e:∀(w:World) (n t s1 t1 L it st:Nat) (V15:Value) (f1 f2:List Value) (O3:Obj) (rest:List (Nat×Obj)),(fun(A:Nat×Obj)=>GoodH w (loopC (stAt (bodyOf (fdAt w 246)) 1) (.ref it) (envAt w 246 L)) [] ⟨A::(L,O3)::rest,n,t⟩ [1,1,1] [.at (.call (.builtin "range_iterator.__next__") ⟨[(.ref it)],[]⟩) ⟨A::(L,O3)::rest,n,t⟩ (.error (.ref st)) ⟨(st,fldO "StopIteration" [V15,.none,.none,.none,(.bool false),.none])::(it,fldO "range_iterator" f2)::(L,O3)::rest,s1,t1⟩] (.ok .next) [2] 3 ⟨(L,O3)::rest,s1,t1⟩) (it,fldO "range_iterator" f1):=by walk_at "r"
theorem lis_0:∀(w:World) (n t L it nu ls tz ep se:Nat) (ks:Nat→Nat) (z:Int) (f1 f2 vs vy:List Value) (rest:List (Nat×Obj)),(fun(A B C D E F G H J K:Nat×Obj) (I:Code)=>Good w I [(nu,lstO vy se)] ⟨K::F::G::rest,n,t⟩ [1,1,2,2,2,2,1001,1001,1001,1,1,1,2,2,2,3,3,3,3,2,2,0,2,3,0,3,0,1,1,1,1,1] [.at (.call (.builtin "range_iterator.__next__") ⟨[(.ref it)],[]⟩) ⟨K::F::G::rest,n,t⟩ (.ok (.ret (.int 0 t))) ⟨D::F::G::rest,n,(t+1)⟩,.at (.call (.builtin "list.__getitem__") ⟨[(.ref nu),(.int 0 t)],[]⟩) ⟨D::H::G::rest,n,(t+3)⟩ (.ok (.ret (.int z tz))) ⟨D::H::G::rest,n,(t+3)⟩,.any (.call (.builtin "int.__mod__") ⟨[(.int z tz),(.int 100 (t+3))],[]⟩) (aInt (z.fmod 100)),.any (.call (.builtin "int.__add__") ⟨[(.int 1 (t+2)),(.int (z.fmod 100) (t+4))],[]⟩) (aInt (1+z.fmod 100)),.at (.call (.builtin "list.append") ⟨[(.ref ls),(.ref (n+2))],[]⟩) ⟨E::B::C::D::A::G::rest,(n+3),(t+15)⟩ (.ok (.ret .none)) ⟨E::B::C::D::A::J::rest,(n+3),(t+15)⟩] (.ok (.again I)) [0,1,2,3,4,5] 6 ⟨E::B::C::D::A::J::rest,(n+3),(t+15)⟩) (L,frN w nm246 (upd (upd ks 2 (t+1)) 3 (t+6)) [(.ref nu),(.ref ls),(.int 0 t),(.int (1+z.fmod 100) (t+5))]) ((n+1),tupO [(.int (1+z.fmod 100) (t+5)),(.int 0 (t+9)),(.int 0 (t+10)),(.int 1 (t+11)),(.ref n)]) (n,dctO [ez w.params (sO "a") (t+13) (.int (1+z.fmod 100) (t+5))] 1) (it,fldO "range_iterator" f2) ((n+2),tupO [(.int 0 t),(.str (sO "a") (t+8)),(.ref (n+1))]) (L,frN w nm246 ks [(.ref nu),(.ref ls)]) (ls,lstO vs ep) (L,frN w nm246 (upd ks 2 (t+1)) [(.ref nu),(.ref ls),(.int 0 t)]) (ls,lstO (vs++[(.ref (n+2))]) (ep+1)) (it,fldO "range_iterator" f1) (loopC (stAt (bodyOf (fdAt w 246)) 1) (.ref it) (envAt w 246 L)):=by walk_at "r"
theorem lis_1:∀(w:World) (n t L it nu ls tz ep se:Nat) (ks:Nat→Nat) (V2 V3:Value) (z:Int) (f1 f2 vs vy:List Value) (rest:List (Nat×Obj)),(fun(A B C D E F G I J K:Nat×Obj) (H:Code)=>Good w H [(nu,lstO vy se)] ⟨K::F::G::rest,n,t⟩ [1,1,2,2,2,2,1001,1001,1001,1,1,1,2,2,2,3,3,3,3,2,2,0,2,3,0,3,0,1,1,1,1,1] [.at (.call (.builtin "range_iterator.__next__") ⟨[(.ref it)],[]⟩) ⟨K::F::G::rest,n,t⟩ (.ok (.ret (.int 1 t))) ⟨D::F::G::rest,n,(t+1)⟩,.at (.call (.builtin "list.__getitem__") ⟨[(.ref nu),(.int 1 t)],[]⟩) ⟨D::I::G::rest,n,(t+3)⟩ (.ok (.ret (.int z tz))) ⟨D::I::G::rest,n,(t+3)⟩,.any (.call (.builtin "int.__mod__") ⟨[(.int z tz),(.int 100 (t+3))],[]⟩) (aInt (z.fmod 100)),.any (.call (.builtin "int.__add__") ⟨[(.int 1 (t+2)),(.int (z.fmod 100) (t+4))],[]⟩) (aInt (1+z.fmod 100)),.at (.call (.builtin "list.append") ⟨[(.ref ls),(.ref (n+2))],[]⟩) ⟨E::A::C::D::B::G::rest,(n+3),(t+15)⟩ (.ok (.ret .none)) ⟨E::A::C::D::B::J::rest,(n+3),(t+15)⟩] (.ok (.again H)) [0,1,2,3,4,5] 6 ⟨E::A::C::D::B::J::rest,(n+3),(t+15)⟩) ((n+1),tupO [(.int (1+z.fmod 100) (t+5)),(.int 0 (t+9)),(.int 0 (t+10)),(.int 1 (t+11)),(.ref n)]) (L,frN w nm246 ks [(.ref nu),(.ref ls),(.int 1 t),(.int (1+z.fmod 100) (t+5))]) (n,dctO [ez w.params (sO "b") (t+13) (.int (1+z.fmod 100) (t+5))] 1) (it,fldO "range_iterator" f2) ((n+2),tupO [(.int 1 t),(.str (sO "b") (t+8)),(.ref (n+1))]) (L,frN w nm246 ks [(.ref nu),(.ref ls),V2,V3]) (ls,lstO vs ep) (L,frN w nm246 ks [(.ref nu),(.ref ls),(.int 1 t),V3]) (ls,lstO (vs++[(.ref (n+2))]) (ep+1)) (it,fldO "range_iterator" f1) (loopC (stAt (bodyOf (fdAt w 246)) 1) (.ref it) (envAt w 246 L)):=by walk_at "r"
theorem lis_2:∀(w:World) (n t L it nu ls tz ep se:Nat) (ks:Nat→Nat) (V2 V3:Value) (z:Int) (f1 f2 vs vy:List Value) (rest:List (Nat×Obj)),(fun(A B C D E F G I J K:Nat×Obj) (H:Code)=>Good w H [(nu,lstO vy se)] ⟨K::F::G::rest,n,t⟩ [1,1,2,2,2,2,1001,1001,1001,1,1,1,2,2,2,3,3,3,3,2,2,0,2,3,0,3,0,1,1,1,1,1] [.at (.call (.builtin "range_iterator.__next__") ⟨[(.ref it)],[]⟩) ⟨K::F::G::rest,n,t⟩ (.ok (.ret (.int 2 t))) ⟨D::F::G::rest,n,(t+1)⟩,.at (.call (.builtin "list.__getitem__") ⟨[(.ref nu),(.int 2 t)],[]⟩) ⟨D::I::G::rest,n,(t+3)⟩ (.ok (.ret (.int z tz))) ⟨D::I::G::rest,n,(t+3)⟩,.any (.call (.builtin "int.__mod__") ⟨[(.int z tz),(.int 100 (t+3))],[]⟩) (aInt (z.fmod 100)),.any (.call (.builtin "int.__add__") ⟨[(.int 1 (t+2)),(.int (z.fmod 100) (t+4))],[]⟩) (aInt (1+z.fmod 100)),.at (.call (.builtin "list.append") ⟨[(.ref ls),(.ref (n+2))],[]⟩) ⟨E::A::C::D::B::G::rest,(n+3),(t+15)⟩ (.ok (.ret .none)) ⟨E::A::C::D::B::J::rest,(n+3),(t+15)⟩] (.ok (.again H)) [0,1,2,3,4,5] 6 ⟨E::A::C::D::B::J::rest,(n+3),(t+15)⟩) ((n+1),tupO [(.int (1+z.fmod 100) (t+5)),(.int 0 (t+9)),(.int 0 (t+10)),(.int 1 (t+11)),(.ref n)]) (L,frN w nm246 ks [(.ref nu),(.ref ls),(.int 2 t),(.int (1+z.fmod 100) (t+5))]) (n,dctO [ez w.params (sO "c") (t+13) (.int (1+z.fmod 100) (t+5))] 1) (it,fldO "range_iterator" f2) ((n+2),tupO [(.int 2 t),(.str (sO "c") (t+8)),(.ref (n+1))]) (L,frN w nm246 ks [(.ref nu),(.ref ls),V2,V3]) (ls,lstO vs ep) (L,frN w nm246 ks [(.ref nu),(.ref ls),(.int 2 t),V3]) (ls,lstO (vs++[(.ref (n+2))]) (ep+1)) (it,fldO "range_iterator" f1) (loopC (stAt (bodyOf (fdAt w 246)) 1) (.ref it) (envAt w 246 L)):=by walk_at "r"
theorem lis_3:∀(w:World) (n t L it nu ls tz ep se:Nat) (ks:Nat→Nat) (V2 V3:Value) (z:Int) (f1 f2 vs vy:List Value) (rest:List (Nat×Obj)),(fun(A B C D E F G I J K:Nat×Obj) (H:Code)=>Good w H [(nu,lstO vy se)] ⟨K::F::G::rest,n,t⟩ [1,1,2,2,2,2,1001,1001,1001,1,1,1,2,2,2,3,3,3,3,2,2,0,2,3,0,3,0,1,1,1,1,1] [.at (.call (.builtin "range_iterator.__next__") ⟨[(.ref it)],[]⟩) ⟨K::F::G::rest,n,t⟩ (.ok (.ret (.int 3 t))) ⟨D::F::G::rest,n,(t+1)⟩,.at (.call (.builtin "list.__getitem__") ⟨[(.ref nu),(.int 3 t)],[]⟩) ⟨D::I::G::rest,n,(t+3)⟩ (.ok (.ret (.int z tz))) ⟨D::I::G::rest,n,(t+3)⟩,.any (.call (.builtin "int.__mod__") ⟨[(.int z tz),(.int 100 (t+3))],[]⟩) (aInt (z.fmod 100)),.any (.call (.builtin "int.__add__") ⟨[(.int 1 (t+2)),(.int (z.fmod 100) (t+4))],[]⟩) (aInt (1+z.fmod 100)),.at (.call (.builtin "list.append") ⟨[(.ref ls),(.ref (n+2))],[]⟩) ⟨E::A::C::D::B::G::rest,(n+3),(t+15)⟩ (.ok (.ret .none)) ⟨E::A::C::D::B::J::rest,(n+3),(t+15)⟩] (.ok (.again H)) [0,1,2,3,4,5] 6 ⟨E::A::C::D::B::J::rest,(n+3),(t+15)⟩) ((n+1),tupO [(.int (1+z.fmod 100) (t+5)),(.int 0 (t+9)),(.int 0 (t+10)),(.int 1 (t+11)),(.ref n)]) (L,frN w nm246 ks [(.ref nu),(.ref ls),(.int 3 t),(.int (1+z.fmod 100) (t+5))]) (n,dctO [ez w.params (sO "d") (t+13) (.int (1+z.fmod 100) (t+5))] 1) (it,fldO "range_iterator" f2) ((n+2),tupO [(.int 3 t),(.str (sO "d") (t+8)),(.ref (n+1))]) (L,frN w nm246 ks [(.ref nu),(.ref ls),V2,V3]) (ls,lstO vs ep) (L,frN w nm246 ks [(.ref nu),(.ref ls),(.int 3 t),V3]) (ls,lstO (vs++[(.ref (n+2))]) (ep+1)) (it,fldO "range_iterator" f1) (loopC (stAt (bodyOf (fdAt w 246)) 1) (.ref it) (envAt w 246 L)):=by walk_at "r"
theorem lis_b:∀(w:World) (n t s1 t1 nu ep:Nat) (ks:Nat→Nat) (V2 V3:Value) (vs:List Value) (rest:List (Nat×Obj)),(fun(A:Nat×Obj)=>Good w (.func (bodyOf (fdAt w 246)) (envAt w 246 n)) [] ⟨[(n,frN w nm246 (tf t) [(.ref nu)])],(n+1),(t+1)⟩ [2,2,0,0,0,0,1,1,0,1,1,1,1,0,1,1,1,1,1,1,1] [.at (loopC (stAt (bodyOf (fdAt w 246)) 1) (.ref (n+3)) (envAt w 246 n)) ⟨[((n+3),fldO "range_iterator" [(.int 0 0),(.int 4 0),(.int 1 0)]),((n+2),fldO "range" [(.int 0 (t+3)),(.int 4 (t+2)),(.int 1 (t+4))]),((n+1),lstO [] 0),(n,frN w nm246 (tf t) [(.ref nu),(.ref (n+1))])],(n+4),(t+5)⟩ (.ok .next) ⟨(n,frN w nm246 ks [(.ref nu),(.ref (n+1)),V2,V3])::A::rest,s1,t1⟩] (.ok (.done (.ret (.ref (n+1))))) [1] 2 ⟨A::rest,s1,t1⟩) ((n+1),lstO vs ep):=by walk_at "r"
theorem num_in {w:World} {h₀:Heap} {os:OsState} (B:Base w h₀) {k:Nat} (hk:k≤200) (sc:Nat) (n t:Nat) (rest:List (Nat×Obj)) {r:Result} {m':SM}
  (h:Spec w h₀ os k (.func (bodyOf (fdAt w 239)) (envAt w 239 n)) ⟨(n,frN w nm239 (tf t) [(.ref sc)])::rest,n+1,t+1⟩ r m') :
  Spec w h₀ os k (.call (.ref 239) ⟨[.ref sc],[]⟩) ⟨rest,n,t⟩ r m' :=
 spec_fn B (by kernel_rfl) (show RT3 (runT w (bindZ (fdAt w 239) ⟨[.ref sc],[]⟩) ⟨rest,n,t⟩ []) (.ok [((sO "script"),(.ref sc))]) ⟨rest,n,t⟩ from⟨by kernel_rfl,by kernel_rfl,by kernel_rfl⟩)
  (show RT3 (runT w (envZ (fdAt w 239).scope (fdAt w 239).globals (fdAt w 239).closure [((sO "script"),(.ref sc))] ((fdAt w 239).qualname++sO ".<locals>.") (some 239) (fdAt w 239).code none (fdAt w 239).builtins) ⟨rest,n,t⟩ [1,1]) (.ok (envAt w 239 n)) ⟨(n,frN w nm239 (tf t) [(.ref sc)])::rest,n+1,t+1⟩ from⟨by kernel_rfl,by kernel_rfl,by kernel_rfl⟩) h hk
theorem num_s:∀(w:World) (n t L it acc F:Nat) (f1:List Value) (rest:List (Nat×Obj)),(fun(A:Expr) (B:Nat×Obj)=>(fun(C:Env)=>Good w (compS A (.ref it) (.ref acc) C) [] ⟨B::rest,n,t⟩ (twice w [] [1,1,0,1,1]) [] (.ok (.again (compL A (.ref it) (.ref acc) C))) [0] 1 ⟨B::rest,n,t⟩) (envQ w 239 L A F [])) (compX (stAt (bodyOf (fdAt w 239)) 0)) (it,fldO "list_iterator" f1):=by
 refine byRow2 "special-get-raises" ?_ ?_<;>refine byRow2 "comprehension-iter-twice" ?_ ?_<;>(intros;exact⟨by kernel_rfl,by kernel_rfl,by kernel_rfl,by kernel_rfl⟩)
theorem num_e:∀(w:World) (n t s1 t1 L it acc F st:Nat) (V15:Value) (f1 f2:List Value) (rest:List (Nat×Obj)),(fun(A:Expr) (B:Nat×Obj)=>GoodH w (compL A (.ref it) (.ref acc) (envQ w 239 L A F [])) [] ⟨B::rest,n,t⟩ [1,1,1] [.at (.call (.builtin "list_iterator.__next__") ⟨[(.ref it)],[]⟩) ⟨B::rest,n,t⟩ (.error (.ref st)) ⟨(st,fldO "StopIteration" [V15,.none,.none,.none,(.bool false),.none])::(it,fldO "list_iterator" f2)::rest,s1,t1⟩] (.ok .next) [] 2 ⟨rest,s1,t1⟩) (compX (stAt (bodyOf (fdAt w 239)) 0)) (it,fldO "list_iterator" f1):=by walk_at "r"
theorem num_f:∀(w:World) (n t L it acc F tz ep:Nat) (z:Int) (f1 f2 vs:List Value) (rest:List (Nat×Obj)),(fun(A:Code) (B C D E G H:Nat×Obj)=>Good w A [] ⟨G::H::E::rest,n,t⟩ [1,1,2,2,2,1,1,1] [.at (.call (.builtin "list_iterator.__next__") ⟨[(.ref it)],[]⟩) ⟨G::H::E::rest,n,t⟩ (.ok (.ret (.int z tz))) ⟨C::H::E::rest,n,t⟩,.any (.call (.builtin "int.__pow__") ⟨[(.int 10 (t+1)),(.int 6 (t+2))],[]⟩) (aInt 1000000),.any (.call (.builtin "int.__mod__") ⟨[(.int z tz),(.int 1000000 (t+3))],[]⟩) (aInt (z.fmod 1000000)),.at (.call (.builtin "list.append") ⟨[(.ref acc),(.int (z.fmod 1000000) (t+4))],[]⟩) ⟨C::B::E::rest,n,(t+5)⟩ (.ok (.ret .none)) ⟨C::B::D::rest,n,(t+5)⟩] (.ok (.again A)) [0,1,2] 3 ⟨C::B::D::rest,n,(t+5)⟩) (compL (compX (stAt (bodyOf (fdAt w 239)) 0)) (.ref it) (.ref acc) (envQ w 239 L (compX (stAt (bodyOf (fdAt w 239)) 0)) F [])) (F,dctO [ez w.params (sO "x") t (.int z tz)] 1) (it,fldO "list_iterator" f2) (acc,lstO (vs++[(.int (z.fmod 1000000) (t+4))]) (ep+1)) (acc,lstO vs ep) (it,fldO "list_iterator" f1) (F,dctO [] 0):=by walk_at "r"
theorem num_l:∀(w:World) (n t L it acc F tz ep k0:Nat) (V0:Value) (z:Int) (f1 f2 vs:List Value) (rest:List (Nat×Obj)),(fun(A:Code) (B C D E G H:Nat×Obj)=>Good w A [] ⟨H::D::G::rest,n,t⟩ [1,1,2,2,2,1,1,1] [.at (.call (.builtin "list_iterator.__next__") ⟨[(.ref it)],[]⟩) ⟨H::D::G::rest,n,t⟩ (.ok (.ret (.int z tz))) ⟨C::D::G::rest,n,t⟩,.any (.call (.builtin "int.__pow__") ⟨[(.int 10 (t+1)),(.int 6 (t+2))],[]⟩) (aInt 1000000),.any (.call (.builtin "int.__mod__") ⟨[(.int z tz),(.int 1000000 (t+3))],[]⟩) (aInt (z.fmod 1000000)),.at (.call (.builtin "list.append") ⟨[(.ref acc),(.int (z.fmod 1000000) (t+4))],[]⟩) ⟨C::B::G::rest,n,(t+5)⟩ (.ok (.ret .none)) ⟨C::B::E::rest,n,(t+5)⟩] (.ok (.again A)) [0,1,2] 3 ⟨C::B::E::rest,n,(t+5)⟩) (compL (compX (stAt (bodyOf (fdAt w 239)) 0)) (.ref it) (.ref acc) (envQ w 239 L (compX (stAt (bodyOf (fdAt w 239)) 0)) F [])) (F,dctO [ez w.params (sO "x") k0 (.int z tz)] 1) (it,fldO "list_iterator" f2) (F,dctO [ez w.params (sO "x") k0 V0] 1) (acc,lstO (vs++[(.int (z.fmod 1000000) (t+4))]) (ep+1)) (acc,lstO vs ep) (it,fldO "list_iterator" f1):=by walk_at "r"
theorem num_b0:∀(w:World) (n t s1 t1 sc se w1 ep2:Nat) (ks:Nat→Nat) (g:Int) (va vt vu vw vx:List Value),(fun(A B C D E F G H J:Nat×Obj) (I:Expr)=>Good w (.func (bodyOf (fdAt w 239)) (envAt w 239 n)) [(sc,lstO va se)] ⟨[G],(n+1),(t+1)⟩ [1,1001,1001,1001,1,1,1,0,1,1,1,3,3,1,3,0,0,4,1,2,2,2,1,0,5,1,5,1] [.at (.call (.builtin "list.__getitem__") ⟨[(.ref sc),(.ref (n+1))],[]⟩) ⟨[F,G],(n+2),(t+2)⟩ (.ok (.ret (.ref w1))) ⟨[(w1,lstO vt 0),F,G],(n+3),(t+2)⟩,.at (compS I (.ref (n+3)) (.ref (n+4)) (envQ w 239 n I (n+5) [])) ⟨[D,((n+4),lstO [] 0),((n+3),fldO "list_iterator" [(.ref w1),(.int 0 0)]),(w1,lstO vt 0),F,G],(n+6),(t+2)⟩ (.ok .next) ⟨[D,E,(n,frN w nm239 ks [(.ref sc)])],s1,t1⟩,.at (.call (.builtin "len") ⟨[(.ref (n+4))],[]⟩) ⟨[A,D,E,B],(s1+1),(t1+8)⟩ (.ok (.ret (.int g (t1+9)))) ⟨[A,D,E,B],(s1+1),(t1+10)⟩,.at (.call (.builtin "list.__getitem__") ⟨[(.ref s1),(.ref (s1+1))],[]⟩) ⟨[C,A,D,E,B],(s1+2),(t1+10)⟩ (.ok (.ret (.ref (s1+2)))) ⟨[H,C,A,D,E,B],(s1+3),(t1+10)⟩,.at (.call (.builtin "list.__add__") ⟨[(.ref (n+4)),(.ref (s1+2))],[]⟩) ⟨[H,C,A,D,E,B],(s1+3),(t1+10)⟩ (.ok (.ret (.ref (s1+3)))) ⟨[J,H,C,A,D,E,B],(s1+4),(t1+10)⟩] (.ok (.done (.ret (.ref (s1+3))))) [0] 7 ⟨[J],(s1+4),(t1+10)⟩) (s1,lstO [(.int 7 (t1+1)),(.int 11 (t1+2)),(.int 2 (t1+3)),(.int 4 (t1+4)),(.int 1 (t1+5)),(.int 9 (t1+6)),(.int 5 (t1+7))] 0) (n,frN w nm239 (upd ks 1 t1) [(.ref sc),(.ref (n+4))]) ((s1+1),fldO "slice" [(.int g (t1+9)),.none,.none]) ((n+5),dctO [] 0) ((n+4),lstO vu ep2) ((n+1),fldO "slice" [.none,(.int 7 (t+1)),.none]) (n,frN w nm239 (tf t) [(.ref sc)]) ((s1+2),lstO vx 0) ((s1+3),lstO vw 0) (compX (stAt (bodyOf (fdAt w 239)) 0)):=by walk_at "r"
theorem num_b1:∀(w:World) (n t s1 t1 sc se w1 ep2:Nat) (ks:Nat→Nat) (k0:Nat) (V0:Value) (g:Int) (va vt vu vw vx:List Value),(fun(A B C D E F G H J:Nat×Obj) (I:Expr)=>Good w (.func (bodyOf (fdAt w 239)) (envAt w 239 n)) [(sc,lstO va se)] ⟨[F],(n+1),(t+1)⟩ [1,1001,1001,1001,1,1,1,0,1,1,1,3,3,1,1,1,3,0,0,4,1,2,2,2,1,0,5,1,5,1] [.at (.call (.builtin "list.__getitem__") ⟨[(.ref sc),(.ref (n+1))],[]⟩) ⟨[E,F],(n+2),(t+2)⟩ (.ok (.ret (.ref w1))) ⟨[(w1,lstO vt 0),E,F],(n+3),(t+2)⟩,.at (compS I (.ref (n+3)) (.ref (n+4)) (envQ w 239 n I (n+5) [])) ⟨[((n+5),dctO [] 0),((n+4),lstO [] 0),((n+3),fldO "list_iterator" [(.ref w1),(.int 0 0)]),(w1,lstO vt 0),E,F],(n+6),(t+2)⟩ (.ok .next) ⟨[((n+5),dctO [ez w.params (sO "x") k0 V0] 1),D,(n,frN w nm239 ks [(.ref sc)])],s1,t1⟩,.at (.call (.builtin "len") ⟨[(.ref (n+4))],[]⟩) ⟨[A,G,D,B],(s1+1),(t1+8)⟩ (.ok (.ret (.int g (t1+9)))) ⟨[A,G,D,B],(s1+1),(t1+10)⟩,.at (.call (.builtin "list.__getitem__") ⟨[(.ref s1),(.ref (s1+1))],[]⟩) ⟨[C,A,G,D,B],(s1+2),(t1+10)⟩ (.ok (.ret (.ref (s1+2)))) ⟨[H,C,A,G,D,B],(s1+3),(t1+10)⟩,.at (.call (.builtin "list.__add__") ⟨[(.ref (n+4)),(.ref (s1+2))],[]⟩) ⟨[H,C,A,G,D,B],(s1+3),(t1+10)⟩ (.ok (.ret (.ref (s1+3)))) ⟨[J,H,C,A,G,D,B],(s1+4),(t1+10)⟩] (.ok (.done (.ret (.ref (s1+3))))) [0] 7 ⟨[J],(s1+4),(t1+10)⟩) (s1,lstO [(.int 7 (t1+1)),(.int 11 (t1+2)),(.int 2 (t1+3)),(.int 4 (t1+4)),(.int 1 (t1+5)),(.int 9 (t1+6)),(.int 5 (t1+7))] 0) (n,frN w nm239 (upd ks 1 t1) [(.ref sc),(.ref (n+4))]) ((s1+1),fldO "slice" [(.int g (t1+9)),.none,.none]) ((n+4),lstO vu ep2) ((n+1),fldO "slice" [.none,(.int 7 (t+1)),.none]) (n,frN w nm239 (tf t) [(.ref sc)]) ((n+5),dctO [] 2) ((s1+2),lstO vx 0) ((s1+3),lstO vw 0) (compX (stAt (bodyOf (fdAt w 239)) 0)):=by walk_at "r"
noncomputable def intsL (l:List (Int×Nat)):List Value:=l.map fun x=>.int x.1 x.2
section
variable {w:World} {h₀:Heap} {os:OsState}
theorem lenl_ev {k:Nat} (l ep n t:Nat) (vs:List Value) (hz:vs.length≤100) (hf:h₀.get? l=some (lstO vs ep)) :
  Spec w h₀ os k (.call (.builtin "len") ⟨[.ref l],[]⟩) ⟨[],n,t⟩ (.ok (.ret (.int (vs.length:Int) (t+1)))) ⟨[],n,t+2⟩:=by
 intro A s R hA D q
 have hl:s.heap.get? l=some (lstO vs ep):=D.keep _ _ hf
 have ht:s.toks=t:=D.toks
 refine codeAny_call_builtin plain_len entry_len ?_
 have hck:∀(Q:Unit→Shared→Prop) (E:Value→Shared→Prop) (s:Shared),Q () s→wpAny (model P₀ w) A.in1 (checkBuiltinCall "len" ⟨[.ref l],[]⟩) Q E s:=by
  intro Q E s hq
  have ha:=args_len1 (.ref l)
  simp only [checkBuiltinCall,kind_len]
  cases hsig:Manifest.signature? "len" with
  | none=>exact wpAny_pure hq
  | some sig =>
   simp only [argsOk,hsig] at ha
   have h2:Bind.checkArgs "len" sig ⟨[.ref l],[]⟩=pure ():=ha
   show wpAny _ A.in1 (Bind.checkArgs "len" sig ⟨[.ref l],[]⟩) _ _ s
   rw [h2];exact wpAny_pure hq
 refine hck _ _ _ ?_
 refine wpAny_mono (wpAny_len_body_list (Q:=fun r s'=>R (.ok (.ret r)) s') ⟨_,hl,rfl,ep,rfl⟩ (by rw [List.size_toArray];omega) ?_) (fun fin s' h=>by obtain⟨r,rfl,hr⟩:=h;exact hr) fun _ _ h=>h
 show R (.ok (.ret (.int ((vs.toArray.size:Nat):Int) (s.toks+1)))) { s with toks:=s.toks+1+1 }
 rw [List.size_toArray,ht]
 have D2:=D.fresh.fresh
 rw [ht] at D2
 exact q _ D2
theorem pow_ev {k:Nat} (t u:Nat) (m:SM):Spec w h₀ os k (.call (.builtin "int.__pow__") ⟨[.int 10 t,.int 6 u],[]⟩) m (aInt 1000000 m).1 (aInt 1000000 m).2 :=
 spec_gives_int F.slot_int_pow (fun s=>typeIs_int s 10 t) F.entry_int_pow (F.args_int_pow_2 _ _) (AutoIntG2.int___pow___int_int_4 10 t 6 u (by decide) (by decide) (by decide) (by decide) (by decide)) m
end
noncomputable abbrev X9 (w:World):Expr:=compX (stAt (bodyOf (fdAt w 239)) 0)
noncomputable abbrev Q9 (w:World) (L F:Nat):Env:=envQ w 239 L (X9 w) F []
noncomputable def numP (s:List Int):List Int:=(s.take 7).map (·.fmod 1000000)++[7,11,2,4,1,9,5].drop (s.take 7).length
section
variable {w:World} {os:OsState}
theorem nu2 {k:Nat} (hk:k≤140) (L it acc F sl ep2 k0:Nat) (ws:List (Int×Nat)):∀(ys:List (Int×Nat)) (i:Nat),ws.drop i=ys→i+ys.length=ws.length →
  ∀(V0:Value) (vs:List Value) (ep n t:Nat),vs.length+ys.length≤60 →
  ∃(V0':Value) (nw:List (Int×Nat)) (n' t':Nat),n≤n'∧nw.map (·.1)=ys.map (fun y=>y.1.fmod 1000000)∧∀(h₀:Heap),Base w h₀→h₀.get? sl=some (lstO (intsL ws) ep2) →
   Spec w h₀ os k (compL (X9 w) (.ref it) (.ref acc) (Q9 w L F)) ⟨[(it,fldO "list_iterator" [.ref sl,.int (i:Int) 0]),(F,dctO [ez w.params (sO "x") k0 V0] 1),(acc,lstO vs ep)],n,t⟩ (.ok .next)
    ⟨[(F,dctO [ez w.params (sO "x") k0 V0'] 1),(acc,lstO (vs++intsL nw) (ep+ys.length))],n',t'⟩
 | [],i,_,hi=>by
  intro V0 vs ep n t _
  refine⟨V0,[],n+2,t,by exact Nat.le_add_right _ _,rfl,fun h₀ B hL=>?_⟩
  have hi:i=ws.length:=by simpa using hi
  rw [show vs++intsL []=vs from List.append_nil _]
  exact good_h (num_e w n t (n+2) t L it acc F (n+1) (.ref n) [.ref sl,.int (i:Int) 0] [.none,.int (i:Int) 0] _) B facts_nil ⟨midH B (fun h₁ B1 K1 F1=>leG it sl ep2 n t i (intsL ws) (by unfold intsL;rw [List.getElem?_map,List.getElem?_eq_none (by omega)];rfl) (K1 _ _ hL)) rfl rfl,trivial⟩
 | y::ys,i,hd,hi=>by
  intro V0 vs ep n t hz
  rw [List.length_cons] at hi hz
  obtain⟨hri,hd'⟩:=drop_at hd
  obtain⟨V0',nw,n',t',hn,hc,hnext⟩:=nu2 hk L it acc F sl ep2 k0 ws ys (i+1) hd' (by exact ox3 ‹_›) (.int y.1 y.2) (vs++[.int (y.1.fmod 1000000) (t+4)]) (ep+1) n (t+5) (by rw [List.length_append,List.length_singleton];exact ox4 ‹_›)
  refine⟨V0',(y.1.fmod 1000000,t+4)::nw,n',t',hn,by rw [List.map_cons,List.map_cons,hc],fun h₀ B hL=>?_⟩
  have gR:=num_l w n t L it acc F y.2 ep k0 V0 y.1 [.ref sl,.int (i:Int) 0] [.ref sl,.int ((i+1:Nat):Int) 0] vs []
  refine good_again gR B facts_nil ⟨?_,?_,?_,?_,trivial⟩ ?_
  ·exact midH B (fun h₁ B1 K1 F1=>lnG it sl ep2 n t i (intsL ws) _ (by unfold intsL;rw [List.getElem?_map,hri];rfl) (K1 _ _ hL)) rfl rfl
  ·exact fun m=>pow_ev _ _ m
  ·exact fun m=>mod_ev _ _ _ _ (by decide) m
  ·exact midE B 2 (fun h₁ B1 K1 F1=>app_ev B1 acc ep n (t+5) vs _ (by exact ox6 ‹_› (by decide))) rfl rfl
  ·rw [show vs++intsL ((y.1.fmod 1000000,t+4)::nw)=vs++[.int (y.1.fmod 1000000) (t+4)]++intsL nw by simp [intsL],show ep+(y::ys).length=ep+1+ys.length by rw [List.length_cons];exact oxa]
   exact hnext h₀ B hL
theorem nu_all {k:Nat} (hk:k≤110) (L it acc F sl ep2:Nat) (ws:List (Int×Nat)) (h7:ws.length≤7) (n t:Nat) :
  ∃(es:List DictEntry) (ee:Nat) (nw:List (Int×Nat)) (n' t':Nat),(es=[]∧ee=0∨∃ k0 V0,es=[ez w.params (sO "x") k0 V0]∧ee=1)∧n≤n'∧nw.map (·.1)=ws.map (fun y=>y.1.fmod 1000000)∧∀(h₀:Heap),Base w h₀→h₀.get? sl=some (lstO (intsL ws) ep2) →
   Spec w h₀ os k (compS (X9 w) (.ref it) (.ref acc) (Q9 w L F)) ⟨[(it,fldO "list_iterator" [.ref sl,.int ((0:Nat):Int) 0]),(F,dctO [] 0),(acc,lstO [] 0)],n,t⟩ (.ok .next)
    ⟨[(F,dctO es ee),(acc,lstO (intsL nw) ws.length)],n',t'⟩:=by
 match ws with
 | [] =>
  refine⟨[],0,[],n+2,t,.inl ⟨rfl,rfl⟩,by exact Nat.le_add_right _ _,rfl,fun h₀ B hL=>?_⟩
  have gS:=num_s w n t L it acc F [.ref sl,.int ((0:Nat):Int) 0] [(F,dctO [] 0),(acc,lstO [] 0)]
  refine good_again gS B facts_nil trivial ?_
  exact good_h (num_e w n t (n+2) t L it acc F (n+1) (.ref n) [.ref sl,.int ((0:Nat):Int) 0] [.none,.int ((0:Nat):Int) 0] _) B facts_nil ⟨midH B (fun h₁ B1 K1 F1=>leG it sl ep2 n t 0 (intsL []) rfl (K1 _ _ hL)) rfl rfl,trivial⟩
 | y::ys =>
  rw [List.length_cons] at h7
  obtain⟨V0',nw,n',t',hn,hc,hnext⟩:=nu2 (w:=w) (os:=os) (k:=k) (by exact Nat.le_trans ‹_› (by decide)) L it acc F sl ep2 t (y::ys) ys (0+1) rfl (by rw [List.length_cons];exact oxd) (.int y.1 y.2) [.int (y.1.fmod 1000000) (t+4)] (0+1) n (t+5) (by rw [List.length_singleton];omega)
  refine⟨_,1,(y.1.fmod 1000000,t+4)::nw,n',t',.inr ⟨t,V0',rfl,rfl⟩,hn,by rw [List.map_cons,List.map_cons,hc],fun h₀ B hL=>?_⟩
  have gS:=num_s w n t L it acc F [.ref sl,.int ((0:Nat):Int) 0] [(F,dctO [] 0),(acc,lstO [] 0)]
  refine good_again gS B facts_nil trivial ?_
  have gR:=num_f w n t L it acc F y.2 0 y.1 [.ref sl,.int ((0:Nat):Int) 0] [.ref sl,.int ((0+1:Nat):Int) 0] [] []
  refine good_again gR B facts_nil ⟨?_,?_,?_,?_,trivial⟩ ?_
  ·exact midH B (fun h₁ B1 K1 F1=>lnG it sl ep2 n t 0 (intsL (y::ys)) _ rfl (K1 _ _ hL)) rfl rfl
  ·exact fun m=>pow_ev _ _ m
  ·exact fun m=>mod_ev _ _ _ _ (by decide) m
  ·exact midE B 2 (fun h₁ B1 K1 F1=>app_ev B1 acc 0 n (t+5) [] _ (by decide)) rfl rfl
  ·rw [show intsL ((y.1.fmod 1000000,t+4)::nw)=[.int (y.1.fmod 1000000) (t+4)]++intsL nw by simp [intsL],show (y::ys).length=0+1+ys.length by rw [List.length_cons];exact oxd.symm]
   exact hnext h₀ B hL
end
section
variable {w:World} {h₀:Heap} {os:OsState}
theorem pyNext_item {A:Around} {E:Value→Shared→Prop} {s:Shared} {m:SM} (D:Rep h₀ os s m) {it l ep i j:Nat} {vs:List Value} {v:Value} (hj:m.cells[j]?=some (it,fldO "list_iterator" [.ref l,.int (i:Int) 0])) (hl:h₀.get? l=some (lstO vs ep)) (hv:vs[i]?=some v)
  {Q:Option Value→Shared→Prop} (hQ:∀ s',Rep h₀ os s' ⟨m.cells.set j (it,fldO "list_iterator" [.ref l,.int ((i+1:Nat):Int) 0]),m.sz,m.tk⟩→Q (some v) s'):wpAny (model P₀ w) A (pyNext (.ref it)) Q E s:=by
 have ho:s.heap.get? it=some (fldO "list_iterator" [.ref l,.int (i:Int) 0]):=(D.at hj).1
 have hl':s.heap.get? l=some (lstO vs ep):=D.keep _ _ hl
 have D1:=D.update (j:=j) hj (f:=Obj.mapFields (·.setIfInBounds 1 (rawInt ((i+1:Nat):Int)))) (by rfl)
 have e1:Obj.mapFields (·.setIfInBounds 1 (rawInt ((i+1:Nat):Int))) (fldO "list_iterator" [.ref l,.int (i:Int) 0])=fldO "list_iterator" [.ref l,.int ((i+1:Nat):Int) 0]:=by
  unfold fldO Obj.mapFields;simp [rawInt]
 rw [e1] at D1
 unfold pyNext
 refine wpAny_bind (wpAny_attempt (wpAny_callSpecial?_slot (name:=Str.ofString "__next__") ⟨_,ho,rfl⟩ slot_listiter_next
  (wpAny_call_entry slot_listiter_next ⟨_,ho,rfl⟩ entry_listiter_next ?_ (args_listiter_next _))))
 show wpAny _ _ (field (.ref it) 0 >>= _) _ _ s
 refine wpAny_bind (wpAny_field ho rfl (x:=.ref l) rfl ?_)
 show wpAny _ _ (if (Value.ref l == Value.none)=true then _ else _) _ _ s
 rw [if_neg (show ¬ ((Value.ref l == Value.none)=true) from Bool.false_ne_true)]
 show wpAny _ _ (field (.ref it) 1 >>= _) _ _ s
 refine wpAny_bind (wpAny_field ho rfl (x:=.int i 0) rfl ?_)
 show wpAny _ _ (seqItems? (.ref l) >>= _) _ _ s
 refine wpAny_bind (wpAny_seqItems hl' rfl ?_)
 have hx:(vs.toArray)[i]?=some v:=by simpa using hv
 simp only [Int.toNat_natCast,hx]
 exact wpAny_bind (wpAny_setField ho rfl (by simp) (wpAny_pure ⟨v,rfl,wpAny_pure (hQ _ D1)⟩))
theorem pyNext_end {A:Around} (hA:A.handled=none) {E:Value→Shared→Prop} {s:Shared} {m:SM} (D:Rep h₀ os s m) {it l ep i j:Nat} {vs:List Value} (hj:m.cells[j]?=some (it,fldO "list_iterator" [.ref l,.int (i:Int) 0])) (hl:h₀.get? l=some (lstO vs ep)) (hv:vs[i]?=none)
  {Q:Option Value→Shared→Prop} (hQ:∀ s',Rep h₀ os s' ⟨[],m.sz+2,m.tk⟩→Q none s'):wpAny (model P₀ w) A (pyNext (.ref it)) Q E s:=by
 have ho:s.heap.get? it=some (fldO "list_iterator" [.ref l,.int (i:Int) 0]):=(D.at hj).1
 have hl':s.heap.get? l=some (lstO vs ep):=D.keep _ _ hl
 have D1:=D.update (j:=j) hj (f:=Obj.mapFields (·.setIfInBounds 0 .none)) (by rfl)
 have D2:=D1.alloc (o:=tupO []) (by rfl)
 have D3:=D2.alloc (o:=fldO "StopIteration" [.ref (s.heap.update it (Obj.mapFields (·.setIfInBounds 0 .none))).objs.size,.none,.none,.none,.bool false,.none]) (by rfl)
 unfold pyNext
 refine wpAny_bind (wpAny_attempt (wpAny_callSpecial?_slot (name:=Str.ofString "__next__") ⟨_,ho,rfl⟩ slot_listiter_next
  (wpAny_call_entry slot_listiter_next ⟨_,ho,rfl⟩ entry_listiter_next ?_ (args_listiter_next _))))
 show wpAny _ _ (field (.ref it) 0 >>= _) _ _ s
 refine wpAny_bind (wpAny_field ho rfl (x:=.ref l) rfl ?_)
 show wpAny _ _ (if (Value.ref l == Value.none)=true then _ else _) _ _ s
 rw [if_neg (show ¬ ((Value.ref l == Value.none)=true) from Bool.false_ne_true)]
 show wpAny _ _ (field (.ref it) 1 >>= _) _ _ s
 refine wpAny_bind (wpAny_field ho rfl (x:=.int i 0) rfl ?_)
 show wpAny _ _ (seqItems? (.ref l) >>= _) _ _ s
 refine wpAny_bind (wpAny_seqItems hl' rfl ?_)
 have hx:(vs.toArray)[i]?=none:=by simpa using hv
 simp only [Int.toNat_natCast,hx]
 refine wpAny_bind (wpAny_rule (wpAny_bind (wpAny_setField ho rfl (by simp) ?_)))
 show wpAny _ _ (newExc (.type "StopIteration") [] >>= _) _ _ _
 refine wpAny_bind ?_
 simp only [newExc,newTuple]
 refine wpAny_bind (wpAny_newObj_type ?_ (by size_fits))
 refine wpAny_bind (m:=firstArgMember _ _) (wpAny_of_eq (a:=Value.none) (by first | rfl | (simp only [firstArgMember];rfl)) ?_)
 refine wpAny_newObj_type ?_ (by size_fits)
 simp only [raiseNew]
 refine wpAny_bind (wpAny_handled ?_)
 rw [show A.in1.handled=none from hA]
 refine wpAny_bind (wpAny_pure (wpAny_throw ?_))
 refine wpAny_bind (wpAny_isInstance (T:="StopIteration") (b:=true) ⟨_,Heap.get?_push_size _ rfl,rfl⟩ isSubtype_stop ?_)
 exact wpAny_pure (hQ _ ⟨D3.keep,fun p hp=>absurd hp List.not_mem_nil,List.nodup_nil,D3.size,D3.toks,D3.gens,D3.os⟩)
noncomputable def sumI:List (Int×Nat)→Int
 | []=>0
 | x::l=>x.1+sumI l
theorem sum_loop {A:Around} (hA:A.handled=none) {R:Result→Shared→Prop} (l ep n:Nat) (ws:List (Int×Nat)) (hl:h₀.get? l=some (lstO (intsL ws) ep)):∀(rem:List (Int×Nat)) (i:Nat) (s:Shared) (acc:Int) (tA c:Nat),ws.drop i=rem→i+rem.length=ws.length→(∀ x∈rem,0≤x.1∧x.1≤100000)→0≤acc→acc+100000*rem.length≤10 ^ 12 →
  Rep h₀ os s ⟨[(n+1,lstO [.int acc tA] c),(n,fldO "list_iterator" [.ref l,.int (i:Int) 0])],n+2,tA+1⟩ →
  (∀ s',Rep h₀ os s' ⟨[],n+4,tA+1+rem.length⟩→R (.ok (.ret (.int (acc+sumI rem) (tA+rem.length)))) s') →
  codeAny (model P₀ w) A (.builtin "sum.loop" ⟨[.ref n,.ref (n+1),rawInt 0,rawInt 0],[]⟩) R s
 | [],i,s,acc,tA,c,hd,hi,_,_,_,D,q=>by
  have hi:i=ws.length:=by simpa using hi
  have hS:s.heap.get? (n+1)=some (lstO [.int acc tA] c):=(D.cell _ (.head _)).1
  refine codeAny_builtin F.entry_sum_loop ?_
  rw [Around.under_plainId F.plain_sum_loop _]
  show wpAny _ A.in1 (seqItems? (.ref (n+1)) >>= _) _ _ s
  refine wpAny_bind (wpAny_seqItems hS rfl ?_)
  show wpAny _ A.in1 (tryCatch (pyNext (.ref n)) _ >>= _) _ _ s
  refine wpAny_bind (wpAny_tryCatch (pyNext_end (A:=A.in1) hA D (j:=1) rfl hl (by unfold intsL;rw [List.getElem?_map,List.getElem?_eq_none (by omega)];rfl) fun s' D'=>?_))
  have:=q s' D'
  rw [show acc+sumI []=acc from Int.add_zero _] at this
  exact wpAny_pure this
 | y::rem,i,s,acc,tA,c,hd,hi,hv,ha,hb,D,q=>by
  rw [List.length_cons] at hi hb
  obtain⟨hri,hd'⟩:=drop_at hd
  obtain⟨y0,y1⟩:=hv y (.head _)
  have hS:s.heap.get? (n+1)=some (lstO [.int acc tA] c):=(D.cell _ (.head _)).1
  refine codeAny_builtin F.entry_sum_loop ?_
  rw [Around.under_plainId F.plain_sum_loop _]
  show wpAny _ A.in1 (seqItems? (.ref (n+1)) >>= _) _ _ s
  refine wpAny_bind (wpAny_seqItems hS rfl ?_)
  show wpAny _ A.in1 (tryCatch (pyNext (.ref n)) _ >>= _) _ _ s
  refine wpAny_bind (wpAny_tryCatch (pyNext_item (A:=A.in1) D (j:=1) rfl hl (show (intsL ws)[i]?=some (.int y.1 y.2) by unfold intsL;rw [List.getElem?_map,hri];rfl) fun s' D'=>?_))
  have hc:((decide (-(2 ^ 63)≤y.1)&&decide (y.1 < 2 ^ 63))&&(decide (-(2 ^ 63)≤acc+y.1)&&decide (acc+y.1 < 2 ^ 63)))=true:=by
   simp only [Bool.and_eq_true,decide_eq_true_eq]
   omega
  show wpAny _ A.in1 (if (_:Bool)=true then (mkInt (acc+y.1) >>= _) else _) _ _ _
  split
  ·have ht:s'.toks=tA+1:=D'.toks
   have D2:=D'.fresh
   have hS':s'.heap.get? (n+1)=some (lstO [.int acc tA] c):=(D'.cell _ (.head _)).1
   have D3:=D2.update (j:=0) (p:=(n+1,lstO [.int acc tA] c)) rfl (f:=Obj.mapSeq fun _=>#[.int (acc+y.1) (tA+1)]) (by rfl)
   have e3:Obj.mapSeq (fun _=>#[.int (acc+y.1) (tA+1)]) (lstO [.int acc tA] c)=lstO [.int (acc+y.1) (tA+1)] c:=by
    unfold lstO Obj.mapSeq;simp
   rw [e3] at D3
   refine wpAny_bind (wpAny_mkInt ?_)
   show wpAny _ A.in1 (updateSeq (n+1) (fun _=>#[.int (acc+y.1) s'.toks]) >>= _) _ _ _
   rw [ht]
   rw [ht] at D3
   refine wpAny_bind (wpAny_updateSeq (s:={ s' with toks:=tA+1+1 }) hS' rfl (wpAny_pure ⟨plainId_quiet F.plain_sum_loop _,sum_loop hA l ep n ws hl rem (i+1) _ (acc+y.1) (tA+1) c hd' (by exact ox3 ‹_›) (fun x hx=>hv x (.tail _ hx)) (by omega) (by omega) D3 fun s'' D''=>?_⟩))
   have:=q s'' (by rw [List.length_cons,show tA+1+(rem.length+1)=tA+1+1+rem.length by exact oxa];exact D'')
   rw [show acc+sumI (y::rem)=acc+y.1+sumI rem by show acc+(y.1+sumI rem)=_;omega,List.length_cons,show tA+(rem.length+1)=tA+1+rem.length by exact oxa] at this
   exact this
  ·rename_i hneg
   exact absurd hc hneg
theorem sum_ev {k:Nat} (l ep n t:Nat) (ws:List (Int×Nat)) (hv:∀ x∈ws,0≤x.1∧x.1≤100000) (hz:ws.length≤100) (hl:h₀.get? l=some (lstO (intsL ws) ep)) :
  Spec w h₀ os k (.call (.builtin "sum") ⟨[.ref l],[]⟩) ⟨[],n,t⟩ (.ok (.ret (.int (sumI ws) (t+ws.length)))) ⟨[],n+4,t+1+ws.length⟩:=by
 intro A s R hA D q
 have hl':s.heap.get? l=some (lstO (intsL ws) ep):=D.keep _ _ hl
 have hs:s.heap.objs.size=n:=D.size
 have ht:s.toks=t:=D.toks
 have D1:=D.alloc (o:=fldO "list_iterator" [.ref l,.int 0 0]) (by rfl)
 have D2:=D1.fresh.alloc (o:=lstO [.int 0 t] 0) (by rfl)
 refine codeAny_call_builtin F.plain_sum F.entry_sum ?_
 have hck:∀(Q:Unit→Shared→Prop) (E:Value→Shared→Prop) (s:Shared),Q () s→wpAny (model P₀ w) A.in1 (checkBuiltinCall "sum" ⟨[.ref l],[]⟩) Q E s:=by
  intro Q E s hq
  have ha:=F.args_sum1 (.ref l)
  simp only [checkBuiltinCall,F.kind_sum]
  cases hsig:Manifest.signature? "sum" with
  | none=>exact wpAny_pure hq
  | some sig =>
   simp only [argsOk,hsig] at ha
   have h2:Bind.checkArgs "sum" sig ⟨[.ref l],[]⟩=pure ():=ha
   show wpAny _ A.in1 (Bind.checkArgs "sum" sig ⟨[.ref l],[]⟩) _ _ s
   rw [h2];exact wpAny_pure hq
 refine hck _ _ _ ?_
 unfold Builtin.«sum»
 simp only [List.length_cons,List.length_nil]
 rw [if_neg (by decide)]
 refine wpAny_bind (wpAny_of_eq (show Builtin.Builtins.bindParams "sum" ["start"] 0 { }=pure [none] from rfl) ?_)
 refine wpAny_bind (wpAny_pyIter_list ⟨_,hl',rfl,ep,rfl⟩ ?_)
 refine wpAny_bind (wpAny_mkInt ?_)
 refine wpAny_bind (wpAny_pure ?_)
 simp only [List.forIn_cons,List.forIn_nil]
 refine wpAny_bind (wpAny_bind (wpAny_bind (wpAny_isInstance (T:="int") (b:=false) (typeIs_int _ _ _) PySem.sub_int_str ?_)))
 simp only [Bool.false_eq_true,if_false]
 refine wpAny_pure (wpAny_bind (wpAny_bind (wpAny_isInstance (T:="int") (b:=false) (typeIs_int _ _ _) PySem.sub_int_bytes ?_)))
 simp only [Bool.false_eq_true,if_false]
 refine wpAny_pure (wpAny_bind (wpAny_bind (wpAny_isInstance (T:="int") (b:=false) (typeIs_int _ _ _) PySem.sub_int_bytearray ?_)))
 simp only [Bool.false_eq_true,if_false]
 refine wpAny_pure (wpAny_pure ?_)
 refine wpAny_bind (wpAny_newObj_type ?_)
 have hz1:(s.heap.push (fldO "list_iterator" [.ref l,.int 0 0])).objs.size=n+1:=by rw [size_push',hs]
 refine wpAny_pure ?_
 show _∧codeAny (model P₀ w) A (.builtin "sum.loop" ⟨[.ref s.heap.objs.size,.ref (s.heap.push (fldO "list_iterator" [.ref l,.int 0 0])).objs.size,rawInt 0,rawInt 0],[]⟩) R { s with heap:=(s.heap.push (fldO "list_iterator" [.ref l,.int 0 0])).push (lstO [.int 0 s.toks] 0),toks:=s.toks+1 }
 rw [hz1,hs]
 refine⟨plainId_quiet F.plain_sum_loop _,?_⟩
 rw [ht]
 rw [ht] at D2
 refine sum_loop hA.handled l ep n ws hl ws 0 _ 0 t 0 rfl (by exact Nat.zero_add _) hv (by omega) (by omega) D2 fun s' D'=>?_
 rw [Int.zero_add]
 exact q s' D'
end
section
variable {w:World} {h₀:Heap} {os:OsState}
noncomputable def isI (x:Int):Value→Bool
 | .int a _=>a == x
 | _=>false
theorem hasI_ev {k:Nat} (l ep n t u:Nat) (ws:List (Int×Nat)) (x:Int) (hf:h₀.get? l=some (lstO (intsL ws) ep)) :
  Spec w h₀ os k (.call (.builtin "list.__contains__") ⟨[.ref l,.int x u],[]⟩) ⟨[],n,t⟩ (.ok (.ret (.bool (ws.any fun c=>c.1 == x)))) ⟨[],n,t⟩:=by
 intro A s R hA D q
 have hl:s.heap.get? l=some (lstO (intsL ws) ep):=D.keep _ _ hf
 refine codeAny_call_builtin F.slot_list_contains.plain F.entry_list_contains (F.slot_list_contains.check _ _ _ _ _ _ _ _ ⟨_,hl,rfl⟩ (F.args_list_contains_2 _ _) (MeetsSeq.list_contains l (intsL ws).toArray ep (.int x u) (isI x) (fun y hy=>?_) P₀ w A R s ⟨hl,?_⟩))
 ·have hy:y∈intsL ws:=by simpa using hy
  obtain⟨c,_,rfl⟩:=List.mem_map.mp hy
  exact MeetsSeq.EqGives.int c.1 x c.2 u
 ·have e:(intsL ws).toArray.any (isI x)=ws.any fun c=>c.1 == x:=by
   rw [List.any_toArray];unfold intsL;rw [List.any_map];rfl
  rw [e]
  exact q _ D
theorem isTuple_hd {s:Shared} {h:Hd} (e:s.heap.get? h.a=some (tupO [.str h.k h.u,.str h.v h.z])):s.heap.IsTuple h.a (List.toArray [.str h.k h.u,.str h.v h.z]):=⟨_,e,rfl,0,rfl⟩
theorem hd_eqAt {A:Around} {s:Shared} (hu:A.units < cLine) {a b:Hd} (ha:s.heap.get? a.a=some (tupO [.str a.k a.u,.str a.v a.z])) (hb:s.heap.get? b.a=some (tupO [.str b.k b.u,.str b.v b.z])) (e:hdF a=hdF b):SeqAt.EqAt A s (.ref a.a) (.ref b.a) true:=by
 by_cases h:a.a=b.a
 ·rw [h];exact SeqAt.EqAt.same _
 ·have ek:a.k=b.k:=congrArg Prod.fst e
  have ev:a.v=b.v:=congrArg Prod.snd e
  refine SeqAt.EqAt.of_refs h ?_
  have:=SeqAt.RcAt.tuples (A:=A) (e:=fun _=>true) (isTuple_hd ha) (isTuple_hd hb) hu (fun j h1 h2=>?_)
  ·exact this
  ·have hj:j=0∨j=1:=by
    have:j < 2:=h1
    exact oxh ‹_›
   rcases hj with rfl | rfl
   ·show SeqAt.EqAt A.in1 s (.str a.k a.u) (.str b.k b.u) true
    have:=(eqGives_str a.k b.k a.u b.u).at A.in1 s
    rw [ek] at this ⊢
    rw [show (b.k == b.k)=true from beq_self_eq_true _] at this
    exact this
   ·show SeqAt.EqAt A.in1 s (.str a.v a.z) (.str b.v b.z) true
    have:=(eqGives_str a.v b.v a.z b.z).at A.in1 s
    rw [ev] at this ⊢
    rw [show (b.v == b.v)=true from beq_self_eq_true _] at this
    exact this
theorem neH_ev {k:Nat} (hk:k≤400) (l l' ep ep' n t:Nat) (hs hs':List Hd) (T:PT) (h1:TabIs hs T) (h2:TabIs hs' T) (f1:h₀.get? l=some (lstO (refsH hs) ep)) (f2:h₀.get? l'=some (lstO (refsH hs') ep')) (c1:Facts h₀ (hs.map Hd.cell)) (c2:Facts h₀ (hs'.map Hd.cell)) :
  Spec w h₀ os k (.call (.builtin "list.__ne__") ⟨[.ref l,.ref l'],[]⟩) ⟨[],n,t⟩ (.ok (.ret (.bool false))) ⟨[],n,t⟩:=by
 intro A s R hA D q
 have g1:s.heap.get? l=some (lstO (refsH hs) ep):=D.keep _ _ f1
 have g2:s.heap.get? l'=some (lstO (refsH hs') ep'):=D.keep _ _ f2
 have hm:hs.map hdF=hs'.map hdF:=h1.trans h2.symm
 have hl:hs.length=hs'.length:=by have:=congrArg List.length hm;simpa using this
 have hu:=hA.units
 have hcl:cLine=9900:=rfl
 refine codeAny_call_builtin F.slot_list_ne.plain F.entry_list_ne (F.slot_list_ne.check _ _ _ _ _ _ _ _ ⟨_,g1,rfl⟩ (F.args_list_ne_2 _ _) (SeqAt.list_neAt l l' (refsH hs).toArray (refsH hs').toArray ep ep' none none #[] #[] (by unfold refsH;simp [hl]) (fun _=>true) P₀ w A R s ⟨g1,g2,fun j j1 j2=>?_,?_⟩))
 ·have hj:j < hs.length:=by simpa [refsH] using j1
  have hj':j < hs'.length:=by simpa [refsH] using j2
  have e1:(refsH hs).toArray[j]=.ref hs[j].a:=by simp [refsH]
  have e2:(refsH hs').toArray[j]=.ref hs'[j].a:=by simp [refsH]
  rw [e1,e2]
  refine hd_eqAt (by show A.units+1 < cLine;omega) (D.keep _ _ (c1 _ (List.mem_map_of_mem (List.getElem_mem hj)))) (D.keep _ _ (c2 _ (List.mem_map_of_mem (List.getElem_mem hj')))) ?_
  have:=congrArg (fun z=>z[j]?) hm
  simp only [List.getElem?_map,List.getElem?_eq_getElem hj,List.getElem?_eq_getElem hj',Option.map_some] at this
  exact Option.some.inj this
 ·have e:(!(List.range (refsH hs).toArray.size).all fun _=>true)=false:=by simp
  rw [e]
  exact q _ D
noncomputable def dcP (l:List De):List (Str×Value):=l.map fun x=>(ltr x.p,.int x.v x.u)
theorem dc_pairs:∀ l:List De,Pairs (strKind P₀ w) (dcE w l) (dcP l)
 | []=>.nil
 | x::l=>.cons (show (ltr x.p == ltr x.p)=true from beq_self_eq_true _) rfl (dc_pairs l)
theorem DeOk.pw {l:List De} (ok:DeOk l):l.Pairwise (fun a b=>ltr a.p≠ltr b.p):=by
 have:=List.pairwise_map.mp ok.nd
 exact this.imp_of_mem fun {a b} ha hb h e=>h (ltr_inj (ok.lt a ha) (ok.lt b hb) e)
theorem dc_of {s:Shared} {d:Nat} {l:List De} (ok:DeOk l) (h:s.heap.get? d=some (dcO w l)):s.heap.DictOf (strKind P₀ w) d (dcP l):=by
 refine⟨_,(dcE w l).toArray,l.length,h,⟨rfl,rfl,rfl⟩,rfl,dc_keys w l,dc_pairs l,?_⟩
 unfold dcP
 rw [List.map_map]
 exact List.pairwise_map.mpr ok.pw
theorem dc_at {l:List De} (hp:l.Pairwise (fun a b=>ltr a.p≠ltr b.p)) {x:De} (hx:x∈l):valueAt (dcP l) (ltr x.p)=some (.int x.v x.u):=by
 induction l with
 | nil=>nomatch hx
 | cons y l ih =>
  obtain⟨h1,h2⟩:=List.pairwise_cons.mp hp
  rcases List.mem_cons.mp hx with rfl | hx
  ·unfold valueAt dcP
   simp
  ·have:=ih h2 hx
   unfold valueAt dcP at this ⊢
   rw [List.map_cons,List.find?_cons]
   simp only [h1 x hx,decide_false]
   exact this
theorem dc_hits {A:Around} {s:Shared} {l':List De} (hp:l'.Pairwise (fun a b=>ltr a.p≠ltr b.p)):∀(l:List De),(∀ x∈l,∃ y∈l',y.p=x.p∧y.v=x.v)→KeqHits A s (dcP l') (dcP l) true
 | [],_=>.nil
 | x::l,h=>by
  obtain⟨y,hy,e1,e2⟩:=h x (.head _)
  have hv:=dc_at hp hy
  rw [e1] at hv
  have he:SeqAt.EqAt A s (.int x.v x.u) (.int y.v y.u) true:=by
   have:=(MeetsSeq.EqGives.int x.v y.v x.u y.u).at A s
   rw [e2] at this ⊢
   rw [show (((x.v:Int)) == (x.v:Int))=true from beq_self_eq_true _] at this
   exact this
  have:=KeqHits.hit (k:=ltr x.p) (v:=.int x.v x.u) hv he (dc_hits hp l fun z hz=>h z (.tail _ hz))
  exact this
theorem eqs_forIn {M:Model} {A:Around} {E:Value→Shared→Prop} {s:Shared} {β:Type} {b0:β} {body:Value×Value→β→Sem (ForInStep β)} {Q:β→Shared→Prop}:∀ {l:List (Value×Value)},(∀ p∈l,∀ R:ForInStep β→Shared→Prop,R (.yield b0) s→wpAny M A (body p b0) R E s)→Q b0 s→wpAny M A (forIn l b0 body) Q E s
 | [],_,hq=>by rw [List.forIn_nil];exact wpAny_pure hq
 | p::l,h,hq=>by
  rw [List.forIn_cons]
  exact wpAny_bind (h p (.head _) _ (eqs_forIn (fun p hp=>h p (.tail _ hp)) hq))
theorem teq_ev (B:Base w h₀) {k:Nat} (hk:k≤400) (x y d d' n t t0 t1 t2 t3 u0 u1 u2 u3:Nat) (v0 v1 v2 v3:Int) (l l':List De) (ok:DeOk l) (ok':DeOk l') (hl:l.length=l'.length) (hsub:∀ x∈l,∃ y∈l',y.p=x.p∧y.v=x.v) (hne:l≠[]) (hne':l'≠[])
  (fx:h₀.get? x=some (tupO [.int v0 t0,.int v1 t1,.int v2 t2,.int v3 t3,.ref d])) (fy:h₀.get? y=some (tupO [.int v0 u0,.int v1 u1,.int v2 u2,.int v3 u3,.ref d'])) (fd:h₀.get? d=some (dcO w l)) (fd':h₀.get? d'=some (dcO w l')) :
  Spec w h₀ os k (.call (.builtin "tuple.__eq__") ⟨[.ref x,.ref y],[]⟩) ⟨[],n,t⟩ (.ok (.ret (.bool true))) ⟨[],n,t⟩:=by
 intro A s R hA D q
 have g1:s.heap.get? x=some (tupO [.int v0 t0,.int v1 t1,.int v2 t2,.int v3 t3,.ref d]):=D.keep _ _ fx
 have g2:s.heap.get? y=some (tupO [.int v0 u0,.int v1 u1,.int v2 u2,.int v3 u3,.ref d']):=D.keep _ _ fy
 have hu:=hA.units
 have hcl:cLine=9900:=rfl
 refine codeAny_call_builtin F.slot_tuple_eq.plain F.entry_tuple_eq (F.slot_tuple_eq.check _ _ _ _ _ _ _ _ ⟨_,g1,rfl⟩ (F.args_tuple_eq_2 _ _) ?_)
 have f2:=AutoSeq1.sub_tuple_tuple
 obtain⟨hp,g,dd,tk,os'⟩:=s
 have g1':hp.get? x=some { cls:=.type "tuple",dict:=none,data:=.seq #[.int v0 t0,.int v1 t1,.int v2 t2,.int v3 t3,.ref d] 0,slots:=#[] }:=g1
 have g2':hp.get? y=some { cls:=.type "tuple",dict:=none,data:=.seq #[.int v0 u0,.int v1 u1,.int v2 u2,.int v3 u3,.ref d'] 0,slots:=#[] }:=g2
 wp_walk using AutoSeq1.wpAny_loadPart' g1',AutoSeq1.wpAny_loadPart' g2',eqs_forIn
 rotate_left
 ·refine wpAny_pure ?_
  exact q _ D
 ·intro p hp' R1 hR
  have hp':p∈[(Value.int v0 t0,Value.int v0 u0),(.int v1 t1,.int v1 u1),(.int v2 t2,.int v2 u2),(.int v3 t3,.int v3 u3),(.ref d,.ref d')]:=hp'
  have key:∀ E Q,Q true (⟨hp,g,dd,tk,os'⟩:Shared)→wpAny (model P₀ w) A.in1 (eqBool p.1 p.2) Q E ⟨hp,g,dd,tk,os'⟩:=by
   intro E Q hq
   have hint:∀(v:Int) (a b:Nat),wpAny (model P₀ w) A.in1 (eqBool (.int v a) (.int v b)) Q E ⟨hp,g,dd,tk,os'⟩:=fun v a b=>wpAny_eqBool_int (by rw [show (v == v)=true from beq_self_eq_true _];exact hq)
   rcases List.mem_cons.mp hp' with rfl | hp'
   ·exact hint _ _ _
   rcases List.mem_cons.mp hp' with rfl | hp'
   ·exact hint _ _ _
   rcases List.mem_cons.mp hp' with rfl | hp'
   ·exact hint _ _ _
   rcases List.mem_cons.mp hp' with rfl | hp'
   ·exact hint _ _ _
   rcases List.mem_singleton.mp hp' with rfl
   have gd:hp.get? d=some (dcO w l):=D.keep _ _ fd
   have gd':hp.get? d'=some (dcO w l'):=D.keep _ _ fd'
   have n1:(d == sysModules)=false:=by
    match l,hne,fd with
    | x::l,_,fd=>have:=big_d B fd;exact beq_false_of_ne (show d≠1 by omega)
   have n2:(d' == sysModules)=false:=by
    match l',hne',fd' with
    | x::l',_,fd'=>have:=big_d B fd';exact beq_false_of_ne (show d'≠1 by omega)
   unfold eqBool
   refine wpAny_holding ?_
   refine wpAny_ite_split (fun _=>wpAny_bind (wpAny_rule (wpAny_pure hq))) (fun _=>?_)
   refine wpAny_bind (keq_eq (knd:=strKind P₀ w) n1 n2 (dc_of ok gd) (dc_of ok' gd') (by show A.units+1 < cLine;omega) (fun _=>dc_hits ok'.pw l hsub) ?_)
   have e:((dcP l).length == (dcP l').length&&true)=true:=by unfold dcP;simp [hl]
   rw [e]
   exact wpAny_truthy_bool hq
  obtain⟨x1,x2⟩:=p
  exact wpAny_bind (key _ _ (wpAny_pure hR))
end
noncomputable def nm277:List Str:=[sO "script",sO "numbers",sO "seats",sO "lists",sO "votes",sO "callers",sO "pairs",sO "turn",sO "table",sO "after",sO "joined"]
noncomputable def nm194:List Str:=[sO "self"]
noncomputable def sumX (s:Stmt):Expr:=match compX s with
 | .Call _ (a::_) ..=>a
 | _=>.Name (sO "") default
theorem items_in {w:World} {h₀:Heap} {os:OsState} (B:Base w h₀) {k:Nat} (hk:k≤200) (x:Nat) (n t:Nat) (rest:List (Nat×Obj)) {r:Result} {m':SM}
  (h:Spec w h₀ os k (.func (bodyOf (fdAt w 194)) (envAt w 194 n)) ⟨(n,frN w nm194 (tf t) [(.ref x)])::rest,n+1,t+1⟩ r m') :
  Spec w h₀ os k (.call (.ref 194) ⟨[.ref x],[]⟩) ⟨rest,n,t⟩ r m' :=
 spec_fn B (by kernel_rfl) (show RT3 (runT w (bindZ (fdAt w 194) ⟨[.ref x],[]⟩) ⟨rest,n,t⟩ []) (.ok [((sO "self"),(.ref x))]) ⟨rest,n,t⟩ from⟨by kernel_rfl,by kernel_rfl,by kernel_rfl⟩)
  (show RT3 (runT w (envZ (fdAt w 194).scope (fdAt w 194).globals (fdAt w 194).closure [((sO "self"),(.ref x))] ((fdAt w 194).qualname++sO ".<locals>.") (some 194) (fdAt w 194).code none (fdAt w 194).builtins) ⟨rest,n,t⟩ [1,1]) (.ok (envAt w 194 n)) ⟨(n,frN w nm194 (tf t) [(.ref x)])::rest,n+1,t+1⟩ from⟨by kernel_rfl,by kernel_rfl,by kernel_rfl⟩) h hk
theorem items_b:∀(w:World) (n t x dx th l ep:Nat) (vs vt:List Value) (rest:List (Nat×Obj)),(fun(A B C D E F:Nat×Obj)=>Good w (.func (bodyOf (fdAt w 194)) (envAt w 194 n)) [] ⟨B::C::A::E::rest,(n+1),(t+1)⟩ [1,2,0,0,0,0,2,0,0,0,2,2,0,3,5,5,5,1,0] [.at (.call (.builtin "list.__getitem__") ⟨[(.ref l),(.ref (n+1))],[]⟩) ⟨D::B::C::A::E::rest,(n+2),(t+2)⟩ (.ok (.ret (.ref (n+2)))) ⟨F::D::B::C::A::E::rest,(n+3),(t+2)⟩] (.ok (.done (.ret (.ref (n+2))))) [0,3,4,5] 6 ⟨F::C::A::E::rest,(n+3),(t+2)⟩) (dx,dctO [ez w.params (sO "_headers") th (.ref l)] 1) (n,frN w nm194 (tf t) [(.ref x)]) (x,insO 230 dx) ((n+1),fldO "slice" [.none,.none,.none]) (l,lstO vs ep) ((n+2),lstO vt 0):=by walk_at "r"
theorem law_in {w:World} {h₀:Heap} {os:OsState} (B:Base w h₀) {k:Nat} (hk:k≤200) (sc:Nat) (n t:Nat) (rest:List (Nat×Obj)) {r:Result} {m':SM}
  (h:Spec w h₀ os k (.func (bodyOf (fdAt w 277)) (envAt w 277 n)) ⟨(n,frN w nm277 (tf t) [(.ref sc)])::rest,n+1,t+1⟩ r m') :
  Spec w h₀ os k (.call (.ref 277) ⟨[.ref sc],[]⟩) ⟨rest,n,t⟩ r m' :=
 spec_fn B (by kernel_rfl) (show RT3 (runT w (bindZ (fdAt w 277) ⟨[.ref sc],[]⟩) ⟨rest,n,t⟩ []) (.ok [((sO "script"),(.ref sc))]) ⟨rest,n,t⟩ from⟨by kernel_rfl,by kernel_rfl,by kernel_rfl⟩)
  (show RT3 (runT w (envZ (fdAt w 277).scope (fdAt w 277).globals (fdAt w 277).closure [((sO "script"),(.ref sc))] ((fdAt w 277).qualname++sO ".<locals>.") (some 277) (fdAt w 277).code none (fdAt w 277).builtins) ⟨rest,n,t⟩ [1,1]) (.ok (envAt w 277 n)) ⟨(n,frN w nm277 (tf t) [(.ref sc)])::rest,n+1,t+1⟩ from⟨by kernel_rfl,by kernel_rfl,by kernel_rfl⟩) h hk
theorem vo_s:∀(w:World) (n t L it acc F:Nat) (f1:List Value) (rest:List (Nat×Obj)),(fun(A:Expr) (B:Nat×Obj)=>(fun(C:Env)=>Good w (compS A (.ref it) (.ref acc) C) [] ⟨B::rest,n,t⟩ (twice w [] [1,1,0,1,1]) [] (.ok (.again (compL A (.ref it) (.ref acc) C))) [0] 1 ⟨B::rest,n,t⟩) (envQ w 277 L A F [])) (sumX (stAt (bodyOf (fdAt w 277)) 3)) (it,fldO "list_iterator" f1):=by
 refine byRow2 "special-get-raises" ?_ ?_<;>refine byRow2 "comprehension-iter-twice" ?_ ?_<;>(intros;exact⟨by kernel_rfl,by kernel_rfl,by kernel_rfl,by kernel_rfl⟩)
theorem vo_e:∀(w:World) (n t s1 t1 L it acc F st:Nat) (V15:Value) (f1 f2:List Value) (rest:List (Nat×Obj)),(fun(A:Expr) (B:Nat×Obj)=>GoodH w (compL A (.ref it) (.ref acc) (envQ w 277 L A F [])) [] ⟨B::rest,n,t⟩ [1,1,1] [.at (.call (.builtin "list_iterator.__next__") ⟨[(.ref it)],[]⟩) ⟨B::rest,n,t⟩ (.error (.ref st)) ⟨(st,fldO "StopIteration" [V15,.none,.none,.none,(.bool false),.none])::(it,fldO "list_iterator" f2)::rest,s1,t1⟩] (.ok .next) [] 2 ⟨rest,s1,t1⟩) (sumX (stAt (bodyOf (fdAt w 277)) 3)) (it,fldO "list_iterator" f1):=by walk_at "r"
theorem vo_f:∀(w:World) (n t L it acc F a e tp tl tv ep:Nat) (V11 V12 V13 V14:Value) (p v:Int) (c:Str) (f1 f2 vs:List Value) (rest:List (Nat×Obj)),(fun(A C D E G H I J:Nat×Obj) (B:Code)=>Good w B [(a,tupO [(.int p tp),(.str c tl),(.ref e)]),(e,tupO [(.int v tv),V11,V12,V13,V14])] ⟨I::J::E::rest,n,t⟩ [1,1,1,1001,1001,1001,0,1001,1,1,0,1,1,1,1001,1,1,1,0,1,1,1,1001,1,1,1,0,1,1,1,1001,1,1,1,0,1,1,1,1001,1,1,1,5,5,5,5,5,5,5,1002,1002,1002,0,1002,1002,1] [.at (.call (.builtin "list_iterator.__next__") ⟨[(.ref it)],[]⟩) ⟨I::J::E::rest,n,t⟩ (.ok (.ret (.ref a))) ⟨D::J::E::rest,n,t⟩,.at (.call (.builtin "list.append") ⟨[(.ref acc),(.int v tv)],[]⟩) ⟨C::((n+1),tupO [])::G::D::A::E::rest,(n+3),(t+4)⟩ (.ok (.ret .none)) ⟨C::((n+1),tupO [])::G::D::A::H::rest,(n+3),(t+4)⟩] (.ok (.again B)) [3,4,5] 6 ⟨D::A::H::rest,(n+3),(t+4)⟩) (F,dctO [ez w.params (sO "place") t (.int p tp),ez w.params (sO "letter") (t+1) (.str c tl),ez w.params (sO "entry") (t+2) (.ref e)] 3) ((n+2),fldO "StopIteration" [(.ref (n+1)),.none,.none,.none,(.bool false),.none]) (it,fldO "list_iterator" f2) (acc,lstO vs ep) (n,fldO "tuple_iterator" [.none,(.int 3 0)]) (acc,lstO (vs++[(.int v tv)]) (ep+1)) (it,fldO "list_iterator" f1) (F,dctO [] 0) (compL (sumX (stAt (bodyOf (fdAt w 277)) 3)) (.ref it) (.ref acc) (envQ w 277 L (sumX (stAt (bodyOf (fdAt w 277)) 3)) F [])):=by walk_at "r"
theorem vo_l:∀(w:World) (n t L it acc F a e tp tl tv ep k0 k1 k2:Nat) (V0 V1 V2 V11 V12 V13 V14:Value) (p v:Int) (c:Str) (f1 f2 vs:List Value) (rest:List (Nat×Obj)),(fun(A B D E G H I J:Nat×Obj) (C:Code)=>Good w C [(a,tupO [(.int p tp),(.str c tl),(.ref e)]),(e,tupO [(.int v tv),V11,V12,V13,V14])] ⟨J::B::G::rest,n,t⟩ [1,1,1,1001,1001,1001,0,1001,1,1,0,1,1,1,1001,1,1,1,0,1,1,1,1001,1,1,1,0,1,1,1,1001,1,1,1,0,1,1,1,1001,1,1,1,5,5,5,5,5,5,5,1002,1002,1002,0,1002,1002,1] [.at (.call (.builtin "list_iterator.__next__") ⟨[(.ref it)],[]⟩) ⟨J::B::G::rest,n,t⟩ (.ok (.ret (.ref a))) ⟨E::B::G::rest,n,t⟩,.at (.call (.builtin "list.append") ⟨[(.ref acc),(.int v tv)],[]⟩) ⟨D::((n+1),tupO [])::H::E::A::G::rest,(n+3),(t+4)⟩ (.ok (.ret .none)) ⟨D::((n+1),tupO [])::H::E::A::I::rest,(n+3),(t+4)⟩] (.ok (.again C)) [3,4,5] 6 ⟨E::A::I::rest,(n+3),(t+4)⟩) (F,dctO [ez w.params (sO "place") k0 (.int p tp),ez w.params (sO "letter") k1 (.str c tl),ez w.params (sO "entry") k2 (.ref e)] 3) (F,dctO [ez w.params (sO "place") k0 V0,ez w.params (sO "letter") k1 V1,ez w.params (sO "entry") k2 V2] 3) ((n+2),fldO "StopIteration" [(.ref (n+1)),.none,.none,.none,(.bool false),.none]) (it,fldO "list_iterator" f2) (acc,lstO vs ep) (n,fldO "tuple_iterator" [.none,(.int 3 0)]) (acc,lstO (vs++[(.int v tv)]) (ep+1)) (it,fldO "list_iterator" f1) (compL (sumX (stAt (bodyOf (fdAt w 277)) 3)) (.ref it) (.ref acc) (envQ w 277 L (sumX (stAt (bodyOf (fdAt w 277)) 3)) F [])):=by walk_at "r"
theorem ca_s:∀(w:World) (n t L it acc F:Nat) (f1:List Value) (rest:List (Nat×Obj)),(fun(A:Expr) (B:Nat×Obj)=>(fun(C:Env)=>Good w (compS A (.ref it) (.ref acc) C) [] ⟨B::rest,n,t⟩ (twice w [] [1,1,0,1,1]) [] (.ok (.again (compL A (.ref it) (.ref acc) C))) [0] 1 ⟨B::rest,n,t⟩) (envQ w 277 L A F [])) (compX (stAt (bodyOf (fdAt w 277)) 4)) (it,fldO "list_iterator" f1):=by
 refine byRow2 "special-get-raises" ?_ ?_<;>refine byRow2 "comprehension-iter-twice" ?_ ?_<;>(intros;exact⟨by kernel_rfl,by kernel_rfl,by kernel_rfl,by kernel_rfl⟩)
theorem ca_e:∀(w:World) (n t s1 t1 L it acc F st:Nat) (V15:Value) (f1 f2:List Value) (rest:List (Nat×Obj)),(fun(A:Expr) (B:Nat×Obj)=>GoodH w (compL A (.ref it) (.ref acc) (envQ w 277 L A F [])) [] ⟨B::rest,n,t⟩ [1,1,1] [.at (.call (.builtin "list_iterator.__next__") ⟨[(.ref it)],[]⟩) ⟨B::rest,n,t⟩ (.error (.ref st)) ⟨(st,fldO "StopIteration" [V15,.none,.none,.none,(.bool false),.none])::(it,fldO "list_iterator" f2)::rest,s1,t1⟩] (.ok .next) [] 2 ⟨rest,s1,t1⟩) (compX (stAt (bodyOf (fdAt w 277)) 4)) (it,fldO "list_iterator" f1):=by walk_at "r"
theorem ca_f0:∀(w:World) (n t L it acc F a e tp tl tv:Nat) (V11 V12 V13 V14:Value) (p v:Int) (f1 f2:List Value) (rest:List (Nat×Obj)),(fun(A:Code) (B C D E:Nat×Obj)=>Good w A [(a,tupO [(.int p tp),(.str (sO "a") tl),(.ref e)]),(e,tupO [(.int v tv),V11,V12,V13,V14])] ⟨C::E::B::rest,n,t⟩ [1,1,1,1001,1001,1001,0,1001,1,1,0,1,1,1,1001,1,1,1,0,1,1,1,1001,1,1,1,0,1,1,1,1001,1,1,1,0,1,1,1,1001,1,1,1,5,5,5,5,5,5,5,5,1002,1002,1002,0,1002,1002,0,6,6,6,6] [.at (.call (.builtin "list_iterator.__next__") ⟨[(.ref it)],[]⟩) ⟨C::E::B::rest,n,t⟩ (.ok (.ret (.ref a))) ⟨D::E::B::rest,n,t⟩] (.ok (.again A)) [3,4,5] 6 ⟨D::(F,dctO [ez w.params (sO "place") t (.int p tp),ez w.params (sO "letter") (t+1) (.str (sO "a") tl),ez w.params (sO "entry") (t+2) (.ref e)] 3)::(acc,dctO [ez w.params (sO "a") tl (.int v tv)] 1)::rest,(n+3),(t+5)⟩) (compL (compX (stAt (bodyOf (fdAt w 277)) 4)) (.ref it) (.ref acc) (envQ w 277 L (compX (stAt (bodyOf (fdAt w 277)) 4)) F [])) (acc,dctO [] 0) (it,fldO "list_iterator" f1) (it,fldO "list_iterator" f2) (F,dctO [] 0):=by walk_at "r"
theorem ca_l1:∀(w:World) (n t L it acc F a e tp tl tv m0 k0 k1 k2:Nat) (V0 V1 V2 V5 V11 V12 V13 V14:Value) (p v:Int) (f1 f2:List Value) (rest:List (Nat×Obj)),(fun(A C D E:Nat×Obj) (B:Code)=>Good w B [(a,tupO [(.int p tp),(.str (sO "b") tl),(.ref e)]),(e,tupO [(.int v tv),V11,V12,V13,V14])] ⟨D::A::C::rest,n,t⟩ [1,1,1,1001,1001,1001,0,1001,1,1,0,1,1,1,1001,1,1,1,0,1,1,1,1001,1,1,1,0,1,1,1,1001,1,1,1,0,1,1,1,1001,1,1,1,5,5,5,5,5,5,5,5,1002,1002,1002,0,1002,1002,0,6,6,6,6] [.at (.call (.builtin "list_iterator.__next__") ⟨[(.ref it)],[]⟩) ⟨D::A::C::rest,n,t⟩ (.ok (.ret (.ref a))) ⟨E::A::C::rest,n,t⟩] (.ok (.again B)) [3,4,5] 6 ⟨E::(F,dctO [ez w.params (sO "place") k0 (.int p tp),ez w.params (sO "letter") k1 (.str (sO "b") tl),ez w.params (sO "entry") k2 (.ref e)] 3)::(acc,dctO [ez w.params (sO "a") m0 V5,ez w.params (sO "b") tl (.int v tv)] 2)::rest,(n+3),(t+5)⟩) (F,dctO [ez w.params (sO "place") k0 V0,ez w.params (sO "letter") k1 V1,ez w.params (sO "entry") k2 V2] 3) (acc,dctO [ez w.params (sO "a") m0 V5] 1) (it,fldO "list_iterator" f1) (it,fldO "list_iterator" f2) (compL (compX (stAt (bodyOf (fdAt w 277)) 4)) (.ref it) (.ref acc) (envQ w 277 L (compX (stAt (bodyOf (fdAt w 277)) 4)) F [])):=by walk_at "r"
theorem ca_l2:∀(w:World) (n t L it acc F a e tp tl tv m0 m1 k0 k1 k2:Nat) (V0 V1 V2 V5 V6 V11 V12 V13 V14:Value) (p v:Int) (f1 f2:List Value) (rest:List (Nat×Obj)),(fun(A B D E:Nat×Obj) (C:Code)=>Good w C [(a,tupO [(.int p tp),(.str (sO "c") tl),(.ref e)]),(e,tupO [(.int v tv),V11,V12,V13,V14])] ⟨D::A::B::rest,n,t⟩ [1,1,1,1001,1001,1001,0,1001,1,1,0,1,1,1,1001,1,1,1,0,1,1,1,1001,1,1,1,0,1,1,1,1001,1,1,1,0,1,1,1,1001,1,1,1,5,5,5,5,5,5,5,5,1002,1002,1002,0,1002,1002,0,6,6,6,6] [.at (.call (.builtin "list_iterator.__next__") ⟨[(.ref it)],[]⟩) ⟨D::A::B::rest,n,t⟩ (.ok (.ret (.ref a))) ⟨E::A::B::rest,n,t⟩] (.ok (.again C)) [3,4,5] 6 ⟨E::(F,dctO [ez w.params (sO "place") k0 (.int p tp),ez w.params (sO "letter") k1 (.str (sO "c") tl),ez w.params (sO "entry") k2 (.ref e)] 3)::(acc,dctO [ez w.params (sO "a") m0 V5,ez w.params (sO "b") m1 V6,ez w.params (sO "c") tl (.int v tv)] 3)::rest,(n+3),(t+5)⟩) (F,dctO [ez w.params (sO "place") k0 V0,ez w.params (sO "letter") k1 V1,ez w.params (sO "entry") k2 V2] 3) (acc,dctO [ez w.params (sO "a") m0 V5,ez w.params (sO "b") m1 V6] 2) (it,fldO "list_iterator" f1) (it,fldO "list_iterator" f2) (compL (compX (stAt (bodyOf (fdAt w 277)) 4)) (.ref it) (.ref acc) (envQ w 277 L (compX (stAt (bodyOf (fdAt w 277)) 4)) F [])):=by walk_at "r"
theorem ca_l3:∀(w:World) (n t L it acc F a e tp tl tv m0 m1 m2 k0 k1 k2:Nat) (V0 V1 V2 V5 V6 V7 V11 V12 V13 V14:Value) (p v:Int) (f1 f2:List Value) (rest:List (Nat×Obj)),(fun(A B D E:Nat×Obj) (C:Code)=>Good w C [(a,tupO [(.int p tp),(.str (sO "d") tl),(.ref e)]),(e,tupO [(.int v tv),V11,V12,V13,V14])] ⟨D::A::B::rest,n,t⟩ [1,1,1,1001,1001,1001,0,1001,1,1,0,1,1,1,1001,1,1,1,0,1,1,1,1001,1,1,1,0,1,1,1,1001,1,1,1,0,1,1,1,1001,1,1,1,5,5,5,5,5,5,5,5,1002,1002,1002,0,1002,1002,0,6,6,6,6] [.at (.call (.builtin "list_iterator.__next__") ⟨[(.ref it)],[]⟩) ⟨D::A::B::rest,n,t⟩ (.ok (.ret (.ref a))) ⟨E::A::B::rest,n,t⟩] (.ok (.again C)) [3,4,5] 6 ⟨E::(F,dctO [ez w.params (sO "place") k0 (.int p tp),ez w.params (sO "letter") k1 (.str (sO "d") tl),ez w.params (sO "entry") k2 (.ref e)] 3)::(acc,dctO [ez w.params (sO "a") m0 V5,ez w.params (sO "b") m1 V6,ez w.params (sO "c") m2 V7,ez w.params (sO "d") tl (.int v tv)] 4)::rest,(n+3),(t+5)⟩) (F,dctO [ez w.params (sO "place") k0 V0,ez w.params (sO "letter") k1 V1,ez w.params (sO "entry") k2 V2] 3) (acc,dctO [ez w.params (sO "a") m0 V5,ez w.params (sO "b") m1 V6,ez w.params (sO "c") m2 V7] 3) (it,fldO "list_iterator" f1) (it,fldO "list_iterator" f2) (compL (compX (stAt (bodyOf (fdAt w 277)) 4)) (.ref it) (.ref acc) (envQ w 277 L (compX (stAt (bodyOf (fdAt w 277)) 4)) F [])):=by walk_at "r"
section
variable {w:World} {h₀:Heap} {os:OsState}
theorem pick_all (vs:List Value):kms_pick vs none none=vs:=by
 unfold kms_pick kms_lo kms_hi
 simp
theorem items_ok (B:Base w h₀) {k:Nat} (hk:k≤200) (x dx th l ep n t:Nat) (hs:List Hd) (hz:hs.length≤8) :
  Spec w h₀ os k (.call (.ref 194) ⟨[.ref x],[]⟩) ⟨tabC w x dx th l ep hs,n,t⟩ (.ok (.ret (.ref (n+2)))) ⟨(n+2,lstO (refsH hs) 0)::tabC w x dx th l ep hs,n+3,t+2⟩:=by
 refine items_in B (by assumption) x n t _ ?_
 have gR:=items_b w n t x dx th l ep (refsH hs) (refsH hs) (hs.map Hd.cell)
 refine good_done gR B facts_nil ⟨?_,trivial⟩
 refine midH B (T:=[(n+1,fldO "slice" [.none,.none,.none])]) (T':=[(n+2,lstO (refsH hs) 0),(n+1,fldO "slice" [.none,.none,.none])]) (fun h₁ B1 K1 F1=>?_) rfl rfl
 have:=lsl_ev (os:=os) (k:=k+21) B1 l ep (n+1) (n+2) (t+2) (refsH hs) .none .none none none .none .none (by unfold refsH;rw [List.length_map];exact Nat.le_trans ‹_› (by decide)) (F1 _ (.tail _ (.tail _ (.tail _ (.head _)))))
 rw [pick_all] at this
 exact this
end
noncomputable abbrev XV (w:World):Expr:=sumX (stAt (bodyOf (fdAt w 277)) 3)
noncomputable abbrev XC (w:World):Expr:=compX (stAt (bodyOf (fdAt w 277)) 4)
section
variable {w:World} {os:OsState}
theorem vo_ok {k:Nat} (hk:k≤110) (L it acc F la le n t:Nat) (y0 y1 y2 y3:Lx) :
  ∃(k0 k1 k2:Nat) (V0 V1 V2:Value) (n' t':Nat),∀(h₀:Heap),Base w h₀→Facts h₀ ((la,lstO (refsL [y0,y1,y2,y3]) le)::liC [y0,y1,y2,y3]) →
   Spec w h₀ os k (compS (XV w) (.ref it) (.ref acc) (envQ w 277 L (XV w) F [])) ⟨[(it,fldO "list_iterator" [.ref la,.int ((0:Nat):Int) 0]),(F,dctO [] 0),(acc,lstO [] 0)],n,t⟩ (.ok .next)
    ⟨[(F,dctO [ez w.params (sO "place") k0 V0,ez w.params (sO "letter") k1 V1,ez w.params (sO "entry") k2 V2] 3),(acc,lstO (intsL ([y0,y1,y2,y3].map fun y=>(((y.v:Nat):Int),y.tv))) 4)],n',t'⟩:=by
 refine⟨t,t+1,t+2,.int y3.p y3.tp,.str (ltr y3.p) y3.tl,.ref y3.e,n+3+3+3+3+2,t+4+4+4+4,fun h₀ B FF=>?_⟩
 have gS:=vo_s w n t L it acc F [.ref la,.int ((0:Nat):Int) 0] [(F,dctO [] 0),(acc,lstO [] 0)]
 refine good_again gS B facts_nil trivial ?_
 have gR:=vo_f w (n) (t) L it acc F y0.a y0.e y0.tp y0.tl y0.tv 0 (.int y0.h y0.th) (.int y0.o y0.to) (.int y0.c y0.tc) (.ref y0.d) y0.p y0.v (ltr y0.p) [.ref la,.int ((0:Nat):Int) 0] [.ref la,.int ((1:Nat):Int) 0] [] []
 refine good_again gR B ((facts_nil.cons (FF _ (.tail _ (.tail _ (.head _))))).cons (FF _ (.tail _ (.head _)))) ⟨?_,?_,trivial⟩ ?_
 ·exact midH B (fun h₁ B1 K1 F1=>lnG it la le (n) (t) 0 _ _ rfl (K1 _ _ (FF _ (.head _)))) rfl rfl
 ·exact midE B 5 (fun h₁ B1 K1 F1=>app_ev B1 acc 0 (n+3) (t+4) [] _ (by simp)) rfl rfl
 clear gR
 have gR:=vo_l w (n+3) (t+4) L it acc F y1.a y1.e y1.tp y1.tl y1.tv 1 t (t+1) (t+2) (.int y0.p y0.tp) (.str (ltr y0.p) y0.tl) (.ref y0.e) (.int y1.h y1.th) (.int y1.o y1.to) (.int y1.c y1.tc) (.ref y1.d) y1.p y1.v (ltr y1.p) [.ref la,.int ((1:Nat):Int) 0] [.ref la,.int ((2:Nat):Int) 0] [.int y0.v y0.tv] []
 refine good_again gR B ((facts_nil.cons (FF _ (.tail _ (.tail _ (.tail _ (.tail _ (.head _))))))).cons (FF _ (.tail _ (.tail _ (.tail _ (.head _)))))) ⟨?_,?_,trivial⟩ ?_
 ·exact midH B (fun h₁ B1 K1 F1=>lnG it la le (n+3) (t+4) 1 _ _ rfl (K1 _ _ (FF _ (.head _)))) rfl rfl
 ·exact midE B 5 (fun h₁ B1 K1 F1=>app_ev B1 acc 1 (n+3+3) (t+4+4) [.int y0.v y0.tv] _ (by simp)) rfl rfl
 clear gR
 have gR:=vo_l w (n+3+3) (t+4+4) L it acc F y2.a y2.e y2.tp y2.tl y2.tv 2 t (t+1) (t+2) (.int y1.p y1.tp) (.str (ltr y1.p) y1.tl) (.ref y1.e) (.int y2.h y2.th) (.int y2.o y2.to) (.int y2.c y2.tc) (.ref y2.d) y2.p y2.v (ltr y2.p) [.ref la,.int ((2:Nat):Int) 0] [.ref la,.int ((3:Nat):Int) 0] [.int y0.v y0.tv,.int y1.v y1.tv] []
 refine good_again gR B ((facts_nil.cons (FF _ (.tail _ (.tail _ (.tail _ (.tail _ (.tail _ (.tail _ (.head _))))))))).cons (FF _ (.tail _ (.tail _ (.tail _ (.tail _ (.tail _ (.head _)))))))) ⟨?_,?_,trivial⟩ ?_
 ·exact midH B (fun h₁ B1 K1 F1=>lnG it la le (n+3+3) (t+4+4) 2 _ _ rfl (K1 _ _ (FF _ (.head _)))) rfl rfl
 ·exact midE B 5 (fun h₁ B1 K1 F1=>app_ev B1 acc 2 (n+3+3+3) (t+4+4+4) [.int y0.v y0.tv,.int y1.v y1.tv] _ (by simp)) rfl rfl
 clear gR
 have gR:=vo_l w (n+3+3+3) (t+4+4+4) L it acc F y3.a y3.e y3.tp y3.tl y3.tv 3 t (t+1) (t+2) (.int y2.p y2.tp) (.str (ltr y2.p) y2.tl) (.ref y2.e) (.int y3.h y3.th) (.int y3.o y3.to) (.int y3.c y3.tc) (.ref y3.d) y3.p y3.v (ltr y3.p) [.ref la,.int ((3:Nat):Int) 0] [.ref la,.int ((4:Nat):Int) 0] [.int y0.v y0.tv,.int y1.v y1.tv,.int y2.v y2.tv] []
 refine good_again gR B ((facts_nil.cons (FF _ (.tail _ (.tail _ (.tail _ (.tail _ (.tail _ (.tail _ (.tail _ (.tail _ (.head _))))))))))).cons (FF _ (.tail _ (.tail _ (.tail _ (.tail _ (.tail _ (.tail _ (.tail _ (.head _)))))))))) ⟨?_,?_,trivial⟩ ?_
 ·exact midH B (fun h₁ B1 K1 F1=>lnG it la le (n+3+3+3) (t+4+4+4) 3 _ _ rfl (K1 _ _ (FF _ (.head _)))) rfl rfl
 ·exact midE B 5 (fun h₁ B1 K1 F1=>app_ev B1 acc 3 (n+3+3+3+3) (t+4+4+4+4) [.int y0.v y0.tv,.int y1.v y1.tv,.int y2.v y2.tv] _ (by simp)) rfl rfl
 clear gR
 exact good_h (vo_e w (n+3+3+3+3) (t+4+4+4+4) (n+3+3+3+3+2) (t+4+4+4+4) L it acc F (n+3+3+3+3+1) (.ref (n+3+3+3+3)) [.ref la,.int ((4:Nat):Int) 0] [.none,.int ((4:Nat):Int) 0] _) B facts_nil ⟨midH B (fun h₁ B1 K1 F1=>leG it la le (n+3+3+3+3) (t+4+4+4+4) 4 _ rfl (K1 _ _ (FF _ (.head _)))) rfl rfl,trivial⟩
theorem ca_ok {k:Nat} (hk:k≤110) (L it acc F la le n t:Nat) (y0 y1 y2 y3:Lx) (q0:y0.p=0) (q1:y1.p=1) (q2:y2.p=2) (q3:y3.p=3) :
  ∃(k0 k1 k2:Nat) (V0 V1 V2:Value) (n' t':Nat),∀(h₀:Heap),Base w h₀→Facts h₀ ((la,lstO (refsL [y0,y1,y2,y3]) le)::liC [y0,y1,y2,y3]) →
   Spec w h₀ os k (compS (XC w) (.ref it) (.ref acc) (envQ w 277 L (XC w) F [])) ⟨[(it,fldO "list_iterator" [.ref la,.int ((0:Nat):Int) 0]),(F,dctO [] 0),(acc,dctO [] 0)],n,t⟩ (.ok .next)
    ⟨[(F,dctO [ez w.params (sO "place") k0 V0,ez w.params (sO "letter") k1 V1,ez w.params (sO "entry") k2 V2] 3),(acc,dcO w ([y0,y1,y2,y3].map fun y=>⟨y.p,y.tl,y.v,y.tv⟩))],n',t'⟩:=by
 obtain⟨a0,b0,c0,d0,e0,p0,v0,h0,i0,o0,j0,l0,m0,g0,r0⟩:=y0
 obtain⟨a1,b1,c1,d1,e1,p1,v1,h1,i1,o1,j1,l1,m1,g1,r1⟩:=y1
 obtain⟨a2,b2,c2,d2,e2,p2,v2,h2,i2,o2,j2,l2,m2,g2,r2⟩:=y2
 obtain⟨a3,b3,c3,d3,e3,p3,v3,h3,i3,o3,j3,l3,m3,g3,r3⟩:=y3
 subst q0 q1 q2 q3
 refine⟨t,t+1,t+2,.int ((3:Nat):Int) b3,.str (ltr 3) c3,.ref d3,n+3+3+3+3+2,t+5+5+5+5,fun h₀ B FF=>?_⟩
 have gS:=ca_s w n t L it acc F [.ref la,.int ((0:Nat):Int) 0] [(F,dctO [] 0),(acc,dctO [] 0)]
 refine good_again gS B facts_nil trivial ?_
 have gR:=ca_f0 w (n) (t) L it acc F a0 d0 b0 c0 e0 (.int h0 i0) (.int o0 j0) (.int l0 m0) (.ref g0) 0 v0 [.ref la,.int ((0:Nat):Int) 0] [.ref la,.int ((1:Nat):Int) 0] []
 refine good_again gR B ((facts_nil.cons (FF _ (.tail _ (.tail _ (.head _))))).cons (FF _ (.tail _ (.head _)))) ⟨?_,trivial⟩ ?_
 ·exact midH B (fun h₁ B1 K1 F1=>lnG it la le (n) (t) 0 _ _ rfl (K1 _ _ (FF _ (.head _)))) rfl rfl
 clear gR
 have gR:=ca_l1 w (n+3) (t+5) L it acc F a1 d1 b1 c1 e1 c0 t (t+1) (t+2) (.int 0 b0) (.str (ltr 0) c0) (.ref d0) (.int v0 e0) (.int h1 i1) (.int o1 j1) (.int l1 m1) (.ref g1) 1 v1 [.ref la,.int ((1:Nat):Int) 0] [.ref la,.int ((2:Nat):Int) 0] []
 refine good_again gR B ((facts_nil.cons (FF _ (.tail _ (.tail _ (.tail _ (.tail _ (.head _))))))).cons (FF _ (.tail _ (.tail _ (.tail _ (.head _)))))) ⟨?_,trivial⟩ ?_
 ·exact midH B (fun h₁ B1 K1 F1=>lnG it la le (n+3) (t+5) 1 _ _ rfl (K1 _ _ (FF _ (.head _)))) rfl rfl
 clear gR
 have gR:=ca_l2 w (n+3+3) (t+5+5) L it acc F a2 d2 b2 c2 e2 c0 c1 t (t+1) (t+2) (.int 1 b1) (.str (ltr 1) c1) (.ref d1) (.int v0 e0) (.int v1 e1) (.int h2 i2) (.int o2 j2) (.int l2 m2) (.ref g2) 2 v2 [.ref la,.int ((2:Nat):Int) 0] [.ref la,.int ((3:Nat):Int) 0] []
 refine good_again gR B ((facts_nil.cons (FF _ (.tail _ (.tail _ (.tail _ (.tail _ (.tail _ (.tail _ (.head _))))))))).cons (FF _ (.tail _ (.tail _ (.tail _ (.tail _ (.tail _ (.head _)))))))) ⟨?_,trivial⟩ ?_
 ·exact midH B (fun h₁ B1 K1 F1=>lnG it la le (n+3+3) (t+5+5) 2 _ _ rfl (K1 _ _ (FF _ (.head _)))) rfl rfl
 clear gR
 have gR:=ca_l3 w (n+3+3+3) (t+5+5+5) L it acc F a3 d3 b3 c3 e3 c0 c1 c2 t (t+1) (t+2) (.int 2 b2) (.str (ltr 2) c2) (.ref d2) (.int v0 e0) (.int v1 e1) (.int v2 e2) (.int h3 i3) (.int o3 j3) (.int l3 m3) (.ref g3) 3 v3 [.ref la,.int ((3:Nat):Int) 0] [.ref la,.int ((4:Nat):Int) 0] []
 refine good_again gR B ((facts_nil.cons (FF _ (.tail _ (.tail _ (.tail _ (.tail _ (.tail _ (.tail _ (.tail _ (.tail _ (.head _))))))))))).cons (FF _ (.tail _ (.tail _ (.tail _ (.tail _ (.tail _ (.tail _ (.tail _ (.head _)))))))))) ⟨?_,trivial⟩ ?_
 ·exact midH B (fun h₁ B1 K1 F1=>lnG it la le (n+3+3+3) (t+5+5+5) 3 _ _ rfl (K1 _ _ (FF _ (.head _)))) rfl rfl
 clear gR
 exact good_h (ca_e w (n+3+3+3+3) (t+5+5+5+5) (n+3+3+3+3+2) (t+5+5+5+5) L it acc F (n+3+3+3+3+1) (.ref (n+3+3+3+3)) [.ref la,.int ((4:Nat):Int) 0] [.none,.int ((4:Nat):Int) 0] _) B facts_nil ⟨midH B (fun h₁ B1 K1 F1=>leG it la le (n+3+3+3+3) (t+5+5+5+5) 4 _ rfl (K1 _ _ (FF _ (.head _)))) rfl rfl,trivial⟩
end
noncomputable abbrev zEval (e:Expr) (env:Env):Sem Value:=PySem.W.ZFast.zw14044960220447912780 e env
noncomputable abbrev zExecs (l:List Stmt) (env:Env):Sem Flow:=PySem.W.ZFast.zw12563942051412417395 l env
noncomputable abbrev zAssign (t:Expr) (env:Env) (v:Value):Sem Unit:=PySem.W.ZFast.zw17772580674575903948 t env v
theorem eval_z:eval=PySem.W.ZFast.zw14044960220447912780:=PySem.W.ZFast.ze14044960220447912780
noncomputable def lhsX:Expr→Expr
 | .Compare l _ _ _=>l
 | e=>e
noncomputable def rhsX:Expr→Expr
 | .Compare _ _ (r::_) _=>r
 | e=>e
noncomputable def ifT:Stmt→Expr
 | .If t _ _ _=>t
 | _=>.Name (sO "") default
noncomputable def retX:Stmt→Expr
 | .Return (some e) _=>e
 | _=>.Name (sO "") default
noncomputable def cmpP:Expr→Pos
 | .Compare _ _ _ p=>p
 | _=>default
noncomputable def ifR:Stmt→List Stmt×Pos
 | .If _ b _ p=>(b,p)
 | .Return _ p=>([],p)
 | _=>([],default)
noncomputable def IfIs (op:CmpOp) (s:Stmt):Prop:=∃ l r p1 body p2,s=.If (.Compare l [op] [r] p1) body [] p2∧behindInMarks op r=false
noncomputable def RetIs (op:CmpOp) (s:Stmt):Prop:=∃ l r p1 p2,s=.Return (some (.Compare l [op] [r] p1)) p2∧behindInMarks op r=false
theorem execs_app {M:Model} {A:Around} {env:Env} {E:Value→Shared→Prop} {Q:Flow→Shared→Prop} {xs ys:List Stmt} {s:Shared} (h:wpAny M A (execs xs env) (fun f s'=>f=.next∧wpAny M A (execs ys env) Q E s') E s):wpAny M A (execs (xs++ys) env) Q E s:=by
 intro Γ p hΓ
 replace h:=h Γ p hΓ
 induction xs generalizing p s with
 | nil =>
  have h:Flow.next=.next∧wpAny M A (execs ys env) Q E s:=h
  exact h.2 Γ p hΓ
 | cons x xs ih =>
  rw [List.cons_append,execs_cons,Sem.wp_bind']
  rw [execs_cons,Sem.wp_bind'] at h
  refine Sem.wp_mono M Γ _ (fun f p' s' h'=>?_) (fun _ _ _ h'=>h') _ _ h
  cases f with
  | next=>exact ih p' h'
  | brk=>exact absurd h'.1 (by simp)
  | cont=>exact absurd h'.1 (by simp)
  | ret v=>exact absurd h'.1 (by simp)
theorem wpAny_op {M:Model} {A:Around} {E:Value→Shared→Prop} {s:Shared} {vs:List Value} {t:Sem Value} {Q:Value→Shared→Prop} (h:wpAny M A t Q E s):wpAny M A (operate vs t) Q E s:=fun Γ p hΓ=>by rw [Sem.wp_operate];exact h Γ p hΓ
section
variable {w:World} {h₀:Heap} {os:OsState}
noncomputable def TSpec (w:World) (h₀:Heap) (os:OsState) (k:Nat) {α:Type} (t:Sem α) (m:SM) (a:α) (m':SM):Prop :=
 ∀(A:Around) (s:Shared) (Q:α→Shared→Prop) (E:Value→Shared→Prop),AOk (k+1) A→Rep h₀ os s m→(∀ s',Rep h₀ os s' m'→Q a s')→wpAny (model P₀ w) A t Q E s
theorem goodX_t {k:Nat} {α:Type} {t:Sem α} {m m':SM} {hs:List Nat} {es:List Evt} {ro:List (Nat×Obj)} {is:List Nat} {kk:Nat} {a:α}
  (g:GoodX w t ro m hs es (.ok a) is kk m') (B:Base w h₀) (hF:Facts h₀ ro) (hev:EvsOk w h₀ os (k+21) es) (hi:rises 0 is kk=true:=by rfl):TSpec w h₀ os k t m a m' :=
 fun A s Q E hA D q=>goodX_wp g B hF hev hA D q hi
theorem rep_frz (B:Base w h₀) {s:Shared} {T R:List (Nat×Obj)} {n t:Nat} (D:Rep h₀ os s ⟨T++R,n,t⟩) :
  ∃ h₁,Base w h₁∧Keeps h₀ h₁∧Facts h₁ R∧Rep h₁ os s ⟨T,n,t⟩∧∀ s' T' n' t',Rep h₁ os s' ⟨T',n',t'⟩→Rep h₀ os s' ⟨T'++R,n',t'⟩:=by
 have nd:((T.map (·.1))++(R.map (·.1))).Nodup:=by have:=D.nodup;rwa [List.map_append] at this
 have apart:∀ p∈T,∀ q∈R,p.1≠q.1:=fun p hp q hq=>(List.nodup_append.mp nd).2.2 _ (List.mem_map_of_mem hp) _ (List.mem_map_of_mem hq)
 have k1:Keeps h₀ (frz s.heap T):=by
  intro b o e
  rw [frz_out]
  ·exact D.keep b o e
  ·rintro p hp rfl
   have:=(D.cell p (List.mem_append_left _ hp)).2
   rw [e] at this;cases this
 have k2:Keeps (frz s.heap T) s.heap:=by
  intro b o e
  by_cases hb:∃ p∈T,p.1=b
  ·obtain⟨p,hp,rfl⟩:=hb
   rw [frz_in hp] at e;cases e
  ·rw [frz_out fun p hp hpb=>hb ⟨p,hp,hpb⟩] at e
   exact e
 have f1:Facts (frz s.heap T) R:=by
  intro p hp
  rw [frz_out fun q hq=>apart q hq p hp]
  exact (D.cell p (List.mem_append_right _ hp)).1
 refine⟨frz s.heap T,B.keeps k1,k1,f1,⟨k2,fun p hp=>⟨(D.cell p (List.mem_append_left _ hp)).1,frz_in hp⟩,(List.nodup_append.mp nd).1,D.size,D.toks,D.gens,D.os⟩,fun s' T' n' t' D'=>?_⟩
 refine⟨fun b o e=>D'.keep b o (k1 b o e),fun p hp=>?_,?_,D'.size,D'.toks,D'.gens,D'.os⟩
 ·rcases List.mem_append.mp hp with hp | hp
  ·obtain⟨z1,z2⟩:=D'.cell p hp
   refine⟨z1,?_⟩
   cases e:h₀.get? p.1 with
   | none=>rfl
   | some o=>have:=k1 _ _ e;rw [z2] at this;cases this
  ·exact⟨D'.keep _ _ (f1 p hp),(D.cell p (List.mem_append_right _ hp)).2⟩
 ·show ((T'++R).map (·.1)).Nodup
  rw [List.map_append]
  refine List.nodup_append.mpr ⟨D'.nodup,(List.nodup_append.mp nd).2.1,?_⟩
  intro a ha b hb hab
  obtain⟨p,hp,rfl⟩:=List.mem_map.mp ha
  obtain⟨p',hp',rfl⟩:=List.mem_map.mp hb
  have z:=(D'.cell p hp).2
  rw [hab,f1 p' hp'] at z
  cases z
theorem Rep.permS {s:Shared} {X Y:List (Nat×Obj)} {n t:Nat} (D:Rep h₀ os s ⟨X,n,t⟩) (h:X.Perm Y):Rep h₀ os s ⟨Y,n,t⟩ :=
 ⟨D.keep,fun p hp=>D.cell p (h.mem_iff.mpr hp),(h.map _).nodup_iff.mp D.nodup,D.size,D.toks,D.gens,D.os⟩
theorem Rep.front {s:Shared} {X Y:List (Nat×Obj)} {n t:Nat} (D:Rep h₀ os s ⟨X++Y,n,t⟩):Rep h₀ os s ⟨X,n,t⟩ :=
 ⟨D.keep,fun p hp=>D.cell p (List.mem_append_left _ hp),by have:=D.nodup;rw [List.map_append] at this;exact (List.nodup_append.mp this).1,D.size,D.toks,D.gens,D.os⟩
theorem useT (B:Base w h₀) {k:Nat} {α:Type} {tr:Sem α} {a:α} {T T' M M':List (Nat×Obj)} (R G:List (Nat×Obj)) {n t n' t':Nat} (p1:∀ z,cnt z M=cnt z T+cnt z R) (p2:∀ z,cnt z T'+cnt z R=cnt z M'+cnt z G)
  (h:∀ h₁,Base w h₁→Keeps h₀ h₁→Facts h₁ R→TSpec w h₁ os k tr ⟨T,n,t⟩ a ⟨T',n',t'⟩):TSpec w h₀ os k tr ⟨M,n,t⟩ a ⟨M',n',t'⟩:=by
 intro A s Q E hA D q
 have D1:Rep h₀ os s ⟨T++R,n,t⟩:=D.permS (perm_of_cnt fun z=>by rw [p1,cnt_append])
 obtain⟨h₁,B1,K1,F1,D2,back⟩:=rep_frz B D1
 refine h h₁ B1 K1 F1 A s Q E hA D2 fun s' D'=>q s' ?_
 have D3:=back s' T' n' t' D'
 exact (D3.permS (perm_of_cnt fun z=>by rw [cnt_append,cnt_append,p2])).front
theorem TSpec.app {k:Nat} {xs ys:List Stmt} {env:Env} {m m1:SM} {m2:SM} {f:Flow} (h1:TSpec w h₀ os k (zExecs xs env) m .next m1) (h2:TSpec w h₀ os k (zExecs ys env) m1 f m2):TSpec w h₀ os k (zExecs (xs++ys) env) m f m2:=by
 intro A s Q E hA D q
 show wpAny _ _ (PySem.W.ZFast.zw12563942051412417395 (xs++ys) env) _ _ _
 rw [← execs_z]
 refine execs_app ?_
 rw [execs_z]
 refine h1 A s _ E hA D fun s1 D1=>⟨rfl,?_⟩
 exact h2 A s1 Q E hA D1 q
theorem cmp_of {k:Nat} {op:CmpOp} {T id:String} {a b:Nat} {v:Value} {m:SM} (hk:k≤300) (slot:Slot T (cmpInfo op).2.1 id) (ha:∀ s:Shared,Rep h₀ os s m→s.TypeIs (.ref a) T) (hb:∀ s:Shared,Rep h₀ os s m→s.TypeIs (.ref b) T) (hv:v≠.notImplemented)
  (h:Spec w h₀ os (k+1) (.call (.builtin id) ⟨[.ref a,.ref b],[]⟩) m (.ok (.ret v)) m) (hcmp:compareOp op (.ref a) (.ref b)=richCompare op (.ref a) (.ref b):=by rfl):TSpec w h₀ os k (compareOp op (.ref a) (.ref b)) m v m:=by
 intro A s Q E hA D q
 rw [hcmp]
 have hu:=hA.units
 have hcl:cLine=9900:=rfl
 exact wpAny_richCompare_same_room (ha s D) (hb s D) slot (wpAny_call (h A s _ hA D fun s' D'=>⟨hv,q s' D'⟩)) (by omega)
theorem spec_turn {k:Nat} {s:Stmt} {it:Value} {v:Value} {env:Env} {c:Code} {m m1 m2 m3 m4 m5 m6 m'':SM} {a b:Value} {r:Result}
  (hc:c=.forLoop (tgtS s) it (forB s) (elsS s) env) (ht:∀ it v,letOwnedTupleGo (tgtS s) it v=pure ()) (hb:IfIs .NotEq (stAt (forB s) 1))
  (gN:TSpec w h₀ os k (tA it) m (some v) m1) (gA:TSpec w h₀ os k (zAssign (tgtS s) env v) m1 () m2)
  (g1:TSpec w h₀ os k (zExecs ((forB s).take 1) env) m2 .next m3)
  (g2:TSpec w h₀ os k (zEval (lhsX (ifT (stAt (forB s) 1))) env) m3 a m4)
  (g3:TSpec w h₀ os k (zEval (rhsX (ifT (stAt (forB s) 1))) env) m4 b m5)
  (ne:TSpec w h₀ os k (compareOp .NotEq a b) m5 (.bool false) m5)
  (g4:TSpec w h₀ os k (zExecs ((forB s).drop 2) env) m5 .next m6)
  (next:Spec w h₀ os k c m6 r m'') (hl:lightB c=true:=by rfl) (hq:c.quiet=true:=by rfl):Spec w h₀ os k c m r m'':=by
 intro A sh R hA D q
 have hA1:=hA.light hl
 refine x_code ?_
 rw [hc]
 show wpAny _ _ ((forTurn (tgtS s) it (forB s) (elsS s) env).onRaise (fun x=>do noteFrame x env;theTreesLotGoes x)) _ _ sh
 rw [← hc]
 refine wpAny_noted ?_
 simp only [forTurn]
 refine wpAny_bind (wpAny_standAt (wpAny_bind (wpAny_onRaise ?_)))
 rw [pyNext_z]
 refine gN _ sh _ _ hA1 D (fun s1 D1=>?_)
 dsimp only
 refine wpAny_bind ?_
 rw [ht]
 refine wpAny_pure (wpAny_bind ?_)
 rw [assign_z]
 refine gA _ s1 _ _ hA1 D1 (fun s2 D2=>wpAny_bind ?_)
 obtain⟨l,r',p1,body,p2,hif,hbm⟩:=hb
 have hsplit:forB s=(forB s).take 1++(stAt (forB s) 1::(forB s).drop 2):=by
  rw [show (stAt (forB s) 1::(forB s).drop 2)=(forB s).drop 1 from ?_,List.take_append_drop]
  unfold stAt at hif ⊢
  cases hx:(forB s)[1]? with
  | none=>rw [hx] at hif;cases hif
  | some x =>
   obtain⟨hi,hx'⟩:=List.getElem?_eq_some_iff.mp hx
   rw [← hx',List.getElem_cons_drop]
 rw [hsplit]
 refine execs_app ?_
 rw [execs_z]
 refine g1 _ s2 _ _ hA1 D2 (fun s3 D3=>⟨rfl,?_⟩)
 rw [← execs_z]
 refine wpAny_execs_cons ?_
 rw [hif] at g2 g3 ⊢
 refine wpAny_If ?_
 rw [isTrue_Compare1,markedBehindIn_of_false hbm,eval_z]
 refine wpAny_bind (g2 _ s3 _ _ hA1 D3 (fun s4 D4=>wpAny_bind (wpAny_holding (g3 _ s4 _ _ hA1 D4 (fun s5 D5=>?_)))))
 refine wpAny_bind (wpAny_standAt (wpAny_bind ?_))
 refine wpAny_op (ne (A.under c) s5 _ _ hA1 D5 (fun s5' D5'=>?_))
 refine wpAny_holding (wpAny_truthy_bool ?_)
 show wpAny _ _ (execs [] env) _ _ s5'
 refine wpAny_execs_nil ?_
 show wpAny _ _ (execs ((forB s).drop 2) env) _ _ s5'
 rw [execs_z]
 refine g4 _ s5' _ _ hA1 D5' (fun s6 D6=>?_)
 refine wpAny_pure ⟨?_,?_⟩
 ·rw [← hif,← hsplit,← hc];exact hq
 ·rw [← hif,← hsplit,← hc];exact next A s6 R hA D6 q
theorem spec_body {k j:Nat} {body:List Stmt} {env:Env} {m m1 m2 m3:SM} {a b v:Value} (hb:RetIs .Eq (stAt body j)) (hlen:body.drop (j+1)=[])
  (g1:TSpec w h₀ os k (zExecs (body.take j) env) m .next m1)
  (g2:TSpec w h₀ os k (zEval (lhsX (retX (stAt body j))) env) m1 a m2)
  (g3:TSpec w h₀ os k (zEval (rhsX (retX (stAt body j))) env) m2 b m3)
  (eq:TSpec w h₀ os k (compareOp .Eq a b) m3 v m3)
  (hl:lightB (.func body env)=true:=by rfl):Spec w h₀ os k (.func body env) m (.ok (.ret v)) m3:=by
 intro A sh R hA D q
 have hA1:=hA.light hl
 refine codeAny_func ?_
 show wpAny _ (A.under (.func body env)) _ _ _ _
 obtain⟨l,r',p1,p2,hret,hbm⟩:=hb
 have hsplit:body=body.take j++[stAt body j]:=by
  have:[stAt body j]=body.drop j:=by
   unfold stAt at hret ⊢
   cases hx:body[j]? with
   | none=>rw [hx] at hret;cases hret
   | some x =>
    obtain⟨hi,hx'⟩:=List.getElem?_eq_some_iff.mp hx
    rw [List.drop_eq_getElem_cons hi,hlen,hx']
  rw [this,List.take_append_drop]
 generalize hA2:A.under (.func body env)=A2 at hA1
 rw [hsplit]
 refine execs_app ?_
 rw [execs_z]
 refine g1 _ sh _ _ hA1 D (fun s3 D3=>⟨rfl,?_⟩)
 rw [← execs_z]
 refine wpAny_execs_cons ?_
 rw [hret] at g2 g3 ⊢
 rw [exec_Return_some]
 refine wpAny_bind (wpAny_standAt (wpAny_bind ?_))
 rw [eval_Compare1,markedBehindIn_of_false hbm,eval_z]
 refine wpAny_bind (g2 _ s3 _ _ hA1 D3 (fun s4 D4=>wpAny_bind (wpAny_holding (g3 _ s4 _ _ hA1 D4 (fun s5 D5=>?_)))))
 refine wpAny_bind (wpAny_standAt ?_)
 exact wpAny_op (eq A2 s5 _ _ hA1 D5 (fun s5' D5'=>wpAny_pure (q s5' D5')))
end
theorem law_p:∀(w:World) (n t s1 t1 s2 t2 s3 t3 s4 t4 s5 t5 sc nu li ta tw ep2 k0 k1 k2 j0 j1 j2:Nat) (V9 V10 V11 V12 V13 V14:Value) (s vv z4:Int) (vx vy vu:List Value) (es1:List DictEntry) (rest1 rest2:List (Nat×Obj)),(fun(A B C D E F G H I L:Nat×Obj) (J K:Expr)=>GoodX w (zExecs ((bodyOf (fdAt w 277)).take 5) (envAt w 277 n)) [] ⟨[F],(n+1),(t+1)⟩ [0,1,0,1,2,2,2,1,1,1,1,1,1,2,2,0,2,0,1,3,3,0,0,3,1,1,0,1,1,1,1,1,1,1,1,1,1,1,1,1,5,5,5,3,3,0,3,1,1,5,5,1,1,1,1,1,1,1,1,1] [.at (.call (.ref 239) ⟨[(.ref sc)],[]⟩) ⟨[F],(n+1),(t+1)⟩ (.ok (.ret (.ref nu))) ⟨[B,F],s1,t1⟩,.at (.call (.builtin "list.__getitem__") ⟨[(.ref nu),(.int 4 (t1+2))],[]⟩) ⟨[B,H],s1,(t1+3)⟩ (.ok (.ret (.int z4 ta))) ⟨[B,H],s1,(t1+3)⟩,.any (.call (.builtin "int.__mod__") ⟨[(.int z4 ta),(.int 4 (t1+3))],[]⟩) (aInt (z4.fmod 4)),.any (.call (.builtin "int.__add__") ⟨[(.int 3 (t1+1)),(.int (z4.fmod 4) (t1+4))],[]⟩) (aInt s),.at (.call (.ref 246) ⟨[(.ref nu)],[]⟩) ⟨[B,E],s1,(t1+7)⟩ (.ok (.ret (.ref li))) ⟨D::B::E::rest1,s2,t2⟩,.at (compS K (.ref s2) (.ref (s2+1)) (envQ w 277 n K (s2+2) [])) ⟨((s2+2),dctO [] 0)::((s2+1),lstO [] 0)::(s2,fldO "list_iterator" [(.ref li),(.int 0 0)])::D::B::A::rest1,(s2+3),(t2+1)⟩ (.ok .next) ⟨((s2+2),dctO [ez w.params (sO "place") k0 V9,ez w.params (sO "letter") k1 V10,ez w.params (sO "entry") k2 V11] 3)::G::D::B::A::rest1,s3,t3⟩,.at (.call (.builtin "sum") ⟨[(.ref (s2+1))],[]⟩) ⟨I::G::D::B::A::rest1,s3,t3⟩ (.ok (.ret (.int vv tw))) ⟨I::G::D::B::A::rest1,s4,t4⟩,.at (compS J (.ref s4) (.ref (s4+1)) (envQ w 277 n J (s4+2) [])) ⟨((s4+2),dctO [] 0)::((s4+1),dctO [] 0)::(s4,fldO "list_iterator" [(.ref li),(.int 0 0)])::I::G::D::B::C::rest1,(s4+3),(t4+1)⟩ (.ok .next) ⟨((s4+2),dctO [ez w.params (sO "place") j0 V12,ez w.params (sO "letter") j1 V13,ez w.params (sO "entry") j2 V14] 3)::L::D::B::C::rest2,s5,t5⟩] (.ok .next) [1,2,3,4] 5 ⟨L::D::B::(n,frN w nm277 (upd (upd (upd (upd (upd (tf t) 1 t1) 2 (t1+6)) 3 t2) 4 t4) 5 t5) [(.ref sc),(.ref nu),(.int s (t1+5)),(.ref li),(.int vv tw),(.ref (s4+1))])::rest2,s5,(t5+1)⟩) (n,frN w nm277 (upd (upd (upd (tf t) 1 t1) 2 (t1+6)) 3 t2) [(.ref sc),(.ref nu),(.int s (t1+5)),(.ref li)]) (nu,lstO vx 0) (n,frN w nm277 (upd (upd (upd (upd (tf t) 1 t1) 2 (t1+6)) 3 t2) 4 t4) [(.ref sc),(.ref nu),(.int s (t1+5)),(.ref li),(.int vv tw)]) (li,lstO vy 4) (n,frN w nm277 (upd (upd (tf t) 1 t1) 2 (t1+6)) [(.ref sc),(.ref nu),(.int s (t1+5))]) (n,frN w nm277 (tf t) [(.ref sc)]) ((s2+1),lstO vu ep2) (n,frN w nm277 (upd (tf t) 1 t1) [(.ref sc),(.ref nu)]) ((s2+2),dctO [] 6) ((s4+1),dctO es1 4) (compX (stAt (bodyOf (fdAt w 277)) 4)) (sumX (stAt (bodyOf (fdAt w 277)) 3)):=by walk_at "r"
theorem law_q:∀(w:World) (n t L sc nu li ts tw tb tc cd pa pb ne:Nat) (ks:Nat→Nat) (s vv z5 z6 i5 i6:Int) (vx:List Value),(fun(A B C D E F G H I J K M:Nat×Obj)=>GoodX w (zExecs (((bodyOf (fdAt w 277)).drop 5).take 1) (envAt w 277 L)) [(nu,lstO vx ne)] ⟨[B],n,t⟩ [8,1001,1001,1001,1,1,1,1,1,1,0,12,1001,1001,1001,1,1,1,1,1,1,0,13,13] [.at (.call (.builtin "list.__getitem__") ⟨[(.ref nu),(.int 5 (t+12))],[]⟩) ⟨[A,C,D,E,F,G,H,B],(n+7),(t+13)⟩ (.ok (.ret (.int z5 tb))) ⟨[A,C,D,E,F,G,H,B],(n+7),(t+13)⟩,.any (.call (.builtin "int.__mod__") ⟨[(.int z5 tb),(.int 6 (t+13))],[]⟩) (aInt i5),.at (.call (.builtin "list.__getitem__") ⟨[(.ref (n+6)),(.int i5 (t+14))],[]⟩) ⟨[A,C,D,E,F,G,H,B],(n+7),(t+15)⟩ (.ok (.ret (.ref pa))) ⟨[A,C,D,E,F,G,H,B],(n+7),(t+15)⟩,.at (.call (.builtin "list.__getitem__") ⟨[(.ref nu),(.int 6 (t+21))],[]⟩) ⟨[I,J,K,M,A,C,D,E,F,G,H,B],(n+11),(t+22)⟩ (.ok (.ret (.int z6 tc))) ⟨[I,J,K,M,A,C,D,E,F,G,H,B],(n+11),(t+22)⟩,.any (.call (.builtin "int.__mod__") ⟨[(.int z6 tc),(.int 3 (t+22))],[]⟩) (aInt i6),.at (.call (.builtin "list.__getitem__") ⟨[(.ref (n+10)),(.int i6 (t+23))],[]⟩) ⟨[I,J,K,M,A,C,D,E,F,G,H,B],(n+11),(t+24)⟩ (.ok (.ret (.ref pb))) ⟨[I,J,K,M,A,C,D,E,F,G,H,B],(n+11),(t+24)⟩] (.ok .next) [0,1,2,3,4,5,6,7,8,9,10,11,12] 13 ⟨[((n+11),lstO [(.ref pa),(.ref pb)] 0),I,J,K,M,A,C,D,E,F,G,H,(L,frN w nm277 (upd ks 6 (t+24)) [(.ref sc),(.ref nu),(.int s ts),(.ref li),(.int vv tw),(.ref cd),(.ref (n+11))])],(n+12),(t+25)⟩) ((n+6),lstO [(.ref n),(.ref (n+1)),(.ref (n+2)),(.ref (n+3)),(.ref (n+4)),(.ref (n+5))] 0) (L,frN w nm277 ks [(.ref sc),(.ref nu),(.int s ts),(.ref li),(.int vv tw),(.ref cd)]) ((n+5),tupO [(.int 2 (t+10)),(.int 3 (t+11))]) ((n+4),tupO [(.int 1 (t+8)),(.int 3 (t+9))]) ((n+3),tupO [(.int 1 (t+6)),(.int 2 (t+7))]) ((n+2),tupO [(.int 0 (t+4)),(.int 3 (t+5))]) ((n+1),tupO [(.int 0 (t+2)),(.int 2 (t+3))]) (n,tupO [(.int 0 t),(.int 1 (t+1))]) ((n+10),lstO [(.ref (n+7)),(.ref (n+8)),(.ref (n+9))] 0) ((n+9),tupO [(.int 1 (t+19)),(.int 2 (t+20))]) ((n+8),tupO [(.int 0 (t+17)),(.int 2 (t+18))]) ((n+7),tupO [(.int 0 (t+15)),(.int 1 (t+16))]):=by walk_at "r"
theorem law_f:∀(w:World) (n t s4 t4 L li ts tw pl rr:Nat) (ks ks2:Nat→Nat) (V0 V1 V5 V7 V8 V9 V10:Value) (s vv:Int) (rest:List (Nat×Obj)),(fun(A B:Nat×Obj)=>GoodX w (zExecs (((bodyOf (fdAt w 277)).drop 6).take 1) (envAt w 277 L)) [] ⟨[B],n,t⟩ [0,0,0,0,1,1,0,1,1,1,1,0,1,1,1,1,1,1] [.at (loopC (stAt (bodyOf (fdAt w 277)) 6) (.ref (n+1)) (envAt w 277 L)) ⟨[((n+1),fldO "range_iterator" [(.int 0 0),(.int 3 0),(.int 1 0)]),(n,fldO "range" [(.int 0 (t+1)),(.int 3 t),(.int 1 (t+2))]),B],(n+2),(t+3)⟩ (.ok .next) ⟨A::rest,s4,t4⟩] (.ok .next) [0] 1 ⟨A::rest,s4,t4⟩) (L,frN w nm277 ks2 [V0,V1,(.int s ts),(.ref rr),(.int vv tw),V5,(.ref pl),V7,V8,V9,V10]) (L,frN w nm277 ks [V0,V1,(.int s ts),(.ref li),(.int vv tw),V5,(.ref pl)]):=by walk_at "r"
theorem law_r:∀(w:World) (n t s5 t5 L ts tw tp tl ta tb cd rr aj ej lj kj rs ne:Nat) (ks:Nat→Nat) (V0 V1 V6 V7 V8 V9 V10:Value) (s vv p y0:Int) (c c2:Str) (vx:List Value) (rest:List (Nat×Obj)),(fun(A:Nat×Obj)=>GoodX w (zEval (lhsX (retX (stAt (bodyOf (fdAt w 277)) 7))) (envAt w 277 L)) [(rr,lstO vx ne),(aj,tupO [(.int p tp),(.str c tl),(.ref ej)]),(lj,tupO [(.int y0 ta),(.str c2 tb),(.ref kj)])] ⟨[A],n,t⟩ [0,1,1001,1001,1001,1,1002,1002,1002,0,1002,1002,0,1,1001,1001,1001,1,1003,1003,1003,0,1003,1003,0,0,1] [.at (.call (.builtin "list.__getitem__") ⟨[(.ref rr),(.int 0 t)],[]⟩) ⟨[A],n,(t+1)⟩ (.ok (.ret (.ref aj))) ⟨[A],n,(t+1)⟩,.at (.call (.builtin "list.__getitem__") ⟨[(.ref rr),(.int 1 (t+2))],[]⟩) ⟨[A],n,(t+3)⟩ (.ok (.ret (.ref lj))) ⟨[A],n,(t+3)⟩,.at (.call (.ref 73) ⟨[(.ref ej),(.ref kj)],[]⟩) ⟨[A],n,(t+4)⟩ (.ok (.ret (.ref rs))) ⟨A::rest,s5,t5⟩] (.ok (.ref rs)) [0] 1 ⟨A::rest,s5,t5⟩) (L,frN w nm277 ks [V0,V1,(.int s ts),(.ref rr),(.int vv tw),(.ref cd),V6,V7,V8,V9,V10]):=by walk_at "r"
theorem law_t:∀(w:World) (n t L ts tw cd rr:Nat) (ks:Nat→Nat) (V0 V1 V6 V7 V8 V9 V10:Value) (s vv:Int) (rest:List (Nat×Obj)),(fun(A:Nat×Obj)=>GoodX w (zEval (rhsX (retX (stAt (bodyOf (fdAt w 277)) 7))) (envAt w 277 L)) [] ⟨A::rest,n,t⟩ [1,1,1] [] (.ok (.ref n)) [0,1] 2 ⟨(n,tupO [(.int vv tw),(.int s ts),(.int 0 t),(.int 4 (t+1)),(.ref cd)])::A::rest,(n+1),(t+2)⟩) (L,frN w nm277 ks [V0,V1,(.int s ts),(.ref rr),(.int vv tw),(.ref cd),V6,V7,V8,V9,V10]):=by walk_at "r"
theorem rnA:∀(w:World) (n t it:Nat) (p:Int) (f1 f2:List Value) (rest:List (Nat×Obj)),(fun(A B:Nat×Obj)=>GoodX w (tA (.ref it)) [] ⟨A::rest,n,t⟩ [1,1] [.at (.call (.builtin "range_iterator.__next__") ⟨[(.ref it)],[]⟩) ⟨A::rest,n,t⟩ (.ok (.ret (.int p t))) ⟨B::rest,n,(t+1)⟩] (.ok (some (.int p t))) [0] 1 ⟨B::rest,n,(t+1)⟩) (it,fldO "range_iterator" f1) (it,fldO "range_iterator" f2):=by walk_at "r"
theorem lw_e:∀(w:World) (n t s1 t1 L it st:Nat) (V15:Value) (f1 f2:List Value) (O3:Obj) (rest:List (Nat×Obj)),(fun(A:Nat×Obj)=>GoodH w (loopC (stAt (bodyOf (fdAt w 277)) 6) (.ref it) (envAt w 277 L)) [] ⟨A::(L,O3)::rest,n,t⟩ [1,1,1] [.at (.call (.builtin "range_iterator.__next__") ⟨[(.ref it)],[]⟩) ⟨A::(L,O3)::rest,n,t⟩ (.error (.ref st)) ⟨(st,fldO "StopIteration" [V15,.none,.none,.none,(.bool false),.none])::(it,fldO "range_iterator" f2)::(L,O3)::rest,s1,t1⟩] (.ok .next) [2] 3 ⟨(L,O3)::rest,s1,t1⟩) (it,fldO "range_iterator" f1):=by walk_at "r"
theorem lwA_0:∀(w:World) (n t L ts tw li pl tz:Nat) (ks:Nat→Nat) (V0 V1 V5:Value) (s vv p:Int) (rest:List (Nat×Obj)),GoodX w (zAssign (tgtS (stAt (bodyOf (fdAt w 277)) 6)) (envAt w 277 L) (.int p tz)) [] ⟨(L,frN w nm277 ks [V0,V1,(.int s ts),(.ref li),(.int vv tw),V5,(.ref pl)])::rest,n,t⟩ [1,1] [] (.ok ()) [0] 1 ⟨(L,frN w nm277 (upd ks 7 t) [V0,V1,(.int s ts),(.ref li),(.int vv tw),V5,(.ref pl),(.int p tz)])::rest,n,(t+1)⟩:=by walk_at "r"
theorem lw1_0:∀(w:World) (n t s1 t1 L ts tw li pl x:Nat) (ks:Nat→Nat) (V0 V1 V5 V7:Value) (s vv:Int) (rest rest1:List (Nat×Obj)),(fun(A:Nat×Obj)=>GoodX w (zExecs ((forB (stAt (bodyOf (fdAt w 277)) 6)).take 1) (envAt w 277 L)) [] ⟨A::rest,n,t⟩ [0,1,1,0,1,1,1] [.at (.call (.ref 253) ⟨[(.ref li),(.int s ts)],[]⟩) ⟨A::rest,n,t⟩ (.ok (.ret (.ref x))) ⟨A::rest1,s1,t1⟩] (.ok .next) [0] 1 ⟨(L,frN w nm277 (upd ks 8 t1) [V0,V1,(.int s ts),(.ref li),(.int vv tw),V5,(.ref pl),V7,(.ref x)])::rest1,s1,(t1+1)⟩) (L,frN w nm277 ks [V0,V1,(.int s ts),(.ref li),(.int vv tw),V5,(.ref pl),V7]):=by walk_at "r"
theorem lw2_0:∀(w:World) (n t s1 t1 L ts tw li pl x dx th l il:Nat) (ks:Nat→Nat) (V0 V1 V5 V7:Value) (s vv:Int) (rest rest1:List (Nat×Obj)),(fun(A B C:Nat×Obj)=>GoodX w (zEval (lhsX (ifT (stAt (forB (stAt (bodyOf (fdAt w 277)) 6)) 1))) (envAt w 277 L)) [] ⟨A::C::B::rest,n,t⟩ [1,2,0,0,0,2,0,0,0,2,0,0,0,0,2,3,0,1] [.at (.call (.ref 194) ⟨[(.ref x)],[]⟩) ⟨A::C::B::rest,n,t⟩ (.ok (.ret (.ref il))) ⟨A::C::B::rest1,s1,t1⟩] (.ok (.ref il)) [0,1,2] 3 ⟨A::C::B::rest1,s1,t1⟩) (L,frN w nm277 ks [V0,V1,(.int s ts),(.ref li),(.int vv tw),V5,(.ref pl),V7,(.ref x)]) (dx,dctO [ez w.params (sO "_headers") th (.ref l)] 1) (x,insO 230 dx):=by walk_at "r"
theorem lw3_0:∀(w:World) (n t s1 t1 L ts tw li pl x dl:Nat) (ks:Nat→Nat) (V0 V1 V5 V7:Value) (s vv:Int) (rest rest1:List (Nat×Obj)),(fun(A:Nat×Obj)=>GoodX w (zEval (rhsX (ifT (stAt (forB (stAt (bodyOf (fdAt w 277)) 6)) 1))) (envAt w 277 L)) [] ⟨A::rest,n,t⟩ [0,1,1,0,1] [.at (.call (.ref 258) ⟨[(.ref li),(.int s ts)],[]⟩) ⟨A::rest,n,t⟩ (.ok (.ret (.ref dl))) ⟨A::rest1,s1,t1⟩] (.ok (.ref dl)) [0] 1 ⟨A::rest1,s1,t1⟩) (L,frN w nm277 ks [V0,V1,(.int s ts),(.ref li),(.int vv tw),V5,(.ref pl),V7,(.ref x)]):=by walk_at "r"
theorem lw4_0:∀(w:World) (n t s1 t1 s2 t2 L ts tw li pl x tz af ep4 pa pb te tf' rr:Nat) (ks:Nat→Nat) (V0 V1 V5:Value) (s vv p1 p2:Int) (vx:List Value) (rest rest1 rest2:List (Nat×Obj)),(fun(A B C:Nat×Obj) (D:Code)=>GoodX w (zExecs ((forB (stAt (bodyOf (fdAt w 277)) 6)).drop 2) (envAt w 277 L)) [(pl,lstO [(.ref pa),(.ref pb)] 0),(pa,tupO [(.int p1 te),(.int p2 tf')])] ⟨B::rest,n,t⟩ [0,1,1,1,1,0,1,2,2,2,1,2,2,2,2,1,0,2,2,2,1001,1001,1001,1,1002,1002,1002,0,1002,1002,0,2,2,1001,1001,1001,1,1002,1002,1002,0,1002,1002,0,0,1,1,1] [.at (.call (.ref 265) ⟨[(.ref li),(.ref x),(.int s ts),(.int vv tw)],[]⟩) ⟨B::rest,n,t⟩ (.ok (.ret (.ref af))) ⟨C::B::rest1,s1,t1⟩,.any (.call (.builtin "int.__gt__") ⟨[(.int 0 tz),(.int 0 (t1+1))],[]⟩) (aVal (.bool false) 0 0),.any (.call (.builtin "int.__lt__") ⟨[(.int 0 tz),(.int 2 (t1+3))],[]⟩) (aVal (.bool true) 0 0),.at D ⟨C::A::rest1,s1,(t1+4)⟩ (.ok (.ret (.ref pa))) ⟨C::A::rest1,s1,(t1+4)⟩,.at D ⟨C::A::rest1,s1,(t1+5)⟩ (.ok (.ret (.ref pa))) ⟨C::A::rest1,s1,(t1+5)⟩,.at (.call (.ref 272) ⟨[(.ref af),(.int p1 te),(.int p2 tf')],[]⟩) ⟨C::A::rest1,s1,(t1+6)⟩ (.ok (.ret (.ref rr))) ⟨A::rest2,s2,t2⟩] (.ok .next) [0] 1 ⟨(L,frN w nm277 (upd ks 9 t1) [V0,V1,(.int s ts),(.ref rr),(.int vv tw),V5,(.ref pl),(.int 0 tz),(.ref x),(.ref af)])::rest2,s2,(t2+1)⟩) (L,frN w nm277 (upd ks 9 t1) [V0,V1,(.int s ts),(.ref af),(.int vv tw),V5,(.ref pl),(.int 0 tz),(.ref x),(.ref af)]) (L,frN w nm277 ks [V0,V1,(.int s ts),(.ref li),(.int vv tw),V5,(.ref pl),(.int 0 tz),(.ref x)]) (af,lstO vx ep4) (.call (.builtin "list.__getitem__") ⟨[(.ref pl),(.int 0 tz)],[]⟩):=by walk_at "r"
theorem lwA_1:∀(w:World) (n t L ts tw li pl tz:Nat) (ks:Nat→Nat) (V0 V1 V5 V7 V8 V9:Value) (s vv p:Int) (rest:List (Nat×Obj)),GoodX w (zAssign (tgtS (stAt (bodyOf (fdAt w 277)) 6)) (envAt w 277 L) (.int p tz)) [] ⟨(L,frN w nm277 ks [V0,V1,(.int s ts),(.ref li),(.int vv tw),V5,(.ref pl),V7,V8,V9])::rest,n,t⟩ [1,1] [] (.ok ()) [0] 1 ⟨(L,frN w nm277 ks [V0,V1,(.int s ts),(.ref li),(.int vv tw),V5,(.ref pl),(.int p tz),V8,V9])::rest,n,(t+1)⟩:=by walk_at "r"
theorem lw1_1:∀(w:World) (n t s1 t1 L ts tw li pl x:Nat) (ks:Nat→Nat) (V0 V1 V5 V7 V8 V9:Value) (s vv:Int) (rest rest1:List (Nat×Obj)),(fun(A:Nat×Obj)=>GoodX w (zExecs ((forB (stAt (bodyOf (fdAt w 277)) 6)).take 1) (envAt w 277 L)) [] ⟨A::rest,n,t⟩ [0,1,1,0,1,1,1] [.at (.call (.ref 253) ⟨[(.ref li),(.int s ts)],[]⟩) ⟨A::rest,n,t⟩ (.ok (.ret (.ref x))) ⟨A::rest1,s1,t1⟩] (.ok .next) [0] 1 ⟨(L,frN w nm277 ks [V0,V1,(.int s ts),(.ref li),(.int vv tw),V5,(.ref pl),V7,(.ref x),V9])::rest1,s1,(t1+1)⟩) (L,frN w nm277 ks [V0,V1,(.int s ts),(.ref li),(.int vv tw),V5,(.ref pl),V7,V8,V9]):=by walk_at "r"
theorem lw2_1:∀(w:World) (n t s1 t1 L ts tw li pl x dx th l il:Nat) (ks:Nat→Nat) (V0 V1 V5 V7 V9:Value) (s vv:Int) (rest rest1:List (Nat×Obj)),(fun(A B C:Nat×Obj)=>GoodX w (zEval (lhsX (ifT (stAt (forB (stAt (bodyOf (fdAt w 277)) 6)) 1))) (envAt w 277 L)) [] ⟨A::C::B::rest,n,t⟩ [1,2,0,0,0,2,0,0,0,2,0,0,0,0,2,3,0,1] [.at (.call (.ref 194) ⟨[(.ref x)],[]⟩) ⟨A::C::B::rest,n,t⟩ (.ok (.ret (.ref il))) ⟨A::C::B::rest1,s1,t1⟩] (.ok (.ref il)) [0,1,2] 3 ⟨A::C::B::rest1,s1,t1⟩) (L,frN w nm277 ks [V0,V1,(.int s ts),(.ref li),(.int vv tw),V5,(.ref pl),V7,(.ref x),V9]) (dx,dctO [ez w.params (sO "_headers") th (.ref l)] 1) (x,insO 230 dx):=by walk_at "r"
theorem lw3_1:∀(w:World) (n t s1 t1 L ts tw li pl x dl:Nat) (ks:Nat→Nat) (V0 V1 V5 V7 V9:Value) (s vv:Int) (rest rest1:List (Nat×Obj)),(fun(A:Nat×Obj)=>GoodX w (zEval (rhsX (ifT (stAt (forB (stAt (bodyOf (fdAt w 277)) 6)) 1))) (envAt w 277 L)) [] ⟨A::rest,n,t⟩ [0,1,1,0,1] [.at (.call (.ref 258) ⟨[(.ref li),(.int s ts)],[]⟩) ⟨A::rest,n,t⟩ (.ok (.ret (.ref dl))) ⟨A::rest1,s1,t1⟩] (.ok (.ref dl)) [0] 1 ⟨A::rest1,s1,t1⟩) (L,frN w nm277 ks [V0,V1,(.int s ts),(.ref li),(.int vv tw),V5,(.ref pl),V7,(.ref x),V9]):=by walk_at "r"
theorem lw4_1:∀(w:World) (n t s1 t1 s2 t2 L ts tw li pl x tz af ep4 pa pb te tf' rr tg tj aj ej lj kj ta tb tc td ne:Nat) (ks:Nat→Nat) (V0 V1 V5 V9 V20 V21 V22 V23 V24 V25 V26 V27 V28 V29:Value) (s vv p1 p2 p3 p4 g g':Int) (c c2:Str) (vy vx:List Value) (rest rest1 rest2:List (Nat×Obj)),(fun(A B C D E F G H:Nat×Obj) (I:Code)=>GoodX w (zExecs ((forB (stAt (bodyOf (fdAt w 277)) 6)).drop 2) (envAt w 277 L)) [(pl,lstO [(.ref pa),(.ref pb)] 0),(pa,tupO [(.int p1 te),(.int p2 tf')]),(pb,tupO [(.int p3 tg),(.int p4 tj)]),(lj,tupO [V25,(.str c2 tc),(.ref kj)]),(kj,tupO [V26,(.int g' td),V27,V28,V29]),(li,lstO vy ne)] ⟨F::rest,n,t⟩ [0,1,1,1,1,0,1,4,4,4,1,4,4,1,1001,1001,1001,1,1002,1002,1002,0,1002,1002,0,4,4,4,4,1,1,1,1,2,2,2,0,2,2,0,3,3,3,0,3,3,0,4,4,1006,1006,1006,1,1004,1004,1004,0,1004,1004,0,1005,1005,1005,0,1005,1005,0,1,1,1,1,5,5,5,5,1,0,5,5,5,1001,1001,1001,1,1003,1003,1003,0,1003,1003,0,5,5,1001,1001,1001,1,1003,1003,1003,0,1003,1003,0,0,1,1,1] [.at (.call (.ref 265) ⟨[(.ref li),(.ref x),(.int s ts),(.int vv tw)],[]⟩) ⟨F::rest,n,t⟩ (.ok (.ret (.ref af))) ⟨G::D::C::F::rest1,s1,t1⟩,.any (.call (.builtin "int.__gt__") ⟨[(.int 1 tz),(.int 0 (t1+1))],[]⟩) (aVal (.bool true) 0 0),.any (.call (.builtin "int.__sub__") ⟨[(.int 1 tz),(.int 1 (t1+2))],[]⟩) (aInt 0),.at (.call (.builtin "list.__getitem__") ⟨[(.ref pl),(.int 0 (t1+3))],[]⟩) ⟨G::D::C::H::rest1,s1,(t1+4)⟩ (.ok (.ret (.ref pa))) ⟨G::D::C::H::rest1,s1,(t1+4)⟩,.at (.call (.builtin "list.__getitem__") ⟨[(.ref af),(.int p1 te)],[]⟩) ⟨G::D::C::A::rest1,s1,(t1+6)⟩ (.ok (.ret (.ref aj))) ⟨G::D::C::A::rest1,s1,(t1+6)⟩,.at (.call (.builtin "list.__getitem__") ⟨[(.ref li),(.int p1 te)],[]⟩) ⟨G::D::C::A::rest1,s1,(t1+8)⟩ (.ok (.ret (.ref lj))) ⟨G::D::C::A::rest1,s1,(t1+8)⟩,.any (.call (.builtin "int.__sub__") ⟨[(.int g tb),(.int g' td)],[]⟩) (aInt (g - g')),.at (.call (.builtin "list.__contains__") ⟨[(.ref s1),(.int (g - g') (t1+10))],[]⟩) ⟨E::G::D::C::A::rest1,(s1+1),(t1+13)⟩ (.ok (.ret (.bool true))) ⟨E::G::D::C::A::rest1,(s1+1),(t1+13)⟩,.any (.call (.builtin "int.__lt__") ⟨[(.int 1 tz),(.int 2 (t1+14))],[]⟩) (aVal (.bool true) 0 0),.at I ⟨E::G::D::C::B::rest1,(s1+1),(t1+15)⟩ (.ok (.ret (.ref pb))) ⟨E::G::D::C::B::rest1,(s1+1),(t1+15)⟩,.at I ⟨E::G::D::C::B::rest1,(s1+1),(t1+16)⟩ (.ok (.ret (.ref pb))) ⟨E::G::D::C::B::rest1,(s1+1),(t1+16)⟩,.at (.call (.ref 272) ⟨[(.ref af),(.int p3 tg),(.int p4 tj)],[]⟩) ⟨E::G::D::C::B::rest1,(s1+1),(t1+17)⟩ (.ok (.ret (.ref rr))) ⟨B::rest2,s2,t2⟩] (.ok .next) [0] 1 ⟨(L,frN w nm277 (upd ks 10 (t1+5)) [V0,V1,(.int s ts),(.ref rr),(.int vv tw),V5,(.ref pl),(.int 1 tz),(.ref x),(.ref af),(.int p1 te)])::rest2,s2,(t2+1)⟩) (L,frN w nm277 (upd ks 10 (t1+5)) [V0,V1,(.int s ts),(.ref li),(.int vv tw),V5,(.ref pl),(.int 1 tz),(.ref x),(.ref af),(.int p1 te)]) (L,frN w nm277 (upd ks 10 (t1+5)) [V0,V1,(.int s ts),(.ref af),(.int vv tw),V5,(.ref pl),(.int 1 tz),(.ref x),(.ref af),(.int p1 te)]) (ej,tupO [V21,(.int g tb),V22,V23,V24]) (aj,tupO [V20,(.str c ta),(.ref ej)]) (s1,lstO [(.int 0 (t1+11)),(.int 1 (t1+12))] 0) (L,frN w nm277 ks [V0,V1,(.int s ts),(.ref li),(.int vv tw),V5,(.ref pl),(.int 1 tz),(.ref x),V9]) (af,lstO vx ep4) (L,frN w nm277 ks [V0,V1,(.int s ts),(.ref li),(.int vv tw),V5,(.ref pl),(.int 1 tz),(.ref x),(.ref af)]) (.call (.builtin "list.__getitem__") ⟨[(.ref pl),(.int 1 tz)],[]⟩):=by walk_at "r"
theorem lwA_2:∀(w:World) (n t L ts tw li pl tz:Nat) (ks:Nat→Nat) (V0 V1 V5 V7 V8 V9 V10:Value) (s vv p:Int) (rest:List (Nat×Obj)),GoodX w (zAssign (tgtS (stAt (bodyOf (fdAt w 277)) 6)) (envAt w 277 L) (.int p tz)) [] ⟨(L,frN w nm277 ks [V0,V1,(.int s ts),(.ref li),(.int vv tw),V5,(.ref pl),V7,V8,V9,V10])::rest,n,t⟩ [1,1] [] (.ok ()) [0] 1 ⟨(L,frN w nm277 ks [V0,V1,(.int s ts),(.ref li),(.int vv tw),V5,(.ref pl),(.int p tz),V8,V9,V10])::rest,n,(t+1)⟩:=by walk_at "r"
theorem lw1_2:∀(w:World) (n t s1 t1 L ts tw li pl x:Nat) (ks:Nat→Nat) (V0 V1 V5 V7 V8 V9 V10:Value) (s vv:Int) (rest rest1:List (Nat×Obj)),(fun(A:Nat×Obj)=>GoodX w (zExecs ((forB (stAt (bodyOf (fdAt w 277)) 6)).take 1) (envAt w 277 L)) [] ⟨A::rest,n,t⟩ [0,1,1,0,1,1,1] [.at (.call (.ref 253) ⟨[(.ref li),(.int s ts)],[]⟩) ⟨A::rest,n,t⟩ (.ok (.ret (.ref x))) ⟨A::rest1,s1,t1⟩] (.ok .next) [0] 1 ⟨(L,frN w nm277 ks [V0,V1,(.int s ts),(.ref li),(.int vv tw),V5,(.ref pl),V7,(.ref x),V9,V10])::rest1,s1,(t1+1)⟩) (L,frN w nm277 ks [V0,V1,(.int s ts),(.ref li),(.int vv tw),V5,(.ref pl),V7,V8,V9,V10]):=by walk_at "r"
theorem lw2_2:∀(w:World) (n t s1 t1 L ts tw li pl x dx th l il:Nat) (ks:Nat→Nat) (V0 V1 V5 V7 V9 V10:Value) (s vv:Int) (rest rest1:List (Nat×Obj)),(fun(A B C:Nat×Obj)=>GoodX w (zEval (lhsX (ifT (stAt (forB (stAt (bodyOf (fdAt w 277)) 6)) 1))) (envAt w 277 L)) [] ⟨A::C::B::rest,n,t⟩ [1,2,0,0,0,2,0,0,0,2,0,0,0,0,2,3,0,1] [.at (.call (.ref 194) ⟨[(.ref x)],[]⟩) ⟨A::C::B::rest,n,t⟩ (.ok (.ret (.ref il))) ⟨A::C::B::rest1,s1,t1⟩] (.ok (.ref il)) [0,1,2] 3 ⟨A::C::B::rest1,s1,t1⟩) (L,frN w nm277 ks [V0,V1,(.int s ts),(.ref li),(.int vv tw),V5,(.ref pl),V7,(.ref x),V9,V10]) (dx,dctO [ez w.params (sO "_headers") th (.ref l)] 1) (x,insO 230 dx):=by walk_at "r"
theorem lw3_2:∀(w:World) (n t s1 t1 L ts tw li pl x dl:Nat) (ks:Nat→Nat) (V0 V1 V5 V7 V9 V10:Value) (s vv:Int) (rest rest1:List (Nat×Obj)),(fun(A:Nat×Obj)=>GoodX w (zEval (rhsX (ifT (stAt (forB (stAt (bodyOf (fdAt w 277)) 6)) 1))) (envAt w 277 L)) [] ⟨A::rest,n,t⟩ [0,1,1,0,1] [.at (.call (.ref 258) ⟨[(.ref li),(.int s ts)],[]⟩) ⟨A::rest,n,t⟩ (.ok (.ret (.ref dl))) ⟨A::rest1,s1,t1⟩] (.ok (.ref dl)) [0] 1 ⟨A::rest1,s1,t1⟩) (L,frN w nm277 ks [V0,V1,(.int s ts),(.ref li),(.int vv tw),V5,(.ref pl),V7,(.ref x),V9,V10]):=by walk_at "r"
theorem lw4_2:∀(w:World) (n t s1 t1 L ts tw li pl x tz af ep4 pa pb tg tj aj ej lj kj ta tb tc td ne:Nat) (ks:Nat→Nat) (V0 V1 V5 V9 V10 V20 V21 V22 V23 V24 V25 V26 V27 V28 V29:Value) (s vv p3 p4 g g':Int) (c c2:Str) (vy vx:List Value) (rest rest1:List (Nat×Obj)),(fun(A B C D E F G:Nat×Obj)=>GoodX w (zExecs ((forB (stAt (bodyOf (fdAt w 277)) 6)).drop 2) (envAt w 277 L)) [(pl,lstO [(.ref pa),(.ref pb)] 0),(pb,tupO [(.int p3 tg),(.int p4 tj)]),(lj,tupO [V25,(.str c2 tc),(.ref kj)]),(kj,tupO [V26,(.int g' td),V27,V28,V29]),(li,lstO vy ne)] ⟨D::rest,n,t⟩ [0,1,1,1,1,0,1,4,4,4,1,4,4,1,1001,1001,1001,1,1002,1002,1002,0,1002,1002,0,4,4,4,4,1,1,1,1,2,2,2,0,2,2,0,3,3,3,0,3,3,0,4,4,1005,1005,1005,1,1003,1003,1003,0,1003,1003,0,1004,1004,1004,0,1004,1004,0,1,1,1,1,5,5,5,5,1] [.at (.call (.ref 265) ⟨[(.ref li),(.ref x),(.int s ts),(.int vv tw)],[]⟩) ⟨D::rest,n,t⟩ (.ok (.ret (.ref af))) ⟨E::C::B::D::rest1,s1,t1⟩,.any (.call (.builtin "int.__gt__") ⟨[(.int 2 tz),(.int 0 (t1+1))],[]⟩) (aVal (.bool true) 0 0),.any (.call (.builtin "int.__sub__") ⟨[(.int 2 tz),(.int 1 (t1+2))],[]⟩) (aInt 1),.at (.call (.builtin "list.__getitem__") ⟨[(.ref pl),(.int 1 (t1+3))],[]⟩) ⟨E::C::B::F::rest1,s1,(t1+4)⟩ (.ok (.ret (.ref pb))) ⟨E::C::B::F::rest1,s1,(t1+4)⟩,.at (.call (.builtin "list.__getitem__") ⟨[(.ref af),(.int p3 tg)],[]⟩) ⟨E::C::B::A::rest1,s1,(t1+6)⟩ (.ok (.ret (.ref aj))) ⟨E::C::B::A::rest1,s1,(t1+6)⟩,.at (.call (.builtin "list.__getitem__") ⟨[(.ref li),(.int p3 tg)],[]⟩) ⟨E::C::B::A::rest1,s1,(t1+8)⟩ (.ok (.ret (.ref lj))) ⟨E::C::B::A::rest1,s1,(t1+8)⟩,.any (.call (.builtin "int.__sub__") ⟨[(.int g tb),(.int g' td)],[]⟩) (aInt (g - g')),.at (.call (.builtin "list.__contains__") ⟨[(.ref s1),(.int (g - g') (t1+10))],[]⟩) ⟨G::E::C::B::A::rest1,(s1+1),(t1+13)⟩ (.ok (.ret (.bool true))) ⟨G::E::C::B::A::rest1,(s1+1),(t1+13)⟩,.any (.call (.builtin "int.__lt__") ⟨[(.int 2 tz),(.int 2 (t1+14))],[]⟩) (aVal (.bool false) 0 0)] (.ok .next) [1,2,3,4] 5 ⟨E::C::B::(L,frN w nm277 ks [V0,V1,(.int s ts),(.ref af),(.int vv tw),V5,(.ref pl),(.int 2 tz),(.ref x),(.ref af),(.int p3 tg)])::rest1,(s1+1),(t1+15)⟩) (L,frN w nm277 ks [V0,V1,(.int s ts),(.ref li),(.int vv tw),V5,(.ref pl),(.int 2 tz),(.ref x),(.ref af),(.int p3 tg)]) (ej,tupO [V21,(.int g tb),V22,V23,V24]) (aj,tupO [V20,(.str c ta),(.ref ej)]) (L,frN w nm277 ks [V0,V1,(.int s ts),(.ref li),(.int vv tw),V5,(.ref pl),(.int 2 tz),(.ref x),V9,V10]) (af,lstO vx ep4) (L,frN w nm277 ks [V0,V1,(.int s ts),(.ref li),(.int vv tw),V5,(.ref pl),(.int 2 tz),(.ref x),(.ref af),V10]) (s1,lstO [(.int 0 (t1+11)),(.int 1 (t1+12))] 0):=by walk_at "r"
noncomputable def key (v p k:Nat):Int:=4*(-((v*60 / k:Nat):Int))+(p:Int)
noncomputable def kz2 (z:Nat×Nat):Int:=4*(-((z.1:Nat):Int))+(z.2:Int)
theorem scan_best (g:Nat→Nat):∀(l:List (Nat×Nat)) (b:Nat×Nat),b.2 < 4→l.Pairwise (fun a c=>c.1 < a.1)→(∀ z∈l,z.1 < b.2) →
  kz2 (scan g l b)≤kz2 b∧(∀ z∈l,kz2 (scan g l b)≤key z.2 z.1 (g z.1))∧(scan g l b=b∨∃ z∈l,scan g l b=(z.2*60 / g z.1,z.1))
 | [],b,_,_,_=>⟨Int.le_refl _,fun z h=>absurd h List.not_mem_nil,Or.inl rfl⟩
 | (p,v)::r,b,hb,hp,hl=>by
  obtain⟨hp1,hp2⟩:=List.pairwise_cons.mp hp
  have hpb:p < b.2:=hl _ (.head _)
  unfold scan
  split
  ·rename_i hq
   obtain⟨i1,i2,i3⟩:=scan_best g r (v*60 / g p,p) (by show p < 4;omega) hp2 (fun z hz=>hp1 z hz)
   have hk:kz2 (v*60 / g p,p)≤kz2 b:=by unfold kz2;dsimp only;omega
   refine⟨Int.le_trans i1 hk,fun z hz=>?_,?_⟩
   ·rcases List.mem_cons.mp hz with rfl | hz
    ·exact i1
    ·exact i2 z hz
   ·rcases i3 with h | ⟨z,hz,h⟩
    ·exact .inr ⟨_,.head _,h⟩
    ·exact .inr ⟨z,.tail _ hz,h⟩
  ·rename_i hq
   obtain⟨i1,i2,i3⟩:=scan_best g r b hb hp2 (fun z hz=>hl z (.tail _ hz))
   refine⟨i1,fun z hz=>?_,?_⟩
   ·rcases List.mem_cons.mp hz with rfl | hz
    ·have hk:kz2 b≤key v p (g p):=by unfold kz2 key;omega
     exact Int.le_trans i1 hk
    ·exact i2 z hz
   ·rcases i3 with h | ⟨z,hz,h⟩
    ·exact .inl h
    ·exact .inr ⟨z,.tail _ hz,h⟩
structure PlOk (pl:List (Nat×Nat)):Prop where
 up:pl.Pairwise (fun a b=>a.1 < b.1)
 lt:∀ z∈pl,z.1 < 4
 ge:∀ z∈pl,1≤z.2
 ne:pl≠[]
theorem win_best {pl:List (Nat×Nat)} (ok:PlOk pl) (g:Nat→Nat):∃ v,(win g pl.reverse,v)∈pl∧∀ z∈pl,key v (win g pl.reverse) (g (win g pl.reverse))≤key z.2 z.1 (g z.1):=by
 have hr:pl.reverse.Pairwise (fun a c=>c.1 < a.1):=List.pairwise_reverse.mpr ok.up
 have hne:pl.reverse≠[]:=by simpa using ok.ne
 match hl:pl.reverse,hne with
 | (p,v)::r,_ =>
  rw [hl] at hr
  obtain⟨hr1,hr2⟩:=List.pairwise_cons.mp hr
  have hm:∀ z∈(p,v)::r,z∈pl:=fun z hz=>List.mem_reverse.mp (hl▸hz)
  have hp4:=ok.lt _ (hm _ (.head _))
  obtain⟨i1,i2,i3⟩:=scan_best g r (v*60 / g p,p) hp4 hr2 (fun z hz=>hr1 z hz)
  show ∃ v',((scan g r (v*60 / g p,p)).2,v')∈pl∧∀ z∈pl,key v' (scan g r (v*60 / g p,p)).2 (g (scan g r (v*60 / g p,p)).2)≤key z.2 z.1 (g z.1)
  have all:∀ z∈pl,kz2 (scan g r (v*60 / g p,p))≤key z.2 z.1 (g z.1):=by
   intro z hz
   have hz:z∈(p,v)::r:=hl▸List.mem_reverse.mpr hz
   rcases List.mem_cons.mp hz with rfl | hz
   ·exact i1
   ·exact i2 z hz
  rcases i3 with h | ⟨z,hz,h⟩
  ·rw [h] at all ⊢
   exact⟨v,hm _ (.head _),all⟩
  ·rw [h] at all ⊢
   exact⟨z.2,hm _ (.tail _ hz),all⟩
theorem key_lt {v p k:Nat} (hv:1≤v) (hk:1≤k) (hk6:k≤6):key v p k < key v p (k+1):=by
 have:k=1∨k=2∨k=3∨k=4∨k=5∨k=6:=by omega
 unfold key
 rcases this with rfl | rfl | rfl | rfl | rfl | rfl<;>omega
theorem key_mono {v p k:Nat} (hv:1≤v) (hk:1≤k):∀(j:Nat),k+j≤7→key v p k≤key v p (k+j)
 | 0,_=>Int.le_refl _
 | j+1,h=>Int.le_trans (key_mono hv hk j (by exact ox5 ‹_›)) (Int.le_of_lt (key_lt (k:=k+j) hv (by omega) (by exact oxo ‹_›)))
theorem key_place {v p k v' p' k':Nat} (h:key v p k=key v' p' k') (hp:p < 4) (hp':p' < 4):p=p'∧v*60 / k=v'*60 / k':=by
 unfold key at h;omega
theorem dots_step_self (pl:List (Nat×Nat)) (T:PT) (i:Nat):dots (stepT pl T i) (win (dots T) pl.reverse)=dots T (win (dots T) pl.reverse)+1:=by
 unfold stepT
 generalize win (dots T) pl.reverse=w
 generalize dots T w+1=d
 unfold dots
 rw [List.find?_append,List.find?_eq_none.mpr]
 ·simp
 ·intro z hz
  have:=(List.mem_filter.mp hz).2
  simpa using this
theorem dots_step_other (pl:List (Nat×Nat)) (T:PT) (i:Nat) {p:Nat} (h:p≠win (dots T) pl.reverse):dots (stepT pl T i) p=dots T p:=by
 unfold stepT
 generalize dots T (win (dots T) pl.reverse)+1=d
 generalize win (dots T) pl.reverse=w at h ⊢
 have hf:(T.filter fun z=>!(z.1 == w)).find? (fun e=>e.1 == p)=T.find? (fun e=>e.1 == p):=by
  rw [List.find?_filter]
  congr 1
  funext z
  by_cases hz:z.1=p
  ·have:z.1≠w:=fun e=>h (hz▸e)
   simp [hz,h]
  ·simp [hz]
 unfold dots
 rw [List.find?_append,hf]
 cases T.find? (fun e=>e.1 == p) with
 | none =>
  have:(w == p)=false:=by simpa using fun e=>h e.symm
  simp [this]
 | some e=>rfl
noncomputable def winsN (pl:List (Nat×Nat)):PT→Nat→Nat→List Nat
 | _,_,0=>[]
 | T,i,j+1=>win (dots T) pl.reverse::winsN pl (stepT pl T i) (i+1) j
noncomputable def remZ (s:Nat) (g:Nat→Nat) (pl:List (Nat×Nat)):List (Int×Nat):=(pl.map fun y=>(List.range (s+1 - g y.1)).map fun k=>(-((y.2*60 / (g y.1+k):Nat):Int),y.1)).flatten
theorem remZ_congr {s:Nat} {g g':Nat→Nat} {pl:List (Nat×Nat)} (h:∀ z∈pl,g z.1=g' z.1):remZ s g pl=remZ s g' pl:=by
 unfold remZ
 congr 1
 refine List.map_congr_left fun y hy=>?_
 rw [h y hy]
theorem remZ_app (s:Nat) (g:Nat→Nat) (l1 l2:List (Nat×Nat)):remZ s g (l1++l2)=remZ s g l1++remZ s g l2:=by
 unfold remZ;rw [List.map_append,List.flatten_append]
theorem remZ_step {s:Nat} {g g':Nat→Nat} {pl:List (Nat×Nat)} (up:pl.Pairwise (fun a b=>a.1 < b.1)) {w v:Nat} (hw:(w,v)∈pl) (hg:g w≤s) (h1:g' w=g w+1) (h2:∀ p,p≠w→g' p=g p) :
  (remZ s g pl).Perm ((-((v*60 / g w:Nat):Int),w)::remZ s g' pl):=by
 obtain⟨l1,l2,rfl⟩:=List.append_of_mem hw
 have hne1:∀ z∈l1,z.1≠w:=fun z hz=>Nat.ne_of_lt ((List.pairwise_append.mp up).2.2 z hz _ (.head _))
 have hne2:∀ z∈l2,z.1≠w:=fun z hz=>(Nat.ne_of_lt ((List.pairwise_cons.mp (List.pairwise_append.mp up).2.1).1 z hz)).symm
 have hd:remZ s g ((w,v)::l2)=(-((v*60 / g w:Nat):Int),w)::remZ s g' ((w,v)::l2):=by
  have c2:=remZ_congr (s:=s) (pl:=l2) (g:=g) (g':=g') fun z hz=>(h2 z.1 (hne2 z hz)).symm
  unfold remZ at c2 ⊢
  rw [List.map_cons,List.map_cons,List.flatten_cons,List.flatten_cons,c2]
  dsimp only
  rw [show s+1 - g w=(s - g w)+1 by omega,List.range_succ_eq_map,List.map_cons,List.map_map,h1,show s+1 - (g w+1)=s - g w by omega,Nat.add_zero]
  rw [List.cons_append]
  congr 2
  refine List.map_congr_left fun k _=>?_
  show (-((v*60 / (g w+(k+1)):Nat):Int),w)=_
  rw [show g w+(k+1)=g w+1+k by exact oxa]
 rw [remZ_app,remZ_app,hd,remZ_congr (s:=s) (pl:=l1) (g:=g) (g':=g') fun z hz=>(h2 z.1 (hne1 z hz)).symm]
 exact List.perm_middle
theorem remZ_mem {s:Nat} {g:Nat→Nat} {pl:List (Nat×Nat)} {z:Int×Nat} (h:z∈remZ s g pl):∃ y∈pl,∃ k,k < s+1 - g y.1∧z=(-((y.2*60 / (g y.1+k):Nat):Int),y.1):=by
 unfold remZ at h
 obtain⟨l,hl,hz⟩:=List.mem_flatten.mp h
 obtain⟨y,hy,rfl⟩:=List.mem_map.mp hl
 obtain⟨k,hk,rfl⟩:=List.mem_map.mp hz
 exact⟨y,hy,k,List.mem_range.mp hk,rfl⟩
theorem dots_ge {T:PT} (ok:PTok T) (p:Nat):1≤dots T p:=by
 unfold dots
 cases h:T.find? (fun e=>e.1 == p) with
 | none=>exact Nat.le_refl 1
 | some e=>exact ok.ge e (List.mem_of_find?_eq_some h)
theorem Run.dle {pl:List (Nat×Nat)} {T:PT} {m:Nat} (h:Run pl T m) {z:Nat×Nat} (hz:z∈pl):dots T z.1≤m:=by
 obtain⟨e,he,h1⟩:=h.all z hz
 rw [← h1,dots_mem h.ok he]
 exact h.le e he
theorem wins_are {pl:List (Nat×Nat)} (ok:PlOk pl) {s:Nat} (s6:s≤6):∀(j:Nat) (T:PT) (i:Nat) (Z:List (Int×Nat)),Run pl T (i+1)→i+j≤s→Z.Perm (remZ s (dots T) pl)→Z.Pairwise (fun a b=>4*a.1+(a.2:Int)≤4*b.1+(b.2:Int))→(Z.take j).map (·.2)=winsN pl T i j
 | 0,_,_,_,_,_,_,_=>rfl
 | j+1,T,i,Z,hR,hij,hp,hs=>by
  obtain⟨v,hw,hb⟩:=win_best ok (dots T)
  have hgw:=hR.dle hw
  have hg1:=dots_ge hR.ok (win (dots T) pl.reverse)
  have hstep:=remZ_step (s:=s) ok.up hw (by show dots T (win (dots T) pl.reverse)≤s;have:dots T (win (dots T) pl.reverse)≤i+1:=hgw;omega) (dots_step_self pl T i) (fun p h=>dots_step_other pl T i h)
  have hp2:=hp.trans hstep
  match Z,hs,hp,hp2 with
  | [],_,_,hp2=>exact absurd hp2.length_eq (by simp)
  | z::Z',hs,hp,hp2 =>
   obtain⟨hs1,hs2⟩:=List.pairwise_cons.mp hs
   have hz:z=(-((v*60 / dots T (win (dots T) pl.reverse):Nat):Int),win (dots T) pl.reverse):=by
    obtain⟨y,hy,k,hk,e⟩:=remZ_mem (hp.mem_iff.mp (.head _))
    have h1:key v (win (dots T) pl.reverse) (dots T (win (dots T) pl.reverse))≤key y.2 y.1 (dots T y.1):=hb y hy
    have hgy:=dots_ge hR.ok y.1
    have h2:key y.2 y.1 (dots T y.1)≤key y.2 y.1 (dots T y.1+k):=key_mono (ok.ge y hy) hgy k (by omega)
    have h3:4*z.1+(z.2:Int)≤key v (win (dots T) pl.reverse) (dots T (win (dots T) pl.reverse)):=by
     have hm:((-((v*60 / dots T (win (dots T) pl.reverse):Nat):Int),win (dots T) pl.reverse):Int×Nat)∈z::Z':=hp2.mem_iff.mpr (.head _)
     rcases List.mem_cons.mp hm with e | hm
     ·rw [← e];unfold key;exact Int.le_refl _
     ·have:=hs1 _ hm;unfold key;exact this
    have h4:4*z.1+(z.2:Int)=key y.2 y.1 (dots T y.1+k):=by rw [e];rfl
    have h5:key v (win (dots T) pl.reverse) (dots T (win (dots T) pl.reverse))=key y.2 y.1 (dots T y.1+k):=by omega
    obtain⟨e1,e2⟩:=key_place h5 (ok.lt _ hw) (ok.lt _ hy)
    rw [e,← e2,← e1]
   have hp3:=hp2
   rw [hz] at hp3
   have hp4:=hp3.cons_inv
   rw [List.take_succ_cons,List.map_cons,winsN,wins_are ok s6 j (stepT pl T i) (i+1) Z' (hR.step ok.ne i) (by exact ox4 ‹_›) hp4 hs2,hz]
theorem rem_start (s:Nat) (pl:List (Nat×Nat)) (g:Nat→Nat) (h:∀ z∈pl,g z.1=1):remZ s g pl=offZ s pl:=by
 rw [remZ_congr (g':=fun _=>1) h]
 unfold remZ offZ
 congr 1
 refine List.map_congr_left fun y _=>?_
 rw [show s+1 - 1=s by omega]
 refine List.map_congr_left fun k _=>?_
 rw [Nat.add_comm 1 k]
noncomputable def dueE (wp:List Nat) (i:Nat):PT:=if (wp.drop (i+1)).any (·== wp.getD i 0)=true then [] else [(wp.getD i 0,i % 2 == 1,1+wp.countP (·== wp.getD i 0))]
theorem dueB_eq (wp:List Nat):∀(j i:Nat),dueB wp i j=((List.range' i j).map (dueE wp)).flatten
 | 0,_=>rfl
 | j+1,i=>by rw [dueB,List.range'_succ,List.map_cons,List.flatten_cons,dueB_eq wp j (i+1)];rfl
theorem getD_app {ws:List Nat} {w i:Nat} (h:i < ws.length):(ws++[w]).getD i 0=ws.getD i 0:=by
 rw [List.getD_eq_getElem?_getD,List.getD_eq_getElem?_getD,List.getElem?_append_left h]
theorem dueE_app {ws:List Nat} {w i:Nat} (h:i < ws.length):dueE (ws++[w]) i=(dueE ws i).filter (fun z=>!(z.1 == w)):=by
 unfold dueE
 rw [getD_app h,List.drop_append_of_le_length (by assumption),List.any_append,List.countP_append]
 generalize ws.getD i 0=x
 cases h1:(ws.drop (i+1)).any (·== x) with
 | true=>simp
 | false =>
  by_cases hw:w=x
  ·subst hw;simp
  ·have e1:(w == x)=false:=by simpa using hw
   have e2:(x == w)=false:=by simpa using fun e=>hw e.symm
   simp [e1,e2,hw]
theorem dueE_last (ws:List Nat) (w:Nat):dueE (ws++[w]) ws.length=[(w,ws.length % 2 == 1,1+(ws.countP (·== w)+1))]:=by
 unfold dueE
 have e:(ws++[w]).getD ws.length 0=w:=by
  rw [List.getD_eq_getElem?_getD,List.getElem?_append_right (Nat.le_refl _),Nat.sub_self];rfl
 rw [e,List.drop_of_length_le (by simp),List.countP_append]
 simp
theorem dueP_app (ps ws:List Nat) (w:Nat):dueP (ws++[w]) ps (ws++[w]).length=(dueP ws ps ws.length).filter (fun z=>!(z.1 == w))++[(w,ws.length % 2 == 1,1+(ws.countP (·== w)+1))]:=by
 unfold dueP
 rw [dueB_eq,dueB_eq,List.length_append,List.length_singleton,List.range'_concat,List.map_append,List.flatten_append,List.filter_append]
 rw [show 0+1*ws.length=ws.length by omega,show ((List.map (dueE (ws++[w])) [ws.length]).flatten)=dueE (ws++[w]) ws.length by simp,dueE_last,List.append_assoc,← List.append_assoc]
 have h1:(ps.filter fun p=>!((ws++[w]).any (·== p))).map (fun p=>(p,false,1))=((ps.filter fun p=>!(ws.any (·== p))).map (fun p=>((p,false,1):Nat×Bool×Nat))).filter (fun z=>!(z.1 == w)):=by
  rw [List.filter_map,List.filter_filter]
  congr 1
  refine List.filter_congr fun p _=>?_
  rw [List.any_append]
  show (!(ws.any (·== p)||([w].any (·== p))))=(!(p == w)&&!(ws.any (·== p)))
  have:([w].any (·== p))=(p == w):=by
   by_cases h:w=p
   ·subst h;simp
   ·have e1:(w == p)=false:=by simpa using h
    have e2:(p == w)=false:=by simpa using fun e=>h e.symm
    simp [e1,e2]
  rw [this,Bool.not_or,Bool.and_comm]
 have h2:(List.map (dueE (ws++[w])) (List.range' 0 ws.length)).flatten=((List.map (dueE ws) (List.range' 0 ws.length)).flatten).filter (fun z=>!(z.1 == w)):=by
  rw [List.filter_flatten,List.map_map]
  congr 1
  refine List.map_congr_left fun i hi=>?_
  have:i < ws.length:=by have:=List.mem_range'_1.mp hi;omega
  exact dueE_app this
 rw [h1,h2,List.append_assoc]
theorem run_is {pl:List (Nat×Nat)} (ps:List Nat):∀(j:Nat) (ws:List Nat) (T:PT),T=dueP ws ps ws.length→(∀ p,dots T p=1+ws.countP (·== p)∨(∀ z∈pl,z.1≠p))→(∀ g,win g pl.reverse∈pl.map (·.1)) →
  runN pl T ws.length j=dueP (ws++winsN pl T ws.length j) ps (ws.length+j)∧∀ z∈pl,dots (runN pl T ws.length j) z.1=1+(ws++winsN pl T ws.length j).countP (·== z.1)
 | 0,ws,T,hT,hd,_=>by
  refine⟨by rw [runN,winsN,List.append_nil];exact hT,fun z hz=>?_⟩
  rw [runN,winsN,List.append_nil]
  rcases hd z.1 with h | h
  ·exact h
  ·exact absurd rfl (h z hz)
 | j+1,ws,T,hT,hd,hw=>by
  have hm:=hw (dots T)
  obtain⟨z,hz,hze⟩:=List.mem_map.mp hm
  have hdw:dots T (win (dots T) pl.reverse)=1+ws.countP (·== win (dots T) pl.reverse):=by
   rcases hd (win (dots T) pl.reverse) with h | h
   ·exact h
   ·exact absurd hze (h z hz)
  have hstep:stepT pl T ws.length=dueP (ws++[win (dots T) pl.reverse]) ps (ws++[win (dots T) pl.reverse]).length:=by
   rw [dueP_app,← hT]
   unfold stepT
   rw [hdw]
   congr 3
  obtain⟨i1,i2⟩:=run_is ps j (ws++[win (dots T) pl.reverse]) (stepT pl T ws.length) hstep (fun p=>by
   rcases hd p with h | h
   ·left
    rw [List.countP_append]
    by_cases e:p=win (dots T) pl.reverse
    ·rw [e,dots_step_self,hdw]
     simp only [List.countP_cons,List.countP_nil,beq_self_eq_true,if_true]
     exact oxa
    ·rw [dots_step_other pl T ws.length e,h]
     have:(win (dots T) pl.reverse == p)=false:=by simpa using fun q=>e q.symm
     simp [this]
   ·exact .inr h) hw
  rw [List.length_append,List.length_singleton] at i1 i2
  have e:ws++winsN pl T ws.length (j+1)=ws++[win (dots T) pl.reverse]++winsN pl (stepT pl T ws.length) (ws.length+1) j:=by rw [winsN];simp
  rw [runN,e,show ws.length+(j+1)=ws.length+1+j by exact oxa]
  exact⟨i1,i2⟩
theorem win_in {pl:List (Nat×Nat)} (hne:pl≠[]) (g:Nat→Nat):win g pl.reverse∈pl.map (·.1):=by
 obtain⟨z,hz,h⟩:=win_mem g (l:=pl.reverse) (by simpa using hne)
 rw [h];exact List.mem_map_of_mem (List.mem_reverse.mp hz)
theorem dots_pt0 (ps:List Nat) (p:Nat):dots (pt0 ps) p=1:=by
 unfold dots pt0
 cases h:(ps.map fun p=>((p,false,1):Nat×Bool×Nat)).find? (fun e=>e.1 == p) with
 | none=>rfl
 | some e =>
  obtain⟨q,_,rfl⟩:=List.mem_map.mp (List.mem_of_find?_eq_some h)
  rfl
theorem pt0_due (ps:List Nat):pt0 ps=dueP [] ps ([]:List Nat).length:=by
 show ps.map (fun p=>((p,false,1):Nat×Bool×Nat))=(ps.filter fun p=>!(([]:List Nat).any (·== p))).map (fun p=>((p,false,1):Nat×Bool×Nat))++[]
 have e:(ps.filter fun p=>!(([]:List Nat).any (·== p)))=ps:=List.filter_eq_self.mpr (fun _ _=>rfl)
 rw [List.append_nil,e]
theorem run0 {pl:List (Nat×Nat)} (ok:PlOk pl):Run pl (pt0 (pl.map (·.1))) (0+1):=by
 refine⟨⟨?_,?_,?_⟩,by simp [pt0],?_,?_⟩
 ·unfold pt0
  rw [List.map_map]
  show ((pl.map (·.1)).map fun p=>p).Nodup
  rw [List.map_id']
  exact List.pairwise_map.mpr (ok.up.imp Nat.ne_of_lt)
 ·intro e he
  obtain⟨p,hp,rfl⟩:=List.mem_map.mp he
  obtain⟨y,hy,rfl⟩:=List.mem_map.mp hp
  exact ok.lt y hy
 ·intro e he
  obtain⟨p,hp,rfl⟩:=List.mem_map.mp he
  exact Nat.le_refl _
 ·intro z hz
  exact⟨(z.1,false,1),List.mem_map_of_mem (List.mem_map_of_mem hz),rfl⟩
 ·intro e he
  obtain⟨p,hp,rfl⟩:=List.mem_map.mp he
  exact Nat.le_refl _
theorem law_table {pl:List (Nat×Nat)} (ok:PlOk pl) {s:Nat} (s6:s≤6) {wp:List Nat} (h:Won s pl wp):runN pl (pt0 (pl.map (·.1))) 0 s=dueP wp (pl.map (·.1)) s:=by
 obtain⟨Z,hp,hs,rfl⟩:=h
 have e1:=wins_are ok s6 s (pt0 (pl.map (·.1))) 0 Z (run0 ok) (by omega) (hp.trans (by rw [rem_start _ _ _ (fun z _=>dots_pt0 _ _)])) hs
 obtain⟨i1,_⟩:=run_is (pl:=pl) (pl.map (·.1)) s [] (pt0 (pl.map (·.1))) (pt0_due _) (fun p=>.inl (by rw [dots_pt0];rfl)) (fun g=>win_in ok.ne g)
 have i1:runN pl (pt0 (pl.map (·.1))) 0 s=dueP (winsN pl (pt0 (pl.map (·.1))) 0 s) (pl.map (·.1)) (0+s):=i1
 rw [i1,e1,Nat.zero_add]
theorem six {k:Nat} (h1:1≤k) (h6:k≤6):∃ m,k*m=60∧∀ v,v*60 / k=v*m:=by
 have hk:k*(60 / k)=60:=by
  match k,h1,h6 with
  | 1,_,_ | 2,_,_ | 3,_,_ | 4,_,_ | 5,_,_ | 6,_,_=>rfl
 refine⟨60 / k,hk,fun v=>?_⟩
 have e:v*60=k*(v*(60 / k)):=by rw [Nat.mul_left_comm,hk]
 rw [e,Nat.mul_div_cancel_left _ h1]
theorem key_cross {v v' p p':Nat} (hp:p < 4) (hp':p' < 4) {k k':Nat} (h1:1≤k) (h6:k≤6) (h1':1≤k') (h6':k'≤6) (h:key v p k < key v' p' k'):v'*k≤v*k'∧(p' < p→v'*k < v*k'):=by
 obtain⟨m,hm,em⟩:=six h1 h6
 obtain⟨m',hm',em'⟩:=six h1' h6'
 unfold key at h
 rw [em,em'] at h
 have e1:v'*k*60=v'*m'*(k*k'):=by rw [← hm'];ac_rfl
 have e2:v*k'*60=v*m*(k*k'):=by rw [← hm];ac_rfl
 refine⟨?_,fun hl=>?_⟩
 ·have:v'*k*60≤v*k'*60:=by rw [e1,e2];exact Nat.mul_le_mul_right _ (by omega)
  omega
 ·have:v'*k*60 < v*k'*60:=by rw [e1,e2];exact Nat.mul_lt_mul_of_pos_right (by omega) (Nat.mul_pos h1 h1')
  omega
noncomputable def Stable (pl:List (Nat×Nat)) (T:PT):Prop:=∀ x∈pl,∀ y∈pl,x.1≠y.1→2≤dots T x.1→key x.2 x.1 (dots T x.1 - 1) < key y.2 y.1 (dots T y.1)
theorem pl_one {pl:List (Nat×Nat)} (up:pl.Pairwise (fun a b=>a.1 < b.1)) {x y:Nat×Nat} (hx:x∈pl) (hy:y∈pl) (e:x.1=y.1):x=y:=by
 induction pl with
 | nil=>nomatch hx
 | cons z pl ih =>
  obtain⟨h1,h2⟩:=List.pairwise_cons.mp up
  rcases List.mem_cons.mp hx with hx' | hx'
  ·rcases List.mem_cons.mp hy with hy' | hy'
   ·rw [hx',hy']
   ·rw [hx'] at e
    exact absurd e (Nat.ne_of_lt (h1 y hy'))
  ·rcases List.mem_cons.mp hy with hy' | hy'
   ·rw [hy'] at e
    exact absurd e.symm (Nat.ne_of_lt (h1 x hx'))
   ·exact ih h2 hx' hy'
theorem Stable.step {pl:List (Nat×Nat)} (ok:PlOk pl) {T:PT} {i:Nat} (h:Stable pl T) (hR:Run pl T (i+1)) (hi:i+1≤6):Stable pl (stepT pl T i):=by
 obtain⟨v,hw,hb⟩:=win_best ok (dots T)
 intro x hx y hy hne h2
 by_cases hxw:x.1=win (dots T) pl.reverse
 ·have hxv:x=(win (dots T) pl.reverse,v):=pl_one ok.up hx hw hxw
  have hyw:y.1≠win (dots T) pl.reverse:=fun e=>hne (hxw.trans e.symm)
  have hby:=hb y hy
  have e1:dots (stepT pl T i) x.1=dots T x.1+1:=by rw [hxw];exact dots_step_self pl T i
  rw [e1,dots_step_other pl T i hyw,Nat.add_sub_cancel]
  have hk:key x.2 x.1 (dots T x.1)≤key y.2 y.1 (dots T y.1):=by rw [hxv];exact hby
  rcases Int.lt_or_eq_of_le hk with h | h
  ·exact h
  ·exact absurd (key_place h (ok.lt x hx) (ok.lt y hy)).1 hne
 ·rw [dots_step_other pl T i hxw] at h2 ⊢
  have hold:=h x hx y hy hne h2
  by_cases hyw:y.1=win (dots T) pl.reverse
  ·have e1:dots (stepT pl T i) y.1=dots T y.1+1:=by rw [hyw];exact dots_step_self pl T i
   rw [e1]
   have hd:=hR.dle hy
   exact Int.lt_trans hold (key_lt (ok.ge y hy) (dots_ge hR.ok y.1) (by exact Nat.le_trans ‹_› ‹_›))
  ·rw [dots_step_other pl T i hyw]
   exact hold
theorem run_inv {pl:List (Nat×Nat)} (ok:PlOk pl):∀(j:Nat) (T:PT) (i:Nat),Run pl T (i+1)→Stable pl T→i+j≤6→Run pl (runN pl T i j) (i+j+1)∧Stable pl (runN pl T i j)
 | 0,_,_,hR,hS,_=>⟨hR,hS⟩
 | j+1,T,i,hR,hS,h=>by
  have:=run_inv ok j (stepT pl T i) (i+1) (hR.step ok.ne i) (hS.step ok hR (by omega)) (by exact ox4 ‹_›)
  rw [runN,show i+(j+1)+1=i+1+j+1 by exact oxj]
  exact this
noncomputable def seats (pl:List (Nat×Nat)) (s p:Nat):Nat:=dots (runN pl (pt0 (pl.map (·.1))) 0 s) p - 1
theorem run_fin {pl:List (Nat×Nat)} (ok:PlOk pl) {s:Nat} (s6:s≤6):Run pl (runN pl (pt0 (pl.map (·.1))) 0 s) (s+1)∧Stable pl (runN pl (pt0 (pl.map (·.1))) 0 s):=by
 have:=run_inv ok s (pt0 (pl.map (·.1))) 0 (run0 ok) (fun x hx y hy hne h2=>by rw [dots_pt0] at h2;omega) (by omega)
 rw [Nat.zero_add] at this
 exact this
theorem seats_dots {pl:List (Nat×Nat)} (ok:PlOk pl) {s:Nat} (s6:s≤6) (p:Nat):dots (runN pl (pt0 (pl.map (·.1))) 0 s) p=seats pl s p+1:=by
 have:=dots_ge (run_fin ok s6).1.ok p
 unfold seats;exact oxc ‹_› (by decide)
theorem seats_cnt {pl:List (Nat×Nat)} (ok:PlOk pl) {s:Nat}:∀ z∈pl,seats pl s z.1=(winsN pl (pt0 (pl.map (·.1))) 0 s).countP (·== z.1):=by
 intro z hz
 obtain⟨_,i2⟩:=run_is (pl:=pl) (pl.map (·.1)) s [] (pt0 (pl.map (·.1))) (pt0_due _) (fun p=>.inl (by rw [dots_pt0];rfl)) (fun g=>win_in ok.ne g)
 have:dots (runN pl (pt0 (pl.map (·.1))) 0 s) z.1=1+(winsN pl (pt0 (pl.map (·.1))) 0 s).countP (·== z.1):=i2 z hz
 unfold seats;omega
theorem wins_len (pl:List (Nat×Nat)):∀(j:Nat) (T:PT) (i:Nat),(winsN pl T i j).length=j
 | 0,_,_=>rfl
 | j+1,T,i=>by rw [winsN,List.length_cons,wins_len pl j]
theorem wins_in {pl:List (Nat×Nat)} (hne:pl≠[]):∀(j:Nat) (T:PT) (i:Nat),∀ w∈winsN pl T i j,w∈pl.map (·.1)
 | 0,_,_,w,h=>nomatch h
 | j+1,T,i,w,h=>by
  rw [winsN] at h
  rcases List.mem_cons.mp h with rfl | h
  ·exact win_in hne _
  ·exact wins_in hne j _ _ w h
theorem zsum (l:List (Nat×Nat)):(l.map fun _=>0).sum=0:=by
 induction l with
 | nil=>rfl
 | cons y l ih=>rw [List.map_cons,List.sum_cons,ih]
theorem one_sum {pl:List (Nat×Nat)} (up:pl.Pairwise (fun a b=>a.1 < b.1)) {w:Nat} (h:w∈pl.map (·.1)):(pl.map fun z=>if (w == z.1)=true then 1 else 0).sum=1:=by
 induction pl with
 | nil=>nomatch h
 | cons z pl ih =>
  obtain⟨h1,h2⟩:=List.pairwise_cons.mp up
  rw [List.map_cons,List.sum_cons]
  by_cases e:w=z.1
  ·have hz:(pl.map fun z=>if (w == z.1)=true then 1 else 0).sum=0:=by
    have:pl.map (fun z=>if (w == z.1)=true then 1 else 0)=pl.map fun _=>0:=List.map_congr_left fun y hy=>by
     have:=h1 y hy
     rw [if_neg];simp;omega
    rw [this];exact zsum pl
   rw [hz,if_pos (by simpa using e)]
  ·rw [List.map_cons] at h
   rcases List.mem_cons.mp h with h | h
   ·exact absurd h e
   ·rw [ih h2 h,if_neg (by simpa using e)]
theorem cnt_sum {pl:List (Nat×Nat)} (up:pl.Pairwise (fun a b=>a.1 < b.1)):∀ W:List Nat,(∀ w∈W,w∈pl.map (·.1))→(pl.map fun z=>W.countP (·== z.1)).sum=W.length
 | [],_=>by
  exact zsum pl
 | w::W,h=>by
  have ih:=cnt_sum up W fun x hx=>h x (.tail _ hx)
  have e:(pl.map fun z=>(w::W).countP (·== z.1))=pl.map fun z=>W.countP (·== z.1)+if (w == z.1)=true then 1 else 0:=List.map_congr_left fun z _=>List.countP_cons
  have add:∀(f g:Nat×Nat→Nat) (l:List (Nat×Nat)),(l.map fun z=>f z+g z).sum=(l.map f).sum+(l.map g).sum:=by
   intro f g l
   induction l with
   | nil=>rfl
   | cons y l ih=>rw [List.map_cons,List.map_cons,List.map_cons,List.sum_cons,List.sum_cons,List.sum_cons,ih];omega
  rw [e,add,ih,one_sum up (h w (.head _)),List.length_cons]
theorem seats_sum {pl:List (Nat×Nat)} (ok:PlOk pl) (s:Nat):(pl.map fun z=>seats pl s z.1).sum=s:=by
 rw [List.map_congr_left (g:=fun z=>(winsN pl (pt0 (pl.map (·.1))) 0 s).countP (·== z.1)) fun z hz=>seats_cnt ok z hz]
 rw [cnt_sum ok.up _ (wins_in ok.ne s _ _),wins_len]
theorem sum_lt {l:List (Nat×Nat)} {f g:Nat×Nat→Nat} (h:(l.map f).sum < (l.map g).sum):∃ z∈l,f z < g z:=by
 induction l with
 | nil=>exact absurd h (by simp)
 | cons y l ih =>
  rw [List.map_cons,List.map_cons,List.sum_cons,List.sum_cons] at h
  by_cases hy:f y < g y
  ·exact⟨y,.head _,hy⟩
  ·obtain⟨z,hz,h'⟩:=ih (by omega)
   exact⟨z,.tail _ hz,h'⟩
theorem mem_sum {l:List (Nat×Nat)} {f:Nat×Nat→Nat} {z:Nat×Nat} (h:z∈l):f z≤(l.map f).sum:=by
 induction l with
 | nil=>nomatch h
 | cons y l ih =>
  rw [List.map_cons,List.sum_cons]
  rcases List.mem_cons.mp h with rfl | h
  ·exact Nat.le_add_right _ _
  ·have:=ih h;omega
theorem seats_two {pl:List (Nat×Nat)} (ok:PlOk pl) {s:Nat} (s6:s≤6) {x y:Nat×Nat} (hx:x∈pl) (hy:y∈pl) (hne:x.1≠y.1) (h1:1≤seats pl s x.1) (hb:seats pl s x.1+seats pl s y.1≤s) :
  y.2*seats pl s x.1≤x.2*(seats pl s y.1+1)∧(y.1 < x.1→y.2*seats pl s x.1 < x.2*(seats pl s y.1+1)):=by
 have hS:=(run_fin ok s6).2 x hx y hy hne
 rw [seats_dots ok s6,seats_dots ok s6,Nat.add_sub_cancel] at hS
 exact key_cross (ok.lt x hx) (ok.lt y hy) h1 (by omega) (by exact Nat.succ_pos _) (by omega) (hS (by omega))
theorem sum_two {pl:List (Nat×Nat)} (ok:PlOk pl) (s:Nat) {x y:Nat×Nat} (hx:x∈pl) (hy:y∈pl) (hne:x.1≠y.1):seats pl s x.1+seats pl s y.1≤s:=by
 have hs:=seats_sum ok s
 obtain⟨l1,l2,rfl⟩:=List.append_of_mem hx
 rw [List.map_append,List.map_cons,List.sum_append,List.sum_cons] at hs
 have hy':y∈l1∨y∈l2:=by
  rcases List.mem_append.mp hy with h | h
  ·exact .inl h
  ·rcases List.mem_cons.mp h with rfl | h
   ·exact absurd rfl hne
   ·exact .inr h
 generalize l1++x::l2=pl at hs ⊢
 rcases hy' with h | h
 ·have:=mem_sum (f:=fun z=>seats pl s z.1) h;(try dsimp only at this);omega
 ·have:=mem_sum (f:=fun z=>seats pl s z.1) h;(try dsimp only at this);omega
theorem join_law {pl pl' rest:List (Nat×Nat)} (ok:PlOk pl) (ok':PlOk pl') {s:Nat} (s6:s≤6) {p q P R:Nat} (hpq:p < q) (hp:pl.Perm ((p,P)::(q,R)::rest)) (hp':pl'.Perm ((p,P+R)::rest)) :
  seats pl' s p=seats pl s p+seats pl s q∨seats pl' s p=seats pl s p+seats pl s q+1:=by
 have s1:seats pl s p+(seats pl s q+(rest.map fun z=>seats pl s z.1).sum)=s:=by
  have:=seats_sum ok s
  rw [(hp.map fun z=>seats pl s z.1).sum_nat] at this
  exact this
 have s2:seats pl' s p+(rest.map fun z=>seats pl' s z.1).sum=s:=by
  have:=seats_sum ok' s
  rw [(hp'.map fun z=>seats pl' s z.1).sum_nat] at this
  exact this
 have mp:(p,P)∈pl:=hp.mem_iff.mpr (.head _)
 have mq:(q,R)∈pl:=hp.mem_iff.mpr (.tail _ (.head _))
 have mp':(p,P+R)∈pl':=hp'.mem_iff.mpr (.head _)
 have hP:=ok.ge _ mp
 have hR:=ok.ge _ mq
 have hP:1≤P:=hP
 have hR:1≤R:=hR
 have hnd:=(hp.map (·.1)).nodup_iff.mp (List.pairwise_map.mpr (ok.up.imp Nat.ne_of_lt))
 rw [List.map_cons,List.map_cons] at hnd
 obtain⟨n1,n2⟩:=List.nodup_cons.mp hnd
 obtain⟨n2,_⟩:=List.nodup_cons.mp n2
 have facts:∀ z∈rest,z∈pl∧z∈pl'∧z.1≠p∧z.1≠q∧1≤z.2:=fun z hz=>by
  have m1:z∈pl:=hp.mem_iff.mpr (.tail _ (.tail _ hz))
  exact⟨m1,hp'.mem_iff.mpr (.tail _ hz),fun e=>n1 (by have h:=List.mem_map_of_mem (f:=fun x:Nat×Nat=>x.1) hz;rw [← e];exact .tail _ h),fun e=>n2 (by have h:=List.mem_map_of_mem (f:=fun x:Nat×Nat=>x.1) hz;rw [← e];exact h),ok.ge z m1⟩
 rcases Nat.lt_trichotomy (seats pl' s p) (seats pl s p+seats pl s q) with h | h | h
 ·exfalso
  obtain⟨z,hz,hlt⟩:=sum_lt (l:=rest) (f:=fun z=>seats pl s z.1) (g:=fun z=>seats pl' s z.1) (by omega)
  try dsimp only at hlt
  obtain⟨m1,m2,np,nq,hv⟩:=facts z hz
  have j1:=seats_two ok' s6 m2 mp' np (by omega) (sum_two ok' s m2 mp' np)
  have bp:z.2*seats pl s p≤P*(seats pl s z.1+1)∧(z.1 < p→z.2*seats pl s p < P*(seats pl s z.1+1)):=by
   by_cases h0:seats pl s p=0
   ·rw [h0,Nat.mul_zero]
    have:0 < P*(seats pl s z.1+1):=Nat.mul_pos hP (by exact Nat.succ_pos _)
    exact⟨by exact oxg ‹_› (by decide),fun _=>this⟩
   ·exact seats_two ok s6 mp m1 (Ne.symm np) (by show 1≤seats pl s p;omega) (sum_two ok s mp m1 (Ne.symm np))
  have bq:z.2*seats pl s q≤R*(seats pl s z.1+1):=by
   by_cases h0:seats pl s q=0
   ·rw [h0,Nat.mul_zero];omega
   ·exact (seats_two ok s6 mq m1 (Ne.symm nq) (by show 1≤seats pl s q;omega) (sum_two ok s mq m1 (Ne.symm nq))).1
  obtain⟨j1,j2⟩:=j1
  try dsimp only at j1 j2
  have g1:(P+R)*(seats pl s z.1+1)≤(P+R)*seats pl' s z.1:=Nat.mul_le_mul_left _ (by assumption)
  have g2:z.2*(seats pl' s p+1)≤z.2*(seats pl s p+seats pl s q):=Nat.mul_le_mul_left _ (by assumption)
  rw [Nat.mul_add z.2 (seats pl s p)] at g2
  rw [Nat.add_mul] at g1
  obtain⟨bp1,bp2⟩:=bp
  rcases Nat.lt_or_gt_of_ne np with hlt' | hgt'
  ·have:=bp2 hlt'
   omega
  ·have:=j2 hgt'
   omega
 ·exact .inl h
 ·by_cases h1:seats pl' s p=seats pl s p+seats pl s q+1
  ·exact .inr h1
  exfalso
  obtain⟨z,hz,hlt⟩:=sum_lt (l:=rest) (f:=fun z=>seats pl' s z.1) (g:=fun z=>seats pl s z.1) (by omega)
  try dsimp only at hlt
  obtain⟨m1,m2,np,nq,hv⟩:=facts z hz
  obtain⟨j1,j2⟩:=seats_two ok' s6 mp' m2 (Ne.symm np) (by show 1≤seats pl' s p;omega) (sum_two ok' s mp' m2 (Ne.symm np))
  obtain⟨a1,a2⟩:=seats_two ok s6 m1 mp np (by omega) (sum_two ok s m1 mp np)
  obtain⟨b1,b2⟩:=seats_two ok s6 m1 mq nq (by omega) (sum_two ok s m1 mq nq)
  try dsimp only at j1 j2 a1 a2 b1 b2
  have g1:(P+R)*(seats pl' s z.1+1)≤(P+R)*seats pl s z.1:=Nat.mul_le_mul_left _ (by assumption)
  have g2:z.2*(seats pl s p+1+(seats pl s q+1))≤z.2*seats pl' s p:=Nat.mul_le_mul_left _ (by omega)
  rw [Nat.mul_add z.2 (seats pl s p+1)] at g2
  rw [Nat.add_mul P R (seats pl s z.1)] at g1
  rcases Nat.lt_or_gt_of_ne np with hlt' | hgt'
  ·have:=j2 hlt'
   omega
  ·have:=a2 hgt'
   omega
noncomputable def pvE (es:List En):List (Nat×Nat):=es.map fun y=>(y.p,y.v)
noncomputable def csE (es:List En):List (Nat×Nat):=es.flatMap fun y=>y.cs.map fun x=>(x.p,x.v)
structure LOk (vv:Nat) (C:List (Nat×Nat)) (es:List En):Prop where
 two:2≤es.length
 four:es.length≤4
 up:(es.map (·.p)).Pairwise (·< ·)
 lt:∀ y∈es,y.p < 4
 ge:∀ y∈es,1≤y.v
 ne:∀ y∈es,1≤y.cs.length
 cs:(csE es).Perm C
 sv:(es.map (·.v)).sum=vv
 sc:(es.map (·.c)).sum=4
theorem LOk.pl {vv:Nat} {C:List (Nat×Nat)} {es:List En} (h:LOk vv C es):PlOk (pvE es):=by
 refine⟨?_,fun z hz=>?_,fun z hz=>?_,fun e=>?_⟩
 ·exact List.pairwise_map.mpr (List.pairwise_map.mp h.up)
 ·obtain⟨y,hy,rfl⟩:=List.mem_map.mp hz
  exact h.lt y hy
 ·obtain⟨y,hy,rfl⟩:=List.mem_map.mp hz
  exact h.ge y hy
 ·have:=congrArg List.length e
  unfold pvE at this
  rw [List.length_map] at this
  have:=h.two
  simp_all
noncomputable def seatS (pl:List (Nat×Nat)) (s:Nat) (vv:Nat) (e:En):En:=⟨e.p,e.v,(seats pl s e.p:Int),(e.v:Int)*(s:Int) - (seats pl s e.p:Int)*(vv:Int),e.c,e.d,e.cs⟩
theorem seatE_is {pl:List (Nat×Nat)} (ok:PlOk pl) {s:Nat} (s6:s≤6) (vv:Nat) (e:En):seatE (runN pl (pt0 (pl.map (·.1))) 0 s) s (vv:Int) e=seatS pl s vv e:=by
 unfold seatE seatS
 rw [seats_dots ok s6,show ((seats pl s e.p+1:Nat):Int) - 1=(seats pl s e.p:Int) by exact oxk]
theorem pvE_seat (pl:List (Nat×Nat)) (s vv:Nat) (es:List En):pvE (es.map (seatS pl s vv))=pvE es:=by
 unfold pvE;rw [List.map_map];rfl
theorem LOk.seat {vv:Nat} {C:List (Nat×Nat)} {es:List En} (h:LOk vv C es) (pl:List (Nat×Nat)) (s:Nat):LOk vv C (es.map (seatS pl s vv)):=by
 refine⟨by rw [List.length_map];exact h.two,by rw [List.length_map];exact h.four,by rw [List.map_map];exact h.up,fun y hy=>?_,fun y hy=>?_,fun y hy=>?_,?_,by rw [List.map_map];exact h.sv,by rw [List.map_map];exact h.sc⟩
 ·obtain⟨x,hx,rfl⟩:=List.mem_map.mp hy;exact h.lt x hx
 ·obtain⟨x,hx,rfl⟩:=List.mem_map.mp hy;exact h.ge x hx
 ·obtain⟨x,hx,rfl⟩:=List.mem_map.mp hy;exact h.ne x hx
 ·have:csE (es.map (seatS pl s vv))=csE es:=by unfold csE;rw [List.flatMap_map];rfl
  rw [this];exact h.cs
theorem split_two {α:Type} {xs:List α} {p q:Nat} {x y:α} (hpq:p < q) (hx:xs[p]?=some x) (hy:xs[q]?=some y) :
  ∃ A M D,xs=A++x::(M++y::D)∧A=xs.take p∧M=(xs.drop (p+1)).take (q - (p+1))∧D=xs.drop (q+1):=by
 refine⟨_,_,_,?_,rfl,rfl,rfl⟩
 obtain⟨hp,hx'⟩:=List.getElem?_eq_some_iff.mp hx
 obtain⟨hq,hy'⟩:=List.getElem?_eq_some_iff.mp hy
 have e1:xs=xs.take p++xs.drop p:=(List.take_append_drop p xs).symm
 have e2:xs.drop p=x::xs.drop (p+1):=by rw [List.drop_eq_getElem_cons hp,hx']
 have e3:xs.drop (p+1)=(xs.drop (p+1)).take (q - (p+1))++(xs.drop (p+1)).drop (q - (p+1)):=(List.take_append_drop _ _).symm
 have e4:(xs.drop (p+1)).drop (q - (p+1))=y::xs.drop (q+1):=by
  rw [List.drop_drop,show p+1+(q - (p+1))=q by exact Nat.add_sub_of_le ‹_›,List.drop_eq_getElem_cons hq,hy']
 rw [e4] at e3
 rw [← e3,← e2]
 exact e1
theorem joinL_is {xs A M D:List Lx} {p q:Nat} {z:Lx} (hA:A=xs.take p) (hM:M=(xs.drop (p+1)).take (q - (p+1))) (hD:D=xs.drop (q+1)):joinL xs p q z=A++z::(M++D):=by
 unfold joinL
 rw [← hA,← hM,← hD]
 simp
theorem csE_app (a b:List En):csE (a++b)=csE a++csE b:=by unfold csE;rw [List.flatMap_append]
theorem csE_cons (a:En) (b:List En):csE (a::b)=(a.cs.map fun x=>(x.p,x.v))++csE b:=rfl
theorem LOk.join {vv:Nat} {C:List (Nat×Nat)} {A M D:List En} {x y:En} (h:LOk vv C (A++x::(M++y::D))) (d:Nat) (h3:3≤(A++x::(M++y::D)).length):LOk vv C (A++joinE x y d::(M++D)):=by
 have hl:=h.four
 simp only [List.length_append,List.length_cons] at h3 hl
 refine⟨by simp only [List.length_append,List.length_cons];omega,by simp only [List.length_append,List.length_cons];exact ox5 ‹_›,?_,?_,?_,?_,?_,?_,?_⟩
 ·refine h.up.sublist ?_
  simp only [List.map_append,List.map_cons]
  refine List.Sublist.append_left ?_ _
  refine List.Sublist.cons₂ _ ?_
  exact List.Sublist.append_left (List.sublist_cons_self _ _) _
 ·intro z hz
  have ha:=h.lt
  simp only [List.mem_append,List.mem_cons] at hz ha
  rcases hz with hz | rfl | hz | hz
  ·exact ha z (.inl hz)
  ·exact ha x (.inr (.inl rfl))
  ·exact ha z (.inr (.inr (.inl hz)))
  ·exact ha z (.inr (.inr (.inr (.inr hz))))
 ·intro z hz
  have ha:=h.ge
  simp only [List.mem_append,List.mem_cons] at hz ha
  rcases hz with hz | rfl | hz | hz
  ·exact ha z (.inl hz)
  ·have:=ha x (.inr (.inl rfl))
   show 1≤y.v+x.v
   omega
  ·exact ha z (.inr (.inr (.inl hz)))
  ·exact ha z (.inr (.inr (.inr (.inr hz))))
 ·intro z hz
  have ha:=h.ne
  simp only [List.mem_append,List.mem_cons] at hz ha
  rcases hz with hz | rfl | hz | hz
  ·exact ha z (.inl hz)
  ·have:=ha x (.inr (.inl rfl))
   show 1≤(x.cs++y.cs).length
   rw [List.length_append]
   omega
  ·exact ha z (.inr (.inr (.inl hz)))
  ·exact ha z (.inr (.inr (.inr (.inr hz))))
 ·refine List.Perm.trans ?_ h.cs
  refine List.perm_iff_count.mpr fun a=>?_
  simp only [csE_app,csE_cons,List.count_append,joinE,List.map_append]
  omega
 ·have:=h.sv
  simp only [List.map_append,List.map_cons,List.sum_append,List.sum_cons,joinE] at this ⊢
  omega
 ·have:=h.sc
  simp only [List.map_append,List.map_cons,List.sum_append,List.sum_cons,joinE] at this ⊢
  omega
theorem LOk.de {vv:Nat} {C:List (Nat×Nat)} {A M D:List En} {x y:En} (h:LOk vv C (A++x::(M++y::D))) (hC:C.map (·.1)=[0,1,2,3]):DeOk (x.cs++y.cs)∧x.cs.length≤3∧y.cs.length≤3:=by
 have hp:((x.cs++y.cs).map (fun x=>(x.p,x.v))++csE (A++(M++D))).Perm C:=by
  refine List.Perm.trans ?_ h.cs
  refine List.perm_iff_count.mpr fun a=>?_
  simp only [csE_app,csE_cons,List.count_append,joinE,List.map_append]
  omega
 have hp1:=hp.map (·.1)
 rw [hC,List.map_append,List.map_map] at hp1
 have hnd:([0,1,2,3]:List Nat).Nodup:=by decide
 have hn:=(List.nodup_append.mp ((hp1.nodup_iff).mpr hnd)).1
 have hlen:=hp1.length_eq
 simp only [List.length_append,List.length_map,List.length_cons,List.length_nil] at hlen
 have hx:=h.ne x (by simp)
 have hy:=h.ne y (by simp)
 refine⟨⟨fun z hz=>?_,hn⟩,by omega,by omega⟩
 have:z.p∈([0,1,2,3]:List Nat):=hp1.mem_iff.mp (List.mem_append_left _ (List.mem_map_of_mem (f:=(fun x:Nat×Nat=>x.1)∘fun x:De=>(x.p,x.v)) hz))
 have h4:∀ a∈([0,1,2,3]:List Nat),a < 4:=by decide
 exact h4 _ this
theorem LOk.win {vv:Nat} {C:List (Nat×Nat)} {A M D:List En} {x y:En} (h:LOk vv C (A++x::(M++y::D))) (d:Nat) (h3:3≤(A++x::(M++y::D)).length) {s:Nat} (s6:s≤6) :
  seats (pvE (A++joinE x y d::(M++D))) s x.p=seats (pvE (A++x::(M++y::D))) s x.p+seats (pvE (A++x::(M++y::D))) s y.p∨seats (pvE (A++joinE x y d::(M++D))) s x.p=seats (pvE (A++x::(M++y::D))) s x.p+seats (pvE (A++x::(M++y::D))) s y.p+1:=by
 have hlt:x.p < y.p:=by
  have:=h.up
  simp only [List.map_append,List.map_cons] at this
  have:=(List.pairwise_append.mp this).2.1
  exact (List.pairwise_cons.mp this).1 _ (by simp)
 refine join_law (rest:=pvE (A++(M++D))) (P:=x.v) (R:=y.v) h.pl (h.join d h3).pl s6 hlt ?_ ?_
 ·refine List.perm_iff_count.mpr fun a=>?_
  simp only [pvE,List.map_append,List.map_cons,List.count_append,List.count_cons]
  omega
 ·refine List.perm_iff_count.mpr fun a=>?_
  simp only [pvE,List.map_append,List.map_cons,List.count_append,List.count_cons,joinE,Nat.add_comm y.v x.v]
  omega
theorem LOk.fin {vv:Nat} {C:List (Nat×Nat)} {x y:En} (h:LOk vv C [x,y]) {s:Nat} (hx:x.h=(seats (pvE [x,y]) s x.p:Int)) (hy:y.h=(seats (pvE [x,y]) s y.p:Int))
  (ox:x.o=(x.v:Int)*(s:Int) - (seats (pvE [x,y]) s x.p:Int)*(vv:Int)) (oy:y.o=(y.v:Int)*(s:Int) - (seats (pvE [x,y]) s y.p:Int)*(vv:Int)) :
  y.v+x.v=vv∧y.h+x.h=s∧y.o+x.o=0∧y.c+x.c=4:=by
 have hs:=seats_sum h.pl s
 have h1:=h.sv
 have h2:=h.sc
 simp only [pvE,List.map_cons,List.map_nil,List.sum_cons,List.sum_nil] at hs h1 h2
 have hs':(seats (pvE [x,y]) s x.p:Int)+(seats (pvE [x,y]) s y.p:Int)=s:=by
  have:seats (pvE [x,y]) s x.p+seats (pvE [x,y]) s y.p=s:=by
   simp only [pvE,List.map_cons,List.map_nil];assumption
  exact_mod_cast this
 refine⟨by omega,by rw [hx,hy];omega,?_,by omega⟩
 rw [ox,oy]
 generalize (seats (pvE [x,y]) s x.p:Int)=a at *
 generalize (seats (pvE [x,y]) s y.p:Int)=b at *
 have e1:(vv:Int)=(x.v:Int)+(y.v:Int):=by omega
 rw [e1,← hs',]
 simp only [Int.mul_add,Int.add_mul,Int.mul_comm a,Int.mul_comm b]
 omega
structure Sees (w:World) (h:Heap) (la le:Nat) (xs:List Lx):Prop where
 l:h.get? la=some (lstO (refsL xs) le)
 f:Facts h (liC xs)
 d:∀ y∈xs,h.get? y.d=some (dcO w y.cs)
theorem Sees.keeps {w:World} {h h':Heap} {la le:Nat} {xs:List Lx} (S:Sees w h la le xs) (K:Keeps h h'):Sees w h' la le xs:=⟨K _ _ S.l,S.f.keeps K,fun y hy=>K _ _ (S.d y hy)⟩
noncomputable def Joined (s p:Nat) (xs:List Lx):Prop:=∃ z,xs[p]?=some z∧((seats (pvE (xs.map Lx.en)) s z.p:Int)=z.h∨(seats (pvE (xs.map Lx.en)) s z.p:Int)=z.h+1)
theorem pl_li (xs:List Lx):plOf (xs.map Lx.li)=pvE (xs.map Lx.en):=by unfold plOf pvE;rw [List.map_map,List.map_map];rfl
theorem p_li (xs:List Lx):(xs.map Lx.li).map (·.p)=(pvE (xs.map Lx.en)).map (·.1):=by unfold pvE;rw [List.map_map,List.map_map,List.map_map];rfl
noncomputable def tabT (xs:List Lx) (s:Nat):PT:=runN (pvE (xs.map Lx.en)) (pt0 ((pvE (xs.map Lx.en)).map (·.1))) 0 s
theorem tabOk_of {vv:Nat} {C:List (Nat×Nat)} {xs:List Lx} (ok:LOk vv C (xs.map Lx.en)) {s:Nat} (s6:s≤6):TabOk (tabT xs s) xs:=by
 obtain⟨hR,_⟩:=run_fin ok.pl s6
 have hl:(pvE (xs.map Lx.en)).length=(xs.map Lx.en).length:=by unfold pvE;rw [List.length_map]
 have h2:=ok.two
 have h4:=ok.four
 refine⟨hR.ok,by have:=hR.len;unfold tabT;omega,by have:=hR.len;unfold tabT;omega,fun e he=>Nat.le_trans (hR.le e he) (by exact Nat.le_trans (Nat.add_le_add_right ‹_› _) (by decide)),fun y hy=>?_⟩
 exact hR.all (y.p,y.v) (List.mem_map_of_mem (f:=fun y:En=>(y.p,y.v)) (List.mem_map_of_mem (f:=Lx.en) hy))
theorem seat_facts {vv:Nat} {C:List (Nat×Nat)} {xs nw:List Lx} (ok:LOk vv C (xs.map Lx.en)) {s:Nat} (s6:s≤6) (h:nw.map Lx.en=xs.map (fun y=>seatE (tabT xs s) s (vv:Int) y.en)) :
  LOk vv C (nw.map Lx.en)∧nw.length=xs.length∧pvE (nw.map Lx.en)=pvE (xs.map Lx.en)∧(∀ y∈nw,y.h=(seats (pvE (nw.map Lx.en)) s y.p:Int)∧y.o=(y.v:Int)*(s:Int) - (seats (pvE (nw.map Lx.en)) s y.p:Int)*(vv:Int))∧(∀ y∈nw,∃ x∈xs,x.d=y.d∧x.cs=y.cs):=by
 have e:nw.map Lx.en=(xs.map Lx.en).map (seatS (pvE (xs.map Lx.en)) s vv):=by
  rw [h,List.map_map]
  exact List.map_congr_left fun y _=>seatE_is ok.pl s6 vv y.en
 have e2:pvE (nw.map Lx.en)=pvE (xs.map Lx.en):=by rw [e,pvE_seat]
 have hm:∀ y∈nw,∃ x∈xs,y.en=seatS (pvE (xs.map Lx.en)) s vv x.en:=fun y hy=>by
  have:y.en∈nw.map Lx.en:=List.mem_map_of_mem hy
  rw [e,List.map_map] at this
  obtain⟨x,hx,he⟩:=List.mem_map.mp this
  exact⟨x,hx,he.symm⟩
 refine⟨by rw [e];exact ok.seat _ _,by have:=congrArg List.length h;simpa using this,e2,fun y hy=>?_,fun y hy=>?_⟩
 ·obtain⟨x,hx,he⟩:=hm y hy
  have a1:y.h=_:=congrArg En.h he
  have a2:y.o=_:=congrArg En.o he
  have a3:y.p=_:=congrArg En.p he
  have a4:y.v=_:=congrArg En.v he
  rw [e2,a1,a2,a3,a4]
  exact⟨rfl,rfl⟩
 ·obtain⟨x,hx,he⟩:=hm y hy
  have a1:y.d=_:=congrArg En.d he
  have a2:y.cs=_:=congrArg En.cs he
  exact⟨x,hx,a1.symm,a2.symm⟩
theorem join_de {vv:Nat} {C:List (Nat×Nat)} {nw:List Lx} (ok:LOk vv C (nw.map Lx.en)) (hC:C.map (·.1)=[0,1,2,3]) {p q:Nat} (hpq:p < q) {x y:Lx} (hx:nw[p]?=some x) (hy:nw[q]?=some y) :
  DeOk (x.cs++y.cs)∧1≤x.cs.length∧x.cs.length≤3∧1≤y.cs.length∧y.cs.length≤3:=by
 obtain⟨A,M,D,hs,hA,hM,hD⟩:=split_two hpq hx hy
 rw [hs] at ok
 simp only [List.map_append,List.map_cons] at ok
 obtain⟨a1,a2,a3⟩:=ok.de hC
 exact⟨a1,ok.ne x.en (by simp),a2,ok.ne y.en (by simp),a3⟩
theorem join_facts {vv:Nat} {C:List (Nat×Nat)} {nw:List Lx} (ok:LOk vv C (nw.map Lx.en)) {s:Nat} (s6:s≤6) (hh:∀ y∈nw,y.h=(seats (pvE (nw.map Lx.en)) s y.p:Int)) (h3:3≤nw.length) {p q:Nat} (hpq:p < q) {x y z:Lx} (hx:nw[p]?=some x) (hy:nw[q]?=some y) (hz:z.en=joinE x.en y.en z.d) :
  LOk vv C ((joinL nw p q z).map Lx.en)∧(joinL nw p q z).length+1=nw.length∧Joined s p (joinL nw p q z)∧(∀ y∈joinL nw p q z,y=z∨y∈nw):=by
 have hxm:=hh x (List.mem_of_getElem? hx)
 have hym:=hh y (List.mem_of_getElem? hy)
 obtain⟨hp,_⟩:=List.getElem?_eq_some_iff.mp hx
 obtain⟨A,M,D,hs,hA,hM,hD⟩:=split_two hpq hx hy
 have hAl:A.length=p:=by rw [hA,List.length_take];exact Nat.min_eq_left (Nat.le_of_lt ‹_›)
 rw [joinL_is hA hM hD]
 clear hA hM hD
 subst hs
 simp only [List.map_append,List.map_cons,List.length_append,List.length_cons] at *
 have h3':3≤(A.map Lx.en++x.en::(M.map Lx.en++y.en::D.map Lx.en)).length:=by
  simp only [List.length_append,List.length_cons,List.length_map];assumption
 have hw:=ok.win z.d h3' s6
 refine⟨by rw [hz];exact ok.join z.d h3',by exact oxa,⟨z,?_,?_⟩,fun y' hy'=>?_⟩
 ·rw [List.getElem?_append_right (by omega),hAl,Nat.sub_self];rfl
 ·have zp:z.p=x.p:=congrArg En.p hz
  have zh:z.h=y.h+x.h:=congrArg En.h hz
  simp only [List.map_append,List.map_cons]
  rw [hz,zp,zh,hxm,hym]
  change seats _ s x.p=seats _ s x.p+seats _ s y.p∨seats _ s x.p=seats _ s x.p+seats _ s y.p+1 at hw
  change ((seats (pvE (A.map Lx.en++joinE x.en y.en z.d::(M.map Lx.en++D.map Lx.en))) s x.p:Nat):Int)=_∨((seats (pvE (A.map Lx.en++joinE x.en y.en z.d::(M.map Lx.en++D.map Lx.en))) s x.p:Nat):Int)=_
  omega
 ·simp only [List.mem_append,List.mem_cons] at hy' ⊢
  rcases hy' with h | h | h | h
  ·exact .inr (.inl h)
  ·exact .inl h
  ·exact .inr (.inr (.inr (.inl h)))
  ·exact .inr (.inr (.inr (.inr (.inr h))))
theorem facts_li {h:Heap}:∀ {xs:List Lx},(∀ y∈xs,h.get? y.a=some y.tuO∧h.get? y.e=some y.enO)→Facts h (liC xs)
 | [],_=>facts_nil
 | y::ys,H=>((facts_li fun z hz=>H z (.tail _ hz)).cons (H y (.head _)).2).cons (H y (.head _)).1
theorem liC_app:∀ a b:List Lx,liC (a++b)=liC a++liC b
 | [],_=>rfl
 | y::ys,b=>by
  show (y.a,y.tuO)::(y.e,y.enO)::liC (ys++b)=(y.a,y.tuO)::(y.e,y.enO)::(liC ys++liC b)
  rw [liC_app ys b]
noncomputable def vOf (z:Int):Nat:=(1+z.fmod 100).toNat
theorem vOf_eq (z:Int):(1+z.fmod 100)=((vOf z:Nat):Int):=by
 unfold vOf
 rw [Int.fmod_eq_emod_of_nonneg _ (by decide)]
 omega
theorem vOf_ge (z:Int):1≤vOf z∧vOf z≤100:=by
 have:=vOf_eq z
 rw [Int.fmod_eq_emod_of_nonneg _ (by decide)] at this
 omega
noncomputable def mkL (k:Nat) (z:Int) (n t:Nat):Lx:=⟨n+2,t,t+8,n+1,t+5,k,vOf z,0,t+9,0,t+10,1,t+11,n,[⟨k,t+13,vOf z,t+5⟩]⟩
noncomputable def dcC (w:World) (xs:List Lx):List (Nat×Obj):=xs.map fun y=>(y.d,dcO w y.cs)
noncomputable def lists4 (z0 z1 z2 z3:Int) (n t:Nat):List Lx:=[mkL 0 z0 n t,mkL 1 z1 (n+3) (t+15),mkL 2 z2 (n+6) (t+30),mkL 3 z3 (n+9) (t+45)]
noncomputable abbrev L1' (w:World):Stmt:=stAt (bodyOf (fdAt w 246)) 1
section
variable {w:World} {h₀:Heap} {os:OsState}
theorem lisT_0 (B:Base w h₀) {k:Nat} (hk:k≤110) (L it nu ls se:Nat) (vy:List Value) (z:Int) (u:Nat) (hz:vy[0]?=some (.int z u)) (hf:h₀.get? nu=some (lstO vy se)) (ks:Nat→Nat) (vs:List Value) (hv:vs.length≤60) (ep n t n' t':Nat) (Mf:List (Nat×Obj)) {r:Result}
  (next:∀ h₁,Base w h₁→Keeps h₀ h₁→Spec w h₁ os k (loopC (L1' w) (.ref it) (envAt w 246 L)) ⟨[(it,rngO (0+1) (4 - (0+1))),(L,frN w nm246 (upd (upd ks 2 (t+1)) 3 (t+6)) [.ref nu,.ref ls,.int ((0:Nat):Int) t,.int ((vOf z:Nat):Int) (t+5)]),(ls,lstO (vs++[.ref (n+2)]) (ep+1))],n+3,t+15⟩ r ⟨Mf,n',t'⟩) :
  Spec w h₀ os k (loopC (L1' w) (.ref it) (envAt w 246 L)) ⟨[(it,rngO 0 (4 - 0)),(L,frN w nm246 ks [.ref nu,.ref ls]),(ls,lstO vs ep)],n,t⟩ r
   ⟨Mf++[(n+2,(mkL 0 z n t).tuO),(n+1,(mkL 0 z n t).enO),(n,dcO w (mkL 0 z n t).cs)],n',t'⟩:=by
 have gR:=lis_0 w n t L it nu ls u ep se ks z [.int ((0:Nat):Int) 0,.int ((4 - 0:Nat):Int) 0,.int 1 0] [.int ((0+1:Nat):Int) 0,.int ((4 - (0+1):Nat):Int) 0,.int 1 0] vs vy []
 refine good_again gR B (facts_nil.cons hf) ⟨?_,?_,?_,?_,?_,trivial⟩ ?_
 ·exact midH B (fun h₁ B1 K1 F1=>rnx0 B1 it n t 4 0 (by decide) (by decide) (by decide)) rfl rfl
 ·exact mid_ B (fun h₁ B1 K1 F1=>git_ev B1 nu se n (t+3) 0 t vy _ (by decide) hz (K1 _ _ hf))
 ·exact fun m=>mod_ev _ _ _ _ (by decide) m
 ·exact fun m=>addi_ev _ _ _ _ m
 ·exact mid [_,_,_,_,_] [] (fun rest=>appR B ls ep (n+3) (t+15) vs (.ref (n+2)) (by exact Nat.le_trans ‹_› (by decide)) rest)
 ·rw [vOf_eq z]
  refine use B [(n+2,(mkL 0 z n t).tuO),(n+1,(mkL 0 z n t).enO),(n,dcO w (mkL 0 z n t).cs)] [] (fun z'=>?_) (fun z'=>?_) (fun h₁ B1 K1 F1=>next h₁ B1 K1)
  ·rw [show (mkL 0 z n t).tuO=tupO [.int 0 t,.str (sO "a") (t+8),.ref (n+1)] from rfl,show (mkL 0 z n t).enO=tupO [.int ((vOf z:Nat):Int) (t+5),.int 0 (t+9),.int 0 (t+10),.int 1 (t+11),.ref n] from rfl,show dcO w (mkL 0 z n t).cs=dctO [ez w.params (sO "a") (t+13) (.int ((vOf z:Nat):Int) (t+5))] 1 from rfl,
    show rngO (0+1) (4 - (0+1))=fldO "range_iterator" [.int ((0+1:Nat):Int) 0,.int ((4 - (0+1):Nat):Int) 0,.int 1 0] from rfl,show Value.int ((0:Nat):Int) t=.int 0 t from rfl]
   simp only [cnt_cons,cnt_nil];try ac_rfl
  ·simp only [cnt_cons,cnt_nil,cnt_append];try ac_rfl
theorem lisT_1 (B:Base w h₀) {k:Nat} (hk:k≤110) (L it nu ls se:Nat) (vy:List Value) (z:Int) (u:Nat) (hz:vy[1]?=some (.int z u)) (hf:h₀.get? nu=some (lstO vy se)) (ks:Nat→Nat) (V2 V3:Value) (vs:List Value) (hv:vs.length≤60) (ep n t n' t':Nat) (Mf:List (Nat×Obj)) {r:Result}
  (next:∀ h₁,Base w h₁→Keeps h₀ h₁→Spec w h₁ os k (loopC (L1' w) (.ref it) (envAt w 246 L)) ⟨[(it,rngO (1+1) (4 - (1+1))),(L,frN w nm246 ks [.ref nu,.ref ls,.int ((1:Nat):Int) t,.int ((vOf z:Nat):Int) (t+5)]),(ls,lstO (vs++[.ref (n+2)]) (ep+1))],n+3,t+15⟩ r ⟨Mf,n',t'⟩) :
  Spec w h₀ os k (loopC (L1' w) (.ref it) (envAt w 246 L)) ⟨[(it,rngO 1 (4 - 1)),(L,frN w nm246 ks [.ref nu,.ref ls,V2,V3]),(ls,lstO vs ep)],n,t⟩ r
   ⟨Mf++[(n+2,(mkL 1 z n t).tuO),(n+1,(mkL 1 z n t).enO),(n,dcO w (mkL 1 z n t).cs)],n',t'⟩:=by
 have gR:=lis_1 w n t L it nu ls u ep se ks V2 V3 z [.int ((1:Nat):Int) 0,.int ((4 - 1:Nat):Int) 0,.int 1 0] [.int ((1+1:Nat):Int) 0,.int ((4 - (1+1):Nat):Int) 0,.int 1 0] vs vy []
 refine good_again gR B (facts_nil.cons hf) ⟨?_,?_,?_,?_,?_,trivial⟩ ?_
 ·exact midH B (fun h₁ B1 K1 F1=>rnx0 B1 it n t 4 1 (by decide) (by decide) (by decide)) rfl rfl
 ·exact mid_ B (fun h₁ B1 K1 F1=>git_ev B1 nu se n (t+3) 1 t vy _ (by decide) hz (K1 _ _ hf))
 ·exact fun m=>mod_ev _ _ _ _ (by decide) m
 ·exact fun m=>addi_ev _ _ _ _ m
 ·exact mid [_,_,_,_,_] [] (fun rest=>appR B ls ep (n+3) (t+15) vs (.ref (n+2)) (by exact Nat.le_trans ‹_› (by decide)) rest)
 ·rw [vOf_eq z]
  refine use B [(n+2,(mkL 1 z n t).tuO),(n+1,(mkL 1 z n t).enO),(n,dcO w (mkL 1 z n t).cs)] [] (fun z'=>?_) (fun z'=>?_) (fun h₁ B1 K1 F1=>next h₁ B1 K1)
  ·rw [show (mkL 1 z n t).tuO=tupO [.int 1 t,.str (sO "b") (t+8),.ref (n+1)] from rfl,show (mkL 1 z n t).enO=tupO [.int ((vOf z:Nat):Int) (t+5),.int 0 (t+9),.int 0 (t+10),.int 1 (t+11),.ref n] from rfl,show dcO w (mkL 1 z n t).cs=dctO [ez w.params (sO "b") (t+13) (.int ((vOf z:Nat):Int) (t+5))] 1 from rfl,
    show rngO (1+1) (4 - (1+1))=fldO "range_iterator" [.int ((1+1:Nat):Int) 0,.int ((4 - (1+1):Nat):Int) 0,.int 1 0] from rfl,show Value.int ((1:Nat):Int) t=.int 1 t from rfl]
   simp only [cnt_cons,cnt_nil];try ac_rfl
  ·simp only [cnt_cons,cnt_nil,cnt_append];try ac_rfl
theorem lisT_2 (B:Base w h₀) {k:Nat} (hk:k≤110) (L it nu ls se:Nat) (vy:List Value) (z:Int) (u:Nat) (hz:vy[2]?=some (.int z u)) (hf:h₀.get? nu=some (lstO vy se)) (ks:Nat→Nat) (V2 V3:Value) (vs:List Value) (hv:vs.length≤60) (ep n t n' t':Nat) (Mf:List (Nat×Obj)) {r:Result}
  (next:∀ h₁,Base w h₁→Keeps h₀ h₁→Spec w h₁ os k (loopC (L1' w) (.ref it) (envAt w 246 L)) ⟨[(it,rngO (2+1) (4 - (2+1))),(L,frN w nm246 ks [.ref nu,.ref ls,.int ((2:Nat):Int) t,.int ((vOf z:Nat):Int) (t+5)]),(ls,lstO (vs++[.ref (n+2)]) (ep+1))],n+3,t+15⟩ r ⟨Mf,n',t'⟩) :
  Spec w h₀ os k (loopC (L1' w) (.ref it) (envAt w 246 L)) ⟨[(it,rngO 2 (4 - 2)),(L,frN w nm246 ks [.ref nu,.ref ls,V2,V3]),(ls,lstO vs ep)],n,t⟩ r
   ⟨Mf++[(n+2,(mkL 2 z n t).tuO),(n+1,(mkL 2 z n t).enO),(n,dcO w (mkL 2 z n t).cs)],n',t'⟩:=by
 have gR:=lis_2 w n t L it nu ls u ep se ks V2 V3 z [.int ((2:Nat):Int) 0,.int ((4 - 2:Nat):Int) 0,.int 1 0] [.int ((2+1:Nat):Int) 0,.int ((4 - (2+1):Nat):Int) 0,.int 1 0] vs vy []
 refine good_again gR B (facts_nil.cons hf) ⟨?_,?_,?_,?_,?_,trivial⟩ ?_
 ·exact midH B (fun h₁ B1 K1 F1=>rnx0 B1 it n t 4 2 (by decide) (by decide) (by decide)) rfl rfl
 ·exact mid_ B (fun h₁ B1 K1 F1=>git_ev B1 nu se n (t+3) 2 t vy _ (by decide) hz (K1 _ _ hf))
 ·exact fun m=>mod_ev _ _ _ _ (by decide) m
 ·exact fun m=>addi_ev _ _ _ _ m
 ·exact mid [_,_,_,_,_] [] (fun rest=>appR B ls ep (n+3) (t+15) vs (.ref (n+2)) (by exact Nat.le_trans ‹_› (by decide)) rest)
 ·rw [vOf_eq z]
  refine use B [(n+2,(mkL 2 z n t).tuO),(n+1,(mkL 2 z n t).enO),(n,dcO w (mkL 2 z n t).cs)] [] (fun z'=>?_) (fun z'=>?_) (fun h₁ B1 K1 F1=>next h₁ B1 K1)
  ·rw [show (mkL 2 z n t).tuO=tupO [.int 2 t,.str (sO "c") (t+8),.ref (n+1)] from rfl,show (mkL 2 z n t).enO=tupO [.int ((vOf z:Nat):Int) (t+5),.int 0 (t+9),.int 0 (t+10),.int 1 (t+11),.ref n] from rfl,show dcO w (mkL 2 z n t).cs=dctO [ez w.params (sO "c") (t+13) (.int ((vOf z:Nat):Int) (t+5))] 1 from rfl,
    show rngO (2+1) (4 - (2+1))=fldO "range_iterator" [.int ((2+1:Nat):Int) 0,.int ((4 - (2+1):Nat):Int) 0,.int 1 0] from rfl,show Value.int ((2:Nat):Int) t=.int 2 t from rfl]
   simp only [cnt_cons,cnt_nil];try ac_rfl
  ·simp only [cnt_cons,cnt_nil,cnt_append];try ac_rfl
theorem lisT_3 (B:Base w h₀) {k:Nat} (hk:k≤110) (L it nu ls se:Nat) (vy:List Value) (z:Int) (u:Nat) (hz:vy[3]?=some (.int z u)) (hf:h₀.get? nu=some (lstO vy se)) (ks:Nat→Nat) (V2 V3:Value) (vs:List Value) (hv:vs.length≤60) (ep n t n' t':Nat) (Mf:List (Nat×Obj)) {r:Result}
  (next:∀ h₁,Base w h₁→Keeps h₀ h₁→Spec w h₁ os k (loopC (L1' w) (.ref it) (envAt w 246 L)) ⟨[(it,rngO (3+1) (4 - (3+1))),(L,frN w nm246 ks [.ref nu,.ref ls,.int ((3:Nat):Int) t,.int ((vOf z:Nat):Int) (t+5)]),(ls,lstO (vs++[.ref (n+2)]) (ep+1))],n+3,t+15⟩ r ⟨Mf,n',t'⟩) :
  Spec w h₀ os k (loopC (L1' w) (.ref it) (envAt w 246 L)) ⟨[(it,rngO 3 (4 - 3)),(L,frN w nm246 ks [.ref nu,.ref ls,V2,V3]),(ls,lstO vs ep)],n,t⟩ r
   ⟨Mf++[(n+2,(mkL 3 z n t).tuO),(n+1,(mkL 3 z n t).enO),(n,dcO w (mkL 3 z n t).cs)],n',t'⟩:=by
 have gR:=lis_3 w n t L it nu ls u ep se ks V2 V3 z [.int ((3:Nat):Int) 0,.int ((4 - 3:Nat):Int) 0,.int 1 0] [.int ((3+1:Nat):Int) 0,.int ((4 - (3+1):Nat):Int) 0,.int 1 0] vs vy []
 refine good_again gR B (facts_nil.cons hf) ⟨?_,?_,?_,?_,?_,trivial⟩ ?_
 ·exact midH B (fun h₁ B1 K1 F1=>rnx0 B1 it n t 4 3 (by decide) (by decide) (by decide)) rfl rfl
 ·exact mid_ B (fun h₁ B1 K1 F1=>git_ev B1 nu se n (t+3) 3 t vy _ (by decide) hz (K1 _ _ hf))
 ·exact fun m=>mod_ev _ _ _ _ (by decide) m
 ·exact fun m=>addi_ev _ _ _ _ m
 ·exact mid [_,_,_,_,_] [] (fun rest=>appR B ls ep (n+3) (t+15) vs (.ref (n+2)) (by exact Nat.le_trans ‹_› (by decide)) rest)
 ·rw [vOf_eq z]
  refine use B [(n+2,(mkL 3 z n t).tuO),(n+1,(mkL 3 z n t).enO),(n,dcO w (mkL 3 z n t).cs)] [] (fun z'=>?_) (fun z'=>?_) (fun h₁ B1 K1 F1=>next h₁ B1 K1)
  ·rw [show (mkL 3 z n t).tuO=tupO [.int 3 t,.str (sO "d") (t+8),.ref (n+1)] from rfl,show (mkL 3 z n t).enO=tupO [.int ((vOf z:Nat):Int) (t+5),.int 0 (t+9),.int 0 (t+10),.int 1 (t+11),.ref n] from rfl,show dcO w (mkL 3 z n t).cs=dctO [ez w.params (sO "d") (t+13) (.int ((vOf z:Nat):Int) (t+5))] 1 from rfl,
    show rngO (3+1) (4 - (3+1))=fldO "range_iterator" [.int ((3+1:Nat):Int) 0,.int ((4 - (3+1):Nat):Int) 0,.int 1 0] from rfl,show Value.int ((3:Nat):Int) t=.int 3 t from rfl]
   simp only [cnt_cons,cnt_nil];try ac_rfl
  ·simp only [cnt_cons,cnt_nil,cnt_append];try ac_rfl
theorem lis_ok {k:Nat} (hk:k≤80) (nu se n t:Nat) (vy:List Value) (z0 z1 z2 z3:Int) (u0 u1 u2 u3:Nat) (e0:vy[0]?=some (.int z0 u0)) (e1:vy[1]?=some (.int z1 u1)) (e2:vy[2]?=some (.int z2 u2)) (e3:vy[3]?=some (.int z3 u3)) :
  ∃(n' t' ls:Nat) (n0 t0:Nat),∀(h₀:Heap),Base w h₀→h₀.get? nu=some (lstO vy se) →
   Spec w h₀ os k (.call (.ref 246) ⟨[.ref nu],[]⟩) ⟨[],n,t⟩ (.ok (.ret (.ref ls))) ⟨(ls,lstO (refsL (lists4 z0 z1 z2 z3 n0 t0)) 4)::(liC (lists4 z0 z1 z2 z3 n0 t0)++dcC w (lists4 z0 z1 z2 z3 n0 t0)),n',t'⟩:=by
 refine⟨n+4+12+2,t+5+60,n+1,n+4,t+5,fun h₀ B hf=>?_⟩
 refine lis_in B (by exact Nat.le_trans ‹_› (by decide)) nu n t [] ?_
 have gR:=lis_b w n t (n+4+12+2) (t+5+60) nu 4 (upd (upd (upd (tf t) 1 (t+1)) 2 (t+5+1)) 3 (t+5+6)) (.int ((3:Nat):Int) (t+5+45)) (.int ((vOf z3:Nat):Int) (t+5+45+5)) (refsL (lists4 z0 z1 z2 z3 (n+4) (t+5))) (liC (lists4 z0 z1 z2 z3 (n+4) (t+5))++dcC w (lists4 z0 z1 z2 z3 (n+4) (t+5)))
 refine good_done gR B facts_nil ⟨?_,trivial⟩
 refine use B [(n+2,fldO "range" [(.int 0 (t+3)),(.int 4 (t+2)),(.int 1 (t+4))])] [(n+2,fldO "range" [(.int 0 (t+3)),(.int 4 (t+2)),(.int 1 (t+4))])] (fun z=>?_) (fun z=>?_) (fun h₁ B1 K1 F1 =>
  lisT_0 B1 (by exact Nat.le_trans (Nat.add_le_add_right ‹_› _) (by decide)) n (n+3) nu (n+1) se vy z0 u0 e0 (K1 _ _ hf) (upd (tf t) 1 (t+1)) [] (by decide) 0 (n+4) (t+5) (n+4+12+2) (t+5+60) _ fun h₂ B2 K2 =>
  lisT_1 B2 (by exact Nat.le_trans (Nat.add_le_add_right ‹_› _) (by decide)) n (n+3) nu (n+1) se vy z1 u1 e1 (K2 _ _ (K1 _ _ hf)) _ _ _ _ (by simp) 1 (n+4+3) (t+5+15) (n+4+12+2) (t+5+60) _ fun h₃ B3 K3 =>
  lisT_2 B3 (by exact Nat.le_trans (Nat.add_le_add_right ‹_› _) (by decide)) n (n+3) nu (n+1) se vy z2 u2 e2 (K3 _ _ (K2 _ _ (K1 _ _ hf))) _ _ _ _ (by simp) 2 (n+4+3+3) (t+5+15+15) (n+4+12+2) (t+5+60) _ fun h₄ B4 K4 =>
  lisT_3 B4 (by exact Nat.le_trans (Nat.add_le_add_right ‹_› _) (by decide)) n (n+3) nu (n+1) se vy z3 u3 e3 (K4 _ _ (K3 _ _ (K2 _ _ (K1 _ _ hf)))) _ _ _ _ (by simp) 3 (n+4+3+3+3) (t+5+15+15+15) (n+4+12+2) (t+5+60) _ fun h₅ B5 K5 =>
  good_h (lis_e w (n+4+3+3+3+3) (t+5+15+15+15+15) (n+4+12+2) (t+5+60) n (n+3) (n+4+12+1) (.ref (n+4+12)) [.int ((4:Nat):Int) 0,.int ((4 - 4:Nat):Int) 0,.int 1 0] [.int ((4:Nat):Int) 0,.int ((4 - 4:Nat):Int) 0,.int 1 0] _ _) B5 facts_nil ⟨midH B5 (fun h₆ B6 K6 F6=>rne0 B6 (n+3) (n+4+12) (t+5+60) 4 (by decide) (by decide)) rfl rfl,trivial⟩)
 ·rw [show rngO 0 (4 - 0)=fldO "range_iterator" [(.int 0 0),(.int 4 0),(.int 1 0)] from rfl]
  simp only [cnt_cons,cnt_nil];try ac_rfl
 ·rw [show dcC w (lists4 z0 z1 z2 z3 (n+4) (t+5))=[(n+4,dcO w (mkL 0 z0 (n+4) (t+5)).cs),(n+4+3,dcO w (mkL 1 z1 (n+4+3) (t+5+15)).cs),(n+4+3+3,dcO w (mkL 2 z2 (n+4+3+3) (t+5+15+15)).cs),(n+4+3+3+3,dcO w (mkL 3 z3 (n+4+3+3+3) (t+5+15+15+15)).cs)] from rfl,
   show liC (lists4 z0 z1 z2 z3 (n+4) (t+5))=[(n+4+2,(mkL 0 z0 (n+4) (t+5)).tuO),(n+4+1,(mkL 0 z0 (n+4) (t+5)).enO),(n+4+3+2,(mkL 1 z1 (n+4+3) (t+5+15)).tuO),(n+4+3+1,(mkL 1 z1 (n+4+3) (t+5+15)).enO),(n+4+3+3+2,(mkL 2 z2 (n+4+3+3) (t+5+15+15)).tuO),(n+4+3+3+1,(mkL 2 z2 (n+4+3+3) (t+5+15+15)).enO),(n+4+3+3+3+2,(mkL 3 z3 (n+4+3+3+3) (t+5+15+15+15)).tuO),(n+4+3+3+3+1,(mkL 3 z3 (n+4+3+3+3) (t+5+15+15+15)).enO)] from rfl,
   show refsL (lists4 z0 z1 z2 z3 (n+4) (t+5))=[]++[.ref (n+4+2)]++[.ref (n+4+3+2)]++[.ref (n+4+3+3+2)]++[.ref (n+4+3+3+3+2)] from rfl]
  simp only [cnt_cons,cnt_nil,cnt_append];try ac_rfl
theorem num_ok {k:Nat} (hk:k≤80) (sc se n t:Nat) (scr:List (Int×Nat)) (hz:scr.length≤90) :
  ∃(r n' t':Nat) (nums:List (Int×Nat)),nums.map (·.1)=numP (scr.map (·.1))∧∀(h₀:Heap),Base w h₀→h₀.get? sc=some (lstO (intsL scr) se) →
   Spec w h₀ os k (.call (.ref 239) ⟨[.ref sc],[]⟩) ⟨[],n,t⟩ (.ok (.ret (.ref r))) ⟨[(r,lstO (intsL nums) 0)],n',t'⟩:=by
 obtain⟨es,ee,nw,n1,t1,hes,hn,hc,hl⟩:=nu_all (w:=w) (os:=os) (k:=k+21) (by exact Nat.le_trans (Nat.add_le_add_right ‹_› _) (by decide)) n (n+3) (n+4) (n+5) (n+2) 0 (scr.take 7) (by rw [List.length_take];exact Nat.min_le_left _ _) (n+6) (t+2)
 have hln:nw.length=(scr.take 7).length:=by have:=congrArg List.length hc;simpa using this
 have h7:(scr.take 7).length≤7:=by rw [List.length_take];exact Nat.min_le_left _ _
 refine⟨n1+3,n1+4,t1+10,nw++[((7:Int),t1+1),(11,t1+2),(2,t1+3),(4,t1+4),(1,t1+5),(9,t1+6),(5,t1+7)].drop nw.length,?_,fun h₀ B hf=>?_⟩
 ·unfold numP
  rw [List.map_append,hc,List.map_drop,← List.map_take,List.map_map,List.length_map,hln]
  rfl
 ·refine num_in B (by exact Nat.le_trans ‹_› (by decide)) sc n t [] ?_
  have hsl:kms_pick (intsL scr) none (some (7:Int))=intsL (scr.take 7):=by
   have:=pick_to (intsL scr) 7
   rw [show (((7:Nat)):Int)=7 from rfl] at this
   rw [this];unfold intsL;rw [List.map_take]
  have hil:(intsL nw).length=nw.length:=by unfold intsL;rw [List.length_map]
  have hdr:kms_pick [(.int 7 (t1+1)),(.int 11 (t1+2)),(.int 2 (t1+3)),(.int 4 (t1+4)),(.int 1 (t1+5)),(.int 9 (t1+6)),(.int 5 (t1+7))] (some ((intsL nw).length:Int)) none=intsL ([((7:Int),t1+1),(11,t1+2),(2,t1+3),(4,t1+4),(1,t1+5),(9,t1+6),(5,t1+7)].drop nw.length):=by
   rw [pick_from,hil];unfold intsL;rw [List.map_drop];rfl
  rw [show intsL (nw++[((7:Int),t1+1),(11,t1+2),(2,t1+3),(4,t1+4),(1,t1+5),(9,t1+6),(5,t1+7)].drop nw.length)=intsL nw++intsL ([((7:Int),t1+1),(11,t1+2),(2,t1+3),(4,t1+4),(1,t1+5),(9,t1+6),(5,t1+7)].drop nw.length) by unfold intsL;rw [List.map_append]]
  generalize hdf:intsL ([((7:Int),t1+1),(11,t1+2),(2,t1+3),(4,t1+4),(1,t1+5),(9,t1+6),(5,t1+7)].drop nw.length)=vx at hdr
  have hvx:vx.length≤7:=by rw [← hdf];unfold intsL;rw [List.length_map,List.length_drop];simp
  rcases hes with ⟨rfl,rfl⟩ | ⟨k0,V0,rfl,rfl⟩
  ·have gR:=num_b0 w n t n1 t1 sc se (n+2) (scr.take 7).length (tf t) ((intsL nw).length:Int) (intsL scr) (intsL (scr.take 7)) (intsL nw) (intsL nw++vx) vx
   refine good_done gR B (facts_nil.cons hf) ⟨?_,?_,?_,?_,?_,trivial⟩
   ·refine midH B (T:=[(n+1,fldO "slice" [.none,.int 7 (t+1),.none])]) (T':=[(n+2,lstO (intsL (scr.take 7)) 0),(n+1,fldO "slice" [.none,.int 7 (t+1),.none])]) (fun h₁ B1 K1 F1=>?_) rfl rfl
    have:=lsl_ev (os:=os) (k:=k+21) B1 sc se (n+1) (n+2) (t+2) (intsL scr) .none (.int 7 (t+1)) none (some 7) .none (.int _ _) (by unfold intsL;rw [List.length_map];exact Nat.le_trans ‹_› (by decide)) (K1 _ _ hf)
    rw [hsl] at this
    exact this
   ·refine use B [(n+2,lstO (intsL (scr.take 7)) 0),(n+1,fldO "slice" [.none,.int 7 (t+1),.none]),(n,frN w nm239 (tf t) [.ref sc])] [(n+2,lstO (intsL (scr.take 7)) 0),(n+1,fldO "slice" [.none,.int 7 (t+1),.none])] (fun z=>?_) (fun z=>?_) (fun h₁ B1 K1 F1=>hl h₁ B1 (F1 _ (.head _)))
    ·rw [show Value.int ((0:Nat):Int) 0=.int 0 0 from rfl]
     simp only [cnt_cons,cnt_nil];try ac_rfl
    ·simp only [cnt_cons,cnt_nil];try ac_rfl
   ·exact mid_ B (fun h₁ B1 K1 F1=>lenl_ev (n+4) (scr.take 7).length (n1+1) (t1+8) (intsL nw) (by omega) (F1 _ (.tail _ (.tail _ (.head _)))))
   ·refine midH B (T:=[(n1+1,fldO "slice" [.int ((intsL nw).length:Int) (t1+9),.none,.none])]) (T':=[(n1+2,lstO vx 0),(n1+1,fldO "slice" [.int ((intsL nw).length:Int) (t1+9),.none,.none])]) (fun h₁ B1 K1 F1=>?_) rfl rfl
    have:=lsl_ev (os:=os) (k:=k+21) B1 n1 0 (n1+1) (n1+2) (t1+10) [(.int 7 (t1+1)),(.int 11 (t1+2)),(.int 2 (t1+3)),(.int 4 (t1+4)),(.int 1 (t1+5)),(.int 9 (t1+6)),(.int 5 (t1+7))] (.int ((intsL nw).length:Int) (t1+9)) .none (some ((intsL nw).length:Int)) none (.int _ _) .none (by simp) (F1 _ (.head _))
    rw [hdr] at this
    exact this
   ·exact midH B (T:=[]) (T':=[(n1+3,lstO (intsL nw++vx) 0)]) (fun h₁ B1 K1 F1=>cat_ev (n+4) (scr.take 7).length (n1+2) 0 (n1+3) (t1+10) _ _ (F1 _ (.tail _ (.tail _ (.tail _ (.tail _ (.head _)))))) (F1 _ (.head _)) (by omega)) rfl rfl
  ·have gR:=num_b1 w n t n1 t1 sc se (n+2) (scr.take 7).length (tf t) k0 V0 ((intsL nw).length:Int) (intsL scr) (intsL (scr.take 7)) (intsL nw) (intsL nw++vx) vx
   refine good_done gR B (facts_nil.cons hf) ⟨?_,?_,?_,?_,?_,trivial⟩
   ·refine midH B (T:=[(n+1,fldO "slice" [.none,.int 7 (t+1),.none])]) (T':=[(n+2,lstO (intsL (scr.take 7)) 0),(n+1,fldO "slice" [.none,.int 7 (t+1),.none])]) (fun h₁ B1 K1 F1=>?_) rfl rfl
    have:=lsl_ev (os:=os) (k:=k+21) B1 sc se (n+1) (n+2) (t+2) (intsL scr) .none (.int 7 (t+1)) none (some 7) .none (.int _ _) (by unfold intsL;rw [List.length_map];exact Nat.le_trans ‹_› (by decide)) (K1 _ _ hf)
    rw [hsl] at this
    exact this
   ·refine use B [(n+2,lstO (intsL (scr.take 7)) 0),(n+1,fldO "slice" [.none,.int 7 (t+1),.none]),(n,frN w nm239 (tf t) [.ref sc])] [(n+2,lstO (intsL (scr.take 7)) 0),(n+1,fldO "slice" [.none,.int 7 (t+1),.none])] (fun z=>?_) (fun z=>?_) (fun h₁ B1 K1 F1=>hl h₁ B1 (F1 _ (.head _)))
    ·rw [show Value.int ((0:Nat):Int) 0=.int 0 0 from rfl]
     simp only [cnt_cons,cnt_nil];try ac_rfl
    ·simp only [cnt_cons,cnt_nil];try ac_rfl
   ·exact mid_ B (fun h₁ B1 K1 F1=>lenl_ev (n+4) (scr.take 7).length (n1+1) (t1+8) (intsL nw) (by omega) (F1 _ (.tail _ (.tail _ (.head _)))))
   ·refine midH B (T:=[(n1+1,fldO "slice" [.int ((intsL nw).length:Int) (t1+9),.none,.none])]) (T':=[(n1+2,lstO vx 0),(n1+1,fldO "slice" [.int ((intsL nw).length:Int) (t1+9),.none,.none])]) (fun h₁ B1 K1 F1=>?_) rfl rfl
    have:=lsl_ev (os:=os) (k:=k+21) B1 n1 0 (n1+1) (n1+2) (t1+10) [(.int 7 (t1+1)),(.int 11 (t1+2)),(.int 2 (t1+3)),(.int 4 (t1+4)),(.int 1 (t1+5)),(.int 9 (t1+6)),(.int 5 (t1+7))] (.int ((intsL nw).length:Int) (t1+9)) .none (some ((intsL nw).length:Int)) none (.int _ _) .none (by simp) (F1 _ (.head _))
    rw [hdr] at this
    exact this
   ·exact midH B (T:=[]) (T':=[(n1+3,lstO (intsL nw++vx) 0)]) (fun h₁ B1 K1 F1=>cat_ev (n+4) (scr.take 7).length (n1+2) 0 (n1+3) (t1+10) _ _ (F1 _ (.tail _ (.tail _ (.tail _ (.tail _ (.head _)))))) (F1 _ (.head _)) (by omega)) rfl rfl
end
noncomputable abbrev LW (w:World):Stmt:=stAt (bodyOf (fdAt w 277)) 6
theorem lw_for (w:World):ForIs (LW w):=fun _ _=>by kernel_rfl
theorem lw_name (w:World) (it v:Value):letOwnedTupleGo (tgtS (LW w)) it v=pure ():=by kernel_rfl
noncomputable abbrev LI (w:World):Stmt:=stAt (forB (LW w)) 1
theorem lw_if (w:World):IfIs .NotEq (LI w):=⟨lhsX (ifT (LI w)),rhsX (ifT (LI w)),cmpP (ifT (LI w)),(ifR (LI w)).1,(ifR (LI w)).2,by kernel_rfl,by kernel_rfl⟩
noncomputable def DFrom (xs xs':List Lx) (zd:Nat) (zc:List De):Prop:=∀ y∈xs',(∃ x∈xs,x.d=y.d∧x.cs=y.cs)∨y.d=zd∧y.cs=zc
section
variable {w:World} {os:OsState}
theorem turn_0 {k:Nat} (hk:k≤30) (L it la le pl ts tw n t:Nat) (ks:Nat→Nat) (V0 V1 V5:Value) (s:Nat) (s3:3≤s) (s6:s≤6) (vv:Nat) (hvv:vv≤1000) (C:List (Nat×Nat)) (hC:C.map (·.1)=[0,1,2,3]) (xs:List Lx) (ok:LOk vv C (xs.map Lx.en)) (h3:3≤xs.length) (pa pb te tf':Nat) (p q:Nat) (hpq:p < q) (hq:q < xs.length) :
  ∃(ks':Nat→Nat) (V7' V8' V9' :Value) (rr n' t':Nat) (xs':List Lx) (zd:Nat) (zc:List De),LOk vv C (xs'.map Lx.en)∧xs'.length+1=xs.length∧Joined s p xs'∧DFrom xs xs' zd zc∧∀(h₀:Heap),Base w h₀→Sees w h₀ la le xs→h₀.get? pl=some (lstO [.ref pa,.ref pb] 0)→h₀.get? pa=some (tupO [.int p te,.int q tf']) →
   ∀ {r':Result} {Mf:List (Nat×Obj)} {n'' t'':Nat},(∀ h₁,Base w h₁→Keeps h₀ h₁→Sees w h₁ rr 0 xs'→Spec w h₁ os k (loopC (LW w) (.ref it) (envAt w 277 L)) ⟨[(L,frN w nm277 ks' [V0,V1,.int s ts,.ref rr,.int vv tw,V5,.ref pl,V7',V8',V9']),(it,rngO (0+1) (3 - (0+1)))],n',t'⟩ r' ⟨Mf,n'',t''⟩) →
   Spec w h₀ os k (loopC (LW w) (.ref it) (envAt w 277 L)) ⟨[(L,frN w nm277 ks [V0,V1,.int s ts,.ref la,.int vv tw,V5,.ref pl]),(it,rngO 0 (3 - 0))],n,t⟩ r' ⟨Mf++[(zd,dcO w zc)],n'',t''⟩:=by
 have h2:2≤xs.length:=by have:=ok.two;rwa [List.length_map] at this
 have h4:xs.length≤4:=by have:=ok.four;rwa [List.length_map] at this
 have l2:2≤(xs.map Lx.li).length:=by rw [List.length_map];exact h2
 have l4:(xs.map Lx.li).length≤4:=by rw [List.length_map];exact h4
 have hup:(xs.map Lx.li).Pairwise (fun a b=>a.p < b.p):=by
  have:=ok.up
  rw [List.map_map] at this
  exact List.pairwise_map.mpr (List.pairwise_map.mp this)
 have hlt:∀ y∈xs.map Lx.li,y.p < 4:=fun y hy=>by
  obtain⟨x,hx,rfl⟩:=List.mem_map.mp hy
  exact ok.lt x.en (List.mem_map_of_mem hx)
 have hge:∀ y∈xs.map Lx.li,1≤y.v:=fun y hy=>by
  obtain⟨x,hx,rfl⟩:=List.mem_map.mp hy
  exact ok.ge x.en (List.mem_map_of_mem hx)
 obtain⟨x,dx,th,l,ep,hs,n1,t1,hT,hrun⟩:=run_ok (w:=w) (os:=os) (k:=k+21) (by exact Nat.le_trans (Nat.add_le_add_right ‹_› _) (by decide)) la le ts n (t+2) (xs.map Lx.li) l2 l4 hup hlt s s3 s6
 obtain⟨d,ep',hs',n2,t2,wp,hW,hD,hdue⟩:=due_ok (w:=w) (os:=os) (k:=k+21) (by exact Nat.le_trans (Nat.add_le_add_right ‹_› _) (by decide)) la le ts (n1+3) (t1+3) (xs.map Lx.li) l2 l4 hlt hge s s3 s6
 rw [pl_li] at hT hW
 rw [p_li] at hT hD
 rw [← law_table ok.pl s6 hW] at hD
 change TabIs hs (tabT xs s) at hT
 change TabIs hs' (tabT xs s) at hD
 have hz8:hs.length≤8:=by
  have e:=congrArg List.length (show hs.map hdF=(tabT xs s).map ptF from hT)
  rw [List.length_map,List.length_map] at e
  have:=(tabOk_of ok s6).four
  exact Nat.le_trans (Nat.le_of_eq ‹_›) (Nat.le_trans ‹_› (by decide))
 obtain⟨af,ep4,n3,t3,nw,hnw,hsea⟩:=sea_ok (w:=w) (os:=os) (k:=k+21) (by exact Nat.le_trans (Nat.add_le_add_right ‹_› _) (by decide)) la le x dx th l ep ts tw n2 t2 s s6 (vv:Int) (by exact oxi ‹_›) hs (tabT xs s) hT xs (tabOk_of ok s6) h2 (by exact Nat.le_trans ‹_› (by decide))
 obtain⟨okn,hlen,hpv,hho,hdd⟩:=seat_facts ok s6 hnw
 obtain⟨x1,hx1⟩:∃ x1,nw[p]?=some x1:=⟨_,List.getElem?_eq_getElem (by omega)⟩
 obtain⟨y1,hy1⟩:∃ y1,nw[q]?=some y1:=⟨_,List.getElem?_eq_getElem (by exact Nat.le_trans ‹_› (Nat.le_of_eq (Eq.symm ‹_›)))⟩
 obtain⟨hde,c1,c2,c3,c4⟩:=join_de okn hC hpq hx1 hy1
 obtain⟨rr,n4,t4,z,hz,hjoi⟩:=joi_ok (w:=w) (os:=os) (k:=k+21) (by exact Nat.le_trans (Nat.add_le_add_right ‹_› _) (by decide)) af ep4 te tf' n3 (t3+6) nw p q hpq (by exact Nat.le_trans (Nat.le_of_eq ‹_›) (Nat.le_trans ‹_› (by decide))) x1 y1 hx1 hy1 c1 c2 c3 c4 hde
 obtain⟨okj,jlen,jj,jm⟩:=join_facts okn s6 (fun y hy=>(hho y hy).1) (by exact Nat.le_trans ‹_› (Nat.le_of_eq (Eq.symm ‹_›))) hpq hx1 hy1 hz
 refine⟨(upd (upd (upd ks 7 (t+1)) 8 t1) 9 t3),.int 0 t,.ref x,.ref af,rr,n4,t4+1,joinL nw p q z,z.d,z.cs,okj,by omega,jj,fun y hy=>?_,fun h₀ B S fpl fpa r' Mf n'' t'' next=>?_⟩
 ·rcases jm y hy with rfl | hy
  ·exact .inr ⟨rfl,rfl⟩
  ·exact .inl (hdd y hy)
 have hL:=lisIn_of S.l S.f
 rw [lw_for w _ _]
 simp only [lw_for w _ _] at next
 refine spec_turn (m1:=⟨[(L,frN w nm277 ks [V0,V1,.int s ts,.ref la,.int vv tw,V5,.ref pl]),(it,rngO (0+1) (3 - (0+1)))],n,t+1⟩) (m2:=⟨[(L,frN w nm277 (upd ks 7 (t+1)) [V0,V1,.int s ts,.ref la,.int vv tw,V5,.ref pl,.int 0 t]),(it,rngO (0+1) (3 - (0+1)))],n,t+2⟩) (m3:=⟨(L,frN w nm277 (upd (upd ks 7 (t+1)) 8 t1) [V0,V1,.int s ts,.ref la,.int vv tw,V5,.ref pl,.int 0 t,.ref x])::(it,rngO (0+1) (3 - (0+1)))::tabC w x dx th l ep hs,n1,t1+1⟩) (m4:=⟨(L,frN w nm277 (upd (upd ks 7 (t+1)) 8 t1) [V0,V1,.int s ts,.ref la,.int vv tw,V5,.ref pl,.int 0 t,.ref x])::(it,rngO (0+1) (3 - (0+1)))::(n1+2,lstO (refsH hs) 0)::tabC w x dx th l ep hs,n1+3,t1+3⟩) (m5:=⟨(L,frN w nm277 (upd (upd ks 7 (t+1)) 8 t1) [V0,V1,.int s ts,.ref la,.int vv tw,V5,.ref pl,.int 0 t,.ref x])::(it,rngO (0+1) (3 - (0+1)))::(n1+2,lstO (refsH hs) 0)::(d,lstO (refsH hs') ep')::(tabC w x dx th l ep hs++hs'.map Hd.cell),n2,t2⟩) (v:=.int 0 t) (a:=.ref (n1+2)) (b:=.ref d) rfl (lw_name w) (lw_if w) ?_ ?_ ?_ ?_ ?_ ?_ (m6:=⟨(L,frN w nm277 (upd (upd (upd ks 7 (t+1)) 8 t1) 9 t3) [V0,V1,.int s ts,.ref rr,.int vv tw,V5,.ref pl,.int 0 t,.ref x,.ref af])::(rr,lstO (refsL (joinL nw p q z)) 0)::(z.a,z.tuO)::(z.e,z.enO)::(z.d,dcO w z.cs)::(af,lstO (refsL nw) ep4)::(liC nw++((it,rngO (0+1) (3 - (0+1)))::(n1+2,lstO (refsH hs) 0)::(d,lstO (refsH hs') ep')::(tabC w x dx th l ep hs++hs'.map Hd.cell))),n4,t4+1⟩) ?_ ?_
 ·have gR:=rnA w n t it ((0:Nat):Int) [.int ((0:Nat):Int) 0,.int ((3 - 0:Nat):Int) 0,.int 1 0] [.int ((0+1:Nat):Int) 0,.int ((3 - (0+1):Nat):Int) 0,.int 1 0] [(L,frN w nm277 ks [V0,V1,.int s ts,.ref la,.int vv tw,V5,.ref pl])]
  refine useT B [] [] (fun z=>?_) (fun z=>?_) (fun h₁ B1 K1 F1=>goodX_t gR B1 facts_nil ⟨?_,trivial⟩)
  ·rw [show rngO 0 (3 - 0)=fldO "range_iterator" [.int ((0:Nat):Int) 0,.int ((3 - 0:Nat):Int) 0,.int 1 0] from rfl]
   simp only [cnt_cons,cnt_tab,cnt_nil,cnt_append,cnt_liC,List.cons_append,List.nil_append];try ac_rfl
  ·rw [show rngO (0+1) (3 - (0+1))=fldO "range_iterator" [.int ((0+1:Nat):Int) 0,.int ((3 - (0+1):Nat):Int) 0,.int 1 0] from rfl]
   simp only [cnt_cons,cnt_tab,cnt_nil,cnt_append,cnt_liC,List.cons_append,List.nil_append];try ac_rfl
  ·exact midH B1 (fun h₂ B2 K2 F2=>rnx0 B2 it n t 3 0 (by decide) (by decide) (by decide)) rfl rfl
 ·have gR:=lwA_0 w n (t+1) L ts tw la pl t ks V0 V1 V5 s vv 0 [(it,rngO (0+1) (3 - (0+1)))]
  exact goodX_t gR B facts_nil trivial
 ·have gR:=lw1_0 w n (t+2) n1 t1 L ts tw la pl x (upd ks 7 (t+1)) V0 V1 V5 (.int 0 t) s vv [(it,rngO (0+1) (3 - (0+1)))] ((it,rngO (0+1) (3 - (0+1)))::tabC w x dx th l ep hs)
  exact goodX_t gR B facts_nil ⟨midT B (fun h₁ B1 K1 F1=>hrun h₁ B1 (hL.keeps K1)) rfl,trivial⟩
 ·have gR:=lw2_0 w n1 (t1+1) (n1+3) (t1+3) L ts tw la pl x dx th l (n1+2) (upd (upd ks 7 (t+1)) 8 t1) V0 V1 V5 (.int 0 t) s vv ((l,lstO (hs.map fun h=>.ref h.a) ep)::(hs.map Hd.cell++[(it,rngO (0+1) (3 - (0+1)))])) ((n1+2,lstO (refsH hs) 0)::(l,lstO (hs.map fun h=>.ref h.a) ep)::(hs.map Hd.cell++[(it,rngO (0+1) (3 - (0+1)))]))
  refine useT B [] [] (fun z=>?_) (fun z=>?_) (fun h₁ B1 K1 F1=>goodX_t gR B1 facts_nil ⟨?_,trivial⟩)
  ·simp only [cnt_cons,cnt_tab,cnt_nil,cnt_append,cnt_liC,List.cons_append,List.nil_append];try ac_rfl
  ·simp only [cnt_cons,cnt_tab,cnt_nil,cnt_append,cnt_liC,List.cons_append,List.nil_append];try ac_rfl
  ·refine use B1 [(L,frN w nm277 (upd (upd ks 7 (t+1)) 8 t1) [V0,V1,.int s ts,.ref la,.int vv tw,V5,.ref pl,.int 0 t,.ref x]),(it,rngO (0+1) (3 - (0+1)))] [] (fun z=>?_) (fun z=>?_) (fun h₂ B2 K2 F2=>items_ok B2 (by exact Nat.le_trans (Nat.add_le_add_right ‹_› _) (by decide)) x dx th l ep n1 (t1+1) hs hz8)
   ·simp only [cnt_cons,cnt_tab,cnt_nil,cnt_append,cnt_liC,List.cons_append,List.nil_append];try ac_rfl
   ·simp only [cnt_cons,cnt_tab,cnt_nil,cnt_append,cnt_liC,List.cons_append,List.nil_append];try ac_rfl
 ·have gR:=lw3_0 w (n1+3) (t1+3) n2 t2 L ts tw la pl x d (upd (upd ks 7 (t+1)) 8 t1) V0 V1 V5 (.int 0 t) s vv ((it,rngO (0+1) (3 - (0+1)))::(n1+2,lstO (refsH hs) 0)::tabC w x dx th l ep hs) ((it,rngO (0+1) (3 - (0+1)))::(n1+2,lstO (refsH hs) 0)::(d,lstO (refsH hs') ep')::(tabC w x dx th l ep hs++hs'.map Hd.cell))
  refine goodX_t gR B facts_nil ⟨?_,trivial⟩
  refine use B ((L,frN w nm277 (upd (upd ks 7 (t+1)) 8 t1) [V0,V1,.int s ts,.ref la,.int vv tw,V5,.ref pl,.int 0 t,.ref x])::(it,rngO (0+1) (3 - (0+1)))::(n1+2,lstO (refsH hs) 0)::tabC w x dx th l ep hs) [] (fun z=>?_) (fun z=>?_) (fun h₁ B1 K1 F1=>hdue h₁ B1 (hL.keeps K1))
  ·simp only [cnt_cons,cnt_tab,cnt_nil,cnt_append,cnt_liC,List.cons_append,List.nil_append];try ac_rfl
  ·simp only [cnt_cons,cnt_tab,cnt_nil,cnt_append,cnt_liC,List.cons_append,List.nil_append];try ac_rfl
 ·refine cmp_of (T:="list") (id:="list.__ne__") (by exact Nat.le_trans ‹_› (by decide)) F.slot_list_ne (fun s D=>⟨_,(D.cell _ (.tail _ (.tail _ (.head _)))).1,rfl⟩) (fun s D=>⟨_,(D.cell _ (.tail _ (.tail _ (.tail _ (.head _))))).1,rfl⟩) (fun e=>by cases e) ?_
  refine mid_ B (fun h₁ B1 K1 F1=>?_)
  exact neH_ev (by exact Nat.le_trans (Nat.add_le_add_right ‹_› _) (by decide)) (n1+2) d 0 ep' n2 t2 hs hs' (tabT xs s) hT hD (F1 _ (.tail _ (.tail _ (.head _)))) (F1 _ (.tail _ (.tail _ (.tail _ (.head _))))) (F1.sub fun p hp=>.tail _ (.tail _ (.tail _ (.tail _ (List.mem_append_left _ (.tail _ (.tail _ (.tail _ hp)))))))) (F1.sub fun p hp=>.tail _ (.tail _ (.tail _ (.tail _ (List.mem_append_right _ hp)))))
 ·have gR:=lw4_0 w n2 t2 n3 t3 n4 t4 L ts tw la pl x t af ep4 pa pb te tf' rr (upd (upd ks 7 (t+1)) 8 t1) V0 V1 V5 s vv p q (refsL nw) ((it,rngO (0+1) (3 - (0+1)))::(n1+2,lstO (refsH hs) 0)::(d,lstO (refsH hs') ep')::(tabC w x dx th l ep hs++hs'.map Hd.cell)) (liC nw++((it,rngO (0+1) (3 - (0+1)))::(n1+2,lstO (refsH hs) 0)::(d,lstO (refsH hs') ep')::(tabC w x dx th l ep hs++hs'.map Hd.cell))) ((rr,lstO (refsL (joinL nw p q z)) 0)::(z.a,z.tuO)::(z.e,z.enO)::(z.d,dcO w z.cs)::(af,lstO (refsL nw) ep4)::(liC nw++((it,rngO (0+1) (3 - (0+1)))::(n1+2,lstO (refsH hs) 0)::(d,lstO (refsH hs') ep')::(tabC w x dx th l ep hs++hs'.map Hd.cell))))
  refine goodX_t gR B ((facts_nil.cons fpa).cons fpl) ⟨?_,fun m=>gt_ev _ _ _ _ (by decide) m,fun m=>lt_ev _ _ _ _ (by decide) m,?_,?_,?_,trivial⟩
  ·refine use B ((L,frN w nm277 (upd (upd ks 7 (t+1)) 8 t1) [V0,V1,.int s ts,.ref la,.int vv tw,V5,.ref pl,.int 0 t,.ref x])::(it,rngO (0+1) (3 - (0+1)))::(n1+2,lstO (refsH hs) 0)::(d,lstO (refsH hs') ep')::hs'.map Hd.cell) [] (fun z=>?_) (fun z=>?_) (fun h₁ B1 K1 F1=>hsea h₁ B1 (hL.keeps K1))
   ·simp only [cnt_cons,cnt_tab,cnt_nil,cnt_append,cnt_liC,List.cons_append,List.nil_append];try ac_rfl
   ·simp only [cnt_cons,cnt_tab,cnt_nil,cnt_append,cnt_liC,List.cons_append,List.nil_append];try ac_rfl
  ·exact mid_ B (fun h₁ B1 K1 F1=>git_ev B1 pl 0 n3 (t3+4) 0 t _ _ (by decide) rfl (K1 _ _ fpl))
  ·exact mid_ B (fun h₁ B1 K1 F1=>git_ev B1 pl 0 n3 (t3+5) 0 t _ _ (by decide) rfl (K1 _ _ fpl))
  ·refine use B ((af,lstO (refsL nw) ep4)::(L,frN w nm277 (upd (upd (upd ks 7 (t+1)) 8 t1) 9 t3) [V0,V1,.int s ts,.ref af,.int vv tw,V5,.ref pl,.int 0 t,.ref x,.ref af])::(liC nw++((it,rngO (0+1) (3 - (0+1)))::(n1+2,lstO (refsH hs) 0)::(d,lstO (refsH hs') ep')::(tabC w x dx th l ep hs++hs'.map Hd.cell)))) [] (fun z=>?_) (fun z=>?_) (fun h₁ B1 K1 F1=>hjoi h₁ B1 (Facts.cons (F1 _ (.head _)) (F1.sub fun p hp=>.tail _ (.tail _ (List.mem_append_left _ hp)))) ?_ ?_)
   ·simp only [cnt_cons,cnt_tab,cnt_nil,cnt_append,cnt_liC,List.cons_append,List.nil_append];try ac_rfl
   ·simp only [cnt_cons,cnt_tab,cnt_nil,cnt_append,cnt_liC,List.cons_append,List.nil_append];try ac_rfl
   ·obtain⟨x0,hx0,e1,e2⟩:=hdd x1 (List.mem_of_getElem? hx1)
    rw [← e1,← e2];exact K1 _ _ (S.d x0 hx0)
   ·obtain⟨x0,hx0,e1,e2⟩:=hdd y1 (List.mem_of_getElem? hy1)
    rw [← e1,← e2];exact K1 _ _ (S.d x0 hx0)
 ·refine use B ((z.d,dcO w z.cs)::(rr,lstO (refsL (joinL nw p q z)) 0)::(z.a,z.tuO)::(z.e,z.enO)::(liC nw++((af,lstO (refsL nw) ep4)::(n1+2,lstO (refsH hs) 0)::(d,lstO (refsH hs') ep')::(tabC w x dx th l ep hs++hs'.map Hd.cell)))) ((rr,lstO (refsL (joinL nw p q z)) 0)::(z.a,z.tuO)::(z.e,z.enO)::(liC nw++((af,lstO (refsL nw) ep4)::(n1+2,lstO (refsH hs) 0)::(d,lstO (refsH hs') ep')::(tabC w x dx th l ep hs++hs'.map Hd.cell)))) (fun z=>?_) (fun z=>?_) (fun h₁ B1 K1 F1=>next h₁ B1 K1 ⟨F1 _ (.tail _ (.head _)),facts_li fun y hy=>?_,fun y hy=>?_⟩)
  ·simp only [cnt_cons,cnt_tab,cnt_nil,cnt_append,cnt_liC,List.cons_append,List.nil_append];try ac_rfl
  ·simp only [cnt_cons,cnt_tab,cnt_nil,cnt_append,cnt_liC,List.cons_append,List.nil_append];try ac_rfl
  ·rcases jm y hy with rfl | hy
   ·exact⟨F1 _ (.tail _ (.tail _ (.head _))),F1 _ (.tail _ (.tail _ (.tail _ (.head _))))⟩
   ·exact⟨F1 _ (.tail _ (.tail _ (.tail _ (.tail _ (List.mem_append_left _ (liC_mem hy).1))))),F1 _ (.tail _ (.tail _ (.tail _ (.tail _ (List.mem_append_left _ (liC_mem hy).2)))))⟩
  ·rcases jm y hy with rfl | hy
   ·exact F1 _ (.head _)
   ·obtain⟨x0,hx0,e1,e2⟩:=hdd y hy
    rw [← e1,← e2];exact K1 _ _ (S.d x0 hx0)
end
section
variable {w:World} {os:OsState}
theorem turn_1 {k:Nat} (hk:k≤30) (L it la le pl ts tw n t:Nat) (ks:Nat→Nat) (V0 V1 V5 V7 V8 V9:Value) (s:Nat) (s3:3≤s) (s6:s≤6) (vv:Nat) (hvv:vv≤1000) (C:List (Nat×Nat)) (hC:C.map (·.1)=[0,1,2,3]) (xs:List Lx) (ok:LOk vv C (xs.map Lx.en)) (h3:3≤xs.length) (pa pb te tf' tg tj:Nat) (p p2:Nat) (hj:Joined s p xs) (r q:Nat) (hpq:r < q) (hq:q < xs.length) :
  ∃(ks':Nat→Nat) (V7' V8' V9' V10':Value) (rr n' t':Nat) (xs':List Lx) (zd:Nat) (zc:List De),LOk vv C (xs'.map Lx.en)∧xs'.length+1=xs.length∧Joined s r xs'∧DFrom xs xs' zd zc∧∀(h₀:Heap),Base w h₀→Sees w h₀ la le xs→h₀.get? pl=some (lstO [.ref pa,.ref pb] 0)→h₀.get? pa=some (tupO [.int p tg,.int p2 tj])→h₀.get? pb=some (tupO [.int r te,.int q tf']) →
   ∀ {r':Result} {Mf:List (Nat×Obj)} {n'' t'':Nat},(∀ h₁,Base w h₁→Keeps h₀ h₁→Sees w h₁ rr 0 xs'→Spec w h₁ os k (loopC (LW w) (.ref it) (envAt w 277 L)) ⟨[(L,frN w nm277 ks' [V0,V1,.int s ts,.ref rr,.int vv tw,V5,.ref pl,V7',V8',V9',V10']),(it,rngO (1+1) (3 - (1+1)))],n',t'⟩ r' ⟨Mf,n'',t''⟩) →
   Spec w h₀ os k (loopC (LW w) (.ref it) (envAt w 277 L)) ⟨[(L,frN w nm277 ks [V0,V1,.int s ts,.ref la,.int vv tw,V5,.ref pl,V7,V8,V9]),(it,rngO 1 (3 - 1))],n,t⟩ r' ⟨Mf++[(zd,dcO w zc)],n'',t''⟩:=by
 have h2:2≤xs.length:=by have:=ok.two;rwa [List.length_map] at this
 have h4:xs.length≤4:=by have:=ok.four;rwa [List.length_map] at this
 have l2:2≤(xs.map Lx.li).length:=by rw [List.length_map];exact h2
 have l4:(xs.map Lx.li).length≤4:=by rw [List.length_map];exact h4
 have hup:(xs.map Lx.li).Pairwise (fun a b=>a.p < b.p):=by
  have:=ok.up
  rw [List.map_map] at this
  exact List.pairwise_map.mpr (List.pairwise_map.mp this)
 have hlt:∀ y∈xs.map Lx.li,y.p < 4:=fun y hy=>by
  obtain⟨x,hx,rfl⟩:=List.mem_map.mp hy
  exact ok.lt x.en (List.mem_map_of_mem hx)
 have hge:∀ y∈xs.map Lx.li,1≤y.v:=fun y hy=>by
  obtain⟨x,hx,rfl⟩:=List.mem_map.mp hy
  exact ok.ge x.en (List.mem_map_of_mem hx)
 obtain⟨x,dx,th,l,ep,hs,n1,t1,hT,hrun⟩:=run_ok (w:=w) (os:=os) (k:=k+21) (by exact Nat.le_trans (Nat.add_le_add_right ‹_› _) (by decide)) la le ts n (t+2) (xs.map Lx.li) l2 l4 hup hlt s s3 s6
 obtain⟨d,ep',hs',n2,t2,wp,hW,hD,hdue⟩:=due_ok (w:=w) (os:=os) (k:=k+21) (by exact Nat.le_trans (Nat.add_le_add_right ‹_› _) (by decide)) la le ts (n1+3) (t1+3) (xs.map Lx.li) l2 l4 hlt hge s s3 s6
 rw [pl_li] at hT hW
 rw [p_li] at hT hD
 rw [← law_table ok.pl s6 hW] at hD
 change TabIs hs (tabT xs s) at hT
 change TabIs hs' (tabT xs s) at hD
 have hz8:hs.length≤8:=by
  have e:=congrArg List.length (show hs.map hdF=(tabT xs s).map ptF from hT)
  rw [List.length_map,List.length_map] at e
  have:=(tabOk_of ok s6).four
  exact Nat.le_trans (Nat.le_of_eq ‹_›) (Nat.le_trans ‹_› (by decide))
 obtain⟨af,ep4,n3,t3,nw,hnw,hsea⟩:=sea_ok (w:=w) (os:=os) (k:=k+21) (by exact Nat.le_trans (Nat.add_le_add_right ‹_› _) (by decide)) la le x dx th l ep ts tw n2 t2 s s6 (vv:Int) (by exact oxi ‹_›) hs (tabT xs s) hT xs (tabOk_of ok s6) h2 (by exact Nat.le_trans ‹_› (by decide))
 obtain⟨okn,hlen,hpv,hho,hdd⟩:=seat_facts ok s6 hnw
 obtain⟨x1,hx1⟩:∃ x1,nw[r]?=some x1:=⟨_,List.getElem?_eq_getElem (by omega)⟩
 obtain⟨y1,hy1⟩:∃ y1,nw[q]?=some y1:=⟨_,List.getElem?_eq_getElem (by exact Nat.le_trans ‹_› (Nat.le_of_eq (Eq.symm ‹_›)))⟩
 obtain⟨hde,c1,c2,c3,c4⟩:=join_de okn hC hpq hx1 hy1
 obtain⟨rr,n4,t4,z,hz,hjoi⟩:=joi_ok (w:=w) (os:=os) (k:=k+21) (by exact Nat.le_trans (Nat.add_le_add_right ‹_› _) (by decide)) af ep4 te tf' (n3+1) (t3+17) nw r q hpq (by exact Nat.le_trans (Nat.le_of_eq ‹_›) (Nat.le_trans ‹_› (by decide))) x1 y1 hx1 hy1 c1 c2 c3 c4 hde
 obtain⟨okj,jlen,jj,jm⟩:=join_facts okn s6 (fun y hy=>(hho y hy).1) (by exact Nat.le_trans ‹_› (Nat.le_of_eq (Eq.symm ‹_›))) hpq hx1 hy1 hz
 obtain⟨z0,hz0,hzh⟩:=hj
 obtain⟨hpx,_⟩:=List.getElem?_eq_some_iff.mp hz0
 obtain⟨a1,ha1⟩:∃ a1,nw[p]?=some a1:=⟨_,List.getElem?_eq_getElem (by exact Nat.le_trans ‹_› (Nat.le_of_eq (Eq.symm ‹_›)))⟩
 obtain⟨XA,XB,hsp,hXA⟩:∃ XA XB,nw=XA++a1::XB∧XA=nw.take p:=⟨nw.take p,nw.drop (p+1),by
  obtain⟨hp',e⟩:=List.getElem?_eq_some_iff.mp ha1
  rw [← e,List.getElem_cons_drop,List.take_append_drop],rfl⟩
 have hap:a1.p=z0.p:=by
  have e:=congrArg (fun l=>l[p]?) hpv
  unfold pvE at e
  simp only [List.getElem?_map,ha1,hz0,Option.map_some] at e
  exact congrArg Prod.fst (Option.some.inj e)
 have hg:a1.h - z0.h=0∨a1.h - z0.h=1:=by
  have e:=(hho a1 (List.mem_of_getElem? ha1)).1
  rw [hpv,hap] at e
  omega
 refine⟨(upd ks 10 (t3+5)),.int 1 t,.ref x,.ref af,(.int p tg),rr,n4,t4+1,joinL nw r q z,z.d,z.cs,okj,by omega,jj,fun y hy=>?_,fun h₀ B S fpl fpa fpb r' Mf n'' t'' next=>?_⟩
 ·rcases jm y hy with rfl | hy
  ·exact .inr ⟨rfl,rfl⟩
  ·exact .inl (hdd y hy)
 have hL:=lisIn_of S.l S.f
 rw [lw_for w _ _]
 simp only [lw_for w _ _] at next
 refine spec_turn (m1:=⟨[(L,frN w nm277 ks [V0,V1,.int s ts,.ref la,.int vv tw,V5,.ref pl,V7,V8,V9]),(it,rngO (1+1) (3 - (1+1)))],n,t+1⟩) (m2:=⟨[(L,frN w nm277 ks [V0,V1,.int s ts,.ref la,.int vv tw,V5,.ref pl,.int 1 t,V8,V9]),(it,rngO (1+1) (3 - (1+1)))],n,t+2⟩) (m3:=⟨(L,frN w nm277 ks [V0,V1,.int s ts,.ref la,.int vv tw,V5,.ref pl,.int 1 t,.ref x,V9])::(it,rngO (1+1) (3 - (1+1)))::tabC w x dx th l ep hs,n1,t1+1⟩) (m4:=⟨(L,frN w nm277 ks [V0,V1,.int s ts,.ref la,.int vv tw,V5,.ref pl,.int 1 t,.ref x,V9])::(it,rngO (1+1) (3 - (1+1)))::(n1+2,lstO (refsH hs) 0)::tabC w x dx th l ep hs,n1+3,t1+3⟩) (m5:=⟨(L,frN w nm277 ks [V0,V1,.int s ts,.ref la,.int vv tw,V5,.ref pl,.int 1 t,.ref x,V9])::(it,rngO (1+1) (3 - (1+1)))::(n1+2,lstO (refsH hs) 0)::(d,lstO (refsH hs') ep')::(tabC w x dx th l ep hs++hs'.map Hd.cell),n2,t2⟩) (v:=.int 1 t) (a:=.ref (n1+2)) (b:=.ref d) rfl (lw_name w) (lw_if w) ?_ ?_ ?_ ?_ ?_ ?_ (m6:=⟨(L,frN w nm277 (upd ks 10 (t3+5)) [V0,V1,.int s ts,.ref rr,.int vv tw,V5,.ref pl,.int 1 t,.ref x,.ref af,.int p tg])::(rr,lstO (refsL (joinL nw r q z)) 0)::(z.a,z.tuO)::(z.e,z.enO)::(z.d,dcO w z.cs)::(n3,lstO [.int 0 (t3+11),.int 1 (t3+12)] 0)::(af,lstO (refsL nw) ep4)::(liC nw++((it,rngO (1+1) (3 - (1+1)))::(n1+2,lstO (refsH hs) 0)::(d,lstO (refsH hs') ep')::(tabC w x dx th l ep hs++hs'.map Hd.cell))),n4,t4+1⟩) ?_ ?_
 ·have gR:=rnA w n t it ((1:Nat):Int) [.int ((1:Nat):Int) 0,.int ((3 - 1:Nat):Int) 0,.int 1 0] [.int ((1+1:Nat):Int) 0,.int ((3 - (1+1):Nat):Int) 0,.int 1 0] [(L,frN w nm277 ks [V0,V1,.int s ts,.ref la,.int vv tw,V5,.ref pl,V7,V8,V9])]
  refine useT B [] [] (fun z=>?_) (fun z=>?_) (fun h₁ B1 K1 F1=>goodX_t gR B1 facts_nil ⟨?_,trivial⟩)
  ·rw [show rngO 1 (3 - 1)=fldO "range_iterator" [.int ((1:Nat):Int) 0,.int ((3 - 1:Nat):Int) 0,.int 1 0] from rfl]
   simp only [cnt_cons,cnt_tab,cnt_nil,cnt_append,cnt_liC,List.cons_append,List.nil_append];try ac_rfl
  ·rw [show rngO (1+1) (3 - (1+1))=fldO "range_iterator" [.int ((1+1:Nat):Int) 0,.int ((3 - (1+1):Nat):Int) 0,.int 1 0] from rfl]
   simp only [cnt_cons,cnt_tab,cnt_nil,cnt_append,cnt_liC,List.cons_append,List.nil_append];try ac_rfl
  ·exact midH B1 (fun h₂ B2 K2 F2=>rnx0 B2 it n t 3 1 (by decide) (by decide) (by decide)) rfl rfl
 ·have gR:=lwA_1 w n (t+1) L ts tw la pl t ks V0 V1 V5 V7 V8 V9 s vv 1 [(it,rngO (1+1) (3 - (1+1)))]
  exact goodX_t gR B facts_nil trivial
 ·have gR:=lw1_1 w n (t+2) n1 t1 L ts tw la pl x ks V0 V1 V5 (.int 1 t) V8 V9 s vv [(it,rngO (1+1) (3 - (1+1)))] ((it,rngO (1+1) (3 - (1+1)))::tabC w x dx th l ep hs)
  exact goodX_t gR B facts_nil ⟨midT B (fun h₁ B1 K1 F1=>hrun h₁ B1 (hL.keeps K1)) rfl,trivial⟩
 ·have gR:=lw2_1 w n1 (t1+1) (n1+3) (t1+3) L ts tw la pl x dx th l (n1+2) ks V0 V1 V5 (.int 1 t) V9 s vv ((l,lstO (hs.map fun h=>.ref h.a) ep)::(hs.map Hd.cell++[(it,rngO (1+1) (3 - (1+1)))])) ((n1+2,lstO (refsH hs) 0)::(l,lstO (hs.map fun h=>.ref h.a) ep)::(hs.map Hd.cell++[(it,rngO (1+1) (3 - (1+1)))]))
  refine useT B [] [] (fun z=>?_) (fun z=>?_) (fun h₁ B1 K1 F1=>goodX_t gR B1 facts_nil ⟨?_,trivial⟩)
  ·simp only [cnt_cons,cnt_tab,cnt_nil,cnt_append,cnt_liC,List.cons_append,List.nil_append];try ac_rfl
  ·simp only [cnt_cons,cnt_tab,cnt_nil,cnt_append,cnt_liC,List.cons_append,List.nil_append];try ac_rfl
  ·refine use B1 [(L,frN w nm277 ks [V0,V1,.int s ts,.ref la,.int vv tw,V5,.ref pl,.int 1 t,.ref x,V9]),(it,rngO (1+1) (3 - (1+1)))] [] (fun z=>?_) (fun z=>?_) (fun h₂ B2 K2 F2=>items_ok B2 (by exact Nat.le_trans (Nat.add_le_add_right ‹_› _) (by decide)) x dx th l ep n1 (t1+1) hs hz8)
   ·simp only [cnt_cons,cnt_tab,cnt_nil,cnt_append,cnt_liC,List.cons_append,List.nil_append];try ac_rfl
   ·simp only [cnt_cons,cnt_tab,cnt_nil,cnt_append,cnt_liC,List.cons_append,List.nil_append];try ac_rfl
 ·have gR:=lw3_1 w (n1+3) (t1+3) n2 t2 L ts tw la pl x d ks V0 V1 V5 (.int 1 t) V9 s vv ((it,rngO (1+1) (3 - (1+1)))::(n1+2,lstO (refsH hs) 0)::tabC w x dx th l ep hs) ((it,rngO (1+1) (3 - (1+1)))::(n1+2,lstO (refsH hs) 0)::(d,lstO (refsH hs') ep')::(tabC w x dx th l ep hs++hs'.map Hd.cell))
  refine goodX_t gR B facts_nil ⟨?_,trivial⟩
  refine use B ((L,frN w nm277 ks [V0,V1,.int s ts,.ref la,.int vv tw,V5,.ref pl,.int 1 t,.ref x,V9])::(it,rngO (1+1) (3 - (1+1)))::(n1+2,lstO (refsH hs) 0)::tabC w x dx th l ep hs) [] (fun z=>?_) (fun z=>?_) (fun h₁ B1 K1 F1=>hdue h₁ B1 (hL.keeps K1))
  ·simp only [cnt_cons,cnt_tab,cnt_nil,cnt_append,cnt_liC,List.cons_append,List.nil_append];try ac_rfl
  ·simp only [cnt_cons,cnt_tab,cnt_nil,cnt_append,cnt_liC,List.cons_append,List.nil_append];try ac_rfl
 ·refine cmp_of (T:="list") (id:="list.__ne__") (by exact Nat.le_trans ‹_› (by decide)) F.slot_list_ne (fun s D=>⟨_,(D.cell _ (.tail _ (.tail _ (.head _)))).1,rfl⟩) (fun s D=>⟨_,(D.cell _ (.tail _ (.tail _ (.tail _ (.head _))))).1,rfl⟩) (fun e=>by cases e) ?_
  refine mid_ B (fun h₁ B1 K1 F1=>?_)
  exact neH_ev (by exact Nat.le_trans (Nat.add_le_add_right ‹_› _) (by decide)) (n1+2) d 0 ep' n2 t2 hs hs' (tabT xs s) hT hD (F1 _ (.tail _ (.tail _ (.head _)))) (F1 _ (.tail _ (.tail _ (.tail _ (.head _))))) (F1.sub fun p hp=>.tail _ (.tail _ (.tail _ (.tail _ (List.mem_append_left _ (.tail _ (.tail _ (.tail _ hp)))))))) (F1.sub fun p hp=>.tail _ (.tail _ (.tail _ (.tail _ (List.mem_append_right _ hp)))))
 ·have fza:=S.f _ (liC_mem (List.mem_of_getElem? hz0)).1
  have fze:=S.f _ (liC_mem (List.mem_of_getElem? hz0)).2
  have hsx:(refsL xs)[p]?=some (.ref z0.a):=by unfold refsL;rw [List.getElem?_map,hz0];rfl
  have hsn:(refsL nw)[p]?=some (.ref a1.a):=by unfold refsL;rw [List.getElem?_map,ha1];rfl
  have hlx:liC nw=liC XA++(a1.a,a1.tuO)::(a1.e,a1.enO)::liC XB:=by rw [hsp,liC_app];rfl
  have hp4:p < 1000:=by exact ox8 ‹_› (Nat.le_trans ‹_› (by decide))
  have gR:=lw4_1 w n2 t2 n3 t3 n4 t4 L ts tw la pl x t af ep4 pa pb tg tj rr te tf' a1.a a1.e z0.a z0.e a1.tl a1.th z0.tl z0.th le ks V0 V1 V5 V9 (.int a1.p a1.tp) (.int a1.v a1.tv) (.int a1.o a1.to) (.int a1.c a1.tc) (.ref a1.d) (.int z0.p z0.tp) (.int z0.v z0.tv) (.int z0.o z0.to) (.int z0.c z0.tc) (.ref z0.d) s vv p p2 r q a1.h z0.h (ltr a1.p) (ltr z0.p) (refsL xs) (refsL nw) ((it,rngO (1+1) (3 - (1+1)))::(n1+2,lstO (refsH hs) 0)::(d,lstO (refsH hs') ep')::(tabC w x dx th l ep hs++hs'.map Hd.cell)) (liC XA++(liC XB++((it,rngO (1+1) (3 - (1+1)))::(n1+2,lstO (refsH hs) 0)::(d,lstO (refsH hs') ep')::(tabC w x dx th l ep hs++hs'.map Hd.cell)))) ((rr,lstO (refsL (joinL nw r q z)) 0)::(z.a,z.tuO)::(z.e,z.enO)::(z.d,dcO w z.cs)::(n3,lstO [.int 0 (t3+11),.int 1 (t3+12)] 0)::(af,lstO (refsL nw) ep4)::(liC nw++((it,rngO (1+1) (3 - (1+1)))::(n1+2,lstO (refsH hs) 0)::(d,lstO (refsH hs') ep')::(tabC w x dx th l ep hs++hs'.map Hd.cell))))
  refine goodX_t gR B ((((((facts_nil.cons S.l).cons fze).cons fza).cons fpb).cons fpa).cons fpl) ⟨?_,fun m=>gt_ev _ _ _ _ (by decide) m,fun m=>subi_ev _ _ _ _ m,?_,?_,?_,fun m=>subi_ev _ _ _ _ m,?_,fun m=>lt_ev _ _ _ _ (by decide) m,?_,?_,?_,trivial⟩
  ·refine use B ((L,frN w nm277 ks [V0,V1,.int s ts,.ref la,.int vv tw,V5,.ref pl,.int 1 t,.ref x,V9])::(it,rngO (1+1) (3 - (1+1)))::(n1+2,lstO (refsH hs) 0)::(d,lstO (refsH hs') ep')::hs'.map Hd.cell) [] (fun z=>?_) (fun z=>?_) (fun h₁ B1 K1 F1=>hsea h₁ B1 (hL.keeps K1))
   ·simp only [cnt_cons,cnt_tab,cnt_nil,cnt_append,cnt_liC,List.cons_append,List.nil_append];try ac_rfl
   ·rw [hlx,show a1.tuO=tupO [.int a1.p a1.tp,.str (ltr a1.p) a1.tl,.ref a1.e] from rfl,show a1.enO=tupO [.int a1.v a1.tv,.int a1.h a1.th,.int a1.o a1.to,.int a1.c a1.tc,.ref a1.d] from rfl]
    simp only [cnt_cons,cnt_tab,cnt_nil,cnt_append,cnt_liC,List.cons_append,List.nil_append];try ac_rfl
  ·exact mid_ B (fun h₁ B1 K1 F1=>git_ev B1 pl 0 n3 (t3+4) 0 (t3+3) _ _ (by decide) rfl (K1 _ _ fpl))
  ·exact mid_ B (fun h₁ B1 K1 F1=>git_ev B1 af ep4 n3 (t3+6) p tg _ _ hp4 hsn (F1 _ (.head _)))
  ·exact mid_ B (fun h₁ B1 K1 F1=>git_ev B1 la le n3 (t3+8) p tg _ _ hp4 hsx (K1 _ _ S.l))
  ·have hb:([((0:Int),t3+11),((1:Int),t3+12)].any fun c=>c.1 == a1.h - z0.h)=true:=by
    rcases hg with h | h<;>rw [h]<;>rfl
   rw [← hb]
   exact mid_ B (fun h₁ B1 K1 F1=>hasI_ev n3 0 (n3+1) (t3+13) (t3+10) [((0:Int),t3+11),((1:Int),t3+12)] (a1.h - z0.h) (F1 _ (.head _)))
  ·exact mid_ B (fun h₁ B1 K1 F1=>git_ev B1 pl 0 (n3+1) (t3+15) 1 t _ _ (by decide) rfl (K1 _ _ fpl))
  ·exact mid_ B (fun h₁ B1 K1 F1=>git_ev B1 pl 0 (n3+1) (t3+16) 1 t _ _ (by decide) rfl (K1 _ _ fpl))
  ·refine use B ((n3,lstO [.int 0 (t3+11),.int 1 (t3+12)] 0)::(af,lstO (refsL nw) ep4)::(a1.a,a1.tuO)::(a1.e,a1.enO)::(L,frN w nm277 (upd ks 10 (t3+5)) [V0,V1,.int s ts,.ref af,.int vv tw,V5,.ref pl,.int 1 t,.ref x,.ref af,.int p tg])::(liC XA++(liC XB++((it,rngO (1+1) (3 - (1+1)))::(n1+2,lstO (refsH hs) 0)::(d,lstO (refsH hs') ep')::(tabC w x dx th l ep hs++hs'.map Hd.cell))))) [] (fun z=>?_) (fun z=>?_) (fun h₁ B1 K1 F1=>hjoi h₁ B1 (Facts.cons (F1 _ (.tail _ (.head _))) (fun c hc=>?_)) ?_ ?_)
   ·rw [show a1.tuO=tupO [.int a1.p a1.tp,.str (ltr a1.p) a1.tl,.ref a1.e] from rfl,show a1.enO=tupO [.int a1.v a1.tv,.int a1.h a1.th,.int a1.o a1.to,.int a1.c a1.tc,.ref a1.d] from rfl]
    simp only [cnt_cons,cnt_tab,cnt_nil,cnt_append,cnt_liC,List.cons_append,List.nil_append];try ac_rfl
   ·rw [hlx]
    simp only [cnt_cons,cnt_tab,cnt_nil,cnt_append,cnt_liC,List.cons_append,List.nil_append];try ac_rfl
   ·rw [hlx] at hc
    rcases List.mem_append.mp hc with hc | hc
    ·exact F1 _ (.tail _ (.tail _ (.tail _ (.tail _ (.tail _ (List.mem_append_left _ hc))))))
    rcases List.mem_cons.mp hc with rfl | hc
    ·exact F1 _ (.tail _ (.tail _ (.head _)))
    rcases List.mem_cons.mp hc with rfl | hc
    ·exact F1 _ (.tail _ (.tail _ (.tail _ (.head _))))
    ·exact F1 _ (.tail _ (.tail _ (.tail _ (.tail _ (.tail _ (List.mem_append_right _ (List.mem_append_left _ hc)))))))
   ·obtain⟨x0,hx0,e1,e2⟩:=hdd x1 (List.mem_of_getElem? hx1)
    rw [← e1,← e2];exact K1 _ _ (S.d x0 hx0)
   ·obtain⟨x0,hx0,e1,e2⟩:=hdd y1 (List.mem_of_getElem? hy1)
    rw [← e1,← e2];exact K1 _ _ (S.d x0 hx0)
 ·refine use B ((z.d,dcO w z.cs)::(rr,lstO (refsL (joinL nw r q z)) 0)::(z.a,z.tuO)::(z.e,z.enO)::(liC nw++((af,lstO (refsL nw) ep4)::(n3,lstO [.int 0 (t3+11),.int 1 (t3+12)] 0)::(n1+2,lstO (refsH hs) 0)::(d,lstO (refsH hs') ep')::(tabC w x dx th l ep hs++hs'.map Hd.cell)))) ((rr,lstO (refsL (joinL nw r q z)) 0)::(z.a,z.tuO)::(z.e,z.enO)::(liC nw++((af,lstO (refsL nw) ep4)::(n3,lstO [.int 0 (t3+11),.int 1 (t3+12)] 0)::(n1+2,lstO (refsH hs) 0)::(d,lstO (refsH hs') ep')::(tabC w x dx th l ep hs++hs'.map Hd.cell)))) (fun z=>?_) (fun z=>?_) (fun h₁ B1 K1 F1=>next h₁ B1 K1 ⟨F1 _ (.tail _ (.head _)),facts_li fun y hy=>?_,fun y hy=>?_⟩)
  ·simp only [cnt_cons,cnt_tab,cnt_nil,cnt_append,cnt_liC,List.cons_append,List.nil_append];try ac_rfl
  ·simp only [cnt_cons,cnt_tab,cnt_nil,cnt_append,cnt_liC,List.cons_append,List.nil_append];try ac_rfl
  ·rcases jm y hy with rfl | hy
   ·exact⟨F1 _ (.tail _ (.tail _ (.head _))),F1 _ (.tail _ (.tail _ (.tail _ (.head _))))⟩
   ·exact⟨F1 _ (.tail _ (.tail _ (.tail _ (.tail _ (List.mem_append_left _ (liC_mem hy).1))))),F1 _ (.tail _ (.tail _ (.tail _ (.tail _ (List.mem_append_left _ (liC_mem hy).2)))))⟩
  ·rcases jm y hy with rfl | hy
   ·exact F1 _ (.head _)
   ·obtain⟨x0,hx0,e1,e2⟩:=hdd y hy
    rw [← e1,← e2];exact K1 _ _ (S.d x0 hx0)
end
section
variable {w:World} {os:OsState}
theorem turn_2 {k:Nat} (hk:k≤30) (L it la le pl ts tw n t:Nat) (ks:Nat→Nat) (V0 V1 V5 V7 V8 V9 V10:Value) (s:Nat) (s3:3≤s) (s6:s≤6) (vv:Nat) (hvv:vv≤1000) (C:List (Nat×Nat)) (hC:C.map (·.1)=[0,1,2,3]) (xs:List Lx) (ok:LOk vv C (xs.map Lx.en)) (pa pb tg tj:Nat) (p p2:Nat) (hj:Joined s p xs) :
  ∃(ks':Nat→Nat) (V7' V8' V9' V10':Value) (rr ep' n' t':Nat) (xs':List Lx),LOk vv C (xs'.map Lx.en)∧xs'.length=xs.length∧(∀ y∈xs',y.h=(seats (pvE (xs'.map Lx.en)) s y.p:Int)∧y.o=(y.v:Int)*(s:Int) - (seats (pvE (xs'.map Lx.en)) s y.p:Int)*(vv:Int))∧(∀ y∈xs',∃ x∈xs,x.d=y.d∧x.cs=y.cs)∧∀(h₀:Heap),Base w h₀→Sees w h₀ la le xs→h₀.get? pl=some (lstO [.ref pa,.ref pb] 0)→h₀.get? pb=some (tupO [.int p tg,.int p2 tj]) →
   Spec w h₀ os k (loopC (LW w) (.ref it) (envAt w 277 L)) ⟨[(L,frN w nm277 ks [V0,V1,.int s ts,.ref la,.int vv tw,V5,.ref pl,V7,V8,V9,V10]),(it,rngO 2 (3 - 2))],n,t⟩ (.ok .next) ⟨(L,frN w nm277 ks' [V0,V1,.int s ts,.ref rr,.int vv tw,V5,.ref pl,V7',V8',V9',V10'])::(rr,lstO (refsL xs') ep')::liC xs',n',t'⟩:=by
 have h2:2≤xs.length:=by have:=ok.two;rwa [List.length_map] at this
 have h4:xs.length≤4:=by have:=ok.four;rwa [List.length_map] at this
 have l2:2≤(xs.map Lx.li).length:=by rw [List.length_map];exact h2
 have l4:(xs.map Lx.li).length≤4:=by rw [List.length_map];exact h4
 have hup:(xs.map Lx.li).Pairwise (fun a b=>a.p < b.p):=by
  have:=ok.up
  rw [List.map_map] at this
  exact List.pairwise_map.mpr (List.pairwise_map.mp this)
 have hlt:∀ y∈xs.map Lx.li,y.p < 4:=fun y hy=>by
  obtain⟨x,hx,rfl⟩:=List.mem_map.mp hy
  exact ok.lt x.en (List.mem_map_of_mem hx)
 have hge:∀ y∈xs.map Lx.li,1≤y.v:=fun y hy=>by
  obtain⟨x,hx,rfl⟩:=List.mem_map.mp hy
  exact ok.ge x.en (List.mem_map_of_mem hx)
 obtain⟨x,dx,th,l,ep,hs,n1,t1,hT,hrun⟩:=run_ok (w:=w) (os:=os) (k:=k+21) (by exact Nat.le_trans (Nat.add_le_add_right ‹_› _) (by decide)) la le ts n (t+2) (xs.map Lx.li) l2 l4 hup hlt s s3 s6
 obtain⟨d,ep',hs',n2,t2,wp,hW,hD,hdue⟩:=due_ok (w:=w) (os:=os) (k:=k+21) (by exact Nat.le_trans (Nat.add_le_add_right ‹_› _) (by decide)) la le ts (n1+3) (t1+3) (xs.map Lx.li) l2 l4 hlt hge s s3 s6
 rw [pl_li] at hT hW
 rw [p_li] at hT hD
 rw [← law_table ok.pl s6 hW] at hD
 change TabIs hs (tabT xs s) at hT
 change TabIs hs' (tabT xs s) at hD
 have hz8:hs.length≤8:=by
  have e:=congrArg List.length (show hs.map hdF=(tabT xs s).map ptF from hT)
  rw [List.length_map,List.length_map] at e
  have:=(tabOk_of ok s6).four
  exact Nat.le_trans (Nat.le_of_eq ‹_›) (Nat.le_trans ‹_› (by decide))
 obtain⟨af,ep4,n3,t3,nw,hnw,hsea⟩:=sea_ok (w:=w) (os:=os) (k:=k+21) (by exact Nat.le_trans (Nat.add_le_add_right ‹_› _) (by decide)) la le x dx th l ep ts tw n2 t2 s s6 (vv:Int) (by exact oxi ‹_›) hs (tabT xs s) hT xs (tabOk_of ok s6) h2 (by exact Nat.le_trans ‹_› (by decide))
 obtain⟨okn,hlen,hpv,hho,hdd⟩:=seat_facts ok s6 hnw
 obtain⟨z0,hz0,hzh⟩:=hj
 obtain⟨hpx,_⟩:=List.getElem?_eq_some_iff.mp hz0
 obtain⟨a1,ha1⟩:∃ a1,nw[p]?=some a1:=⟨_,List.getElem?_eq_getElem (by exact Nat.le_trans ‹_› (Nat.le_of_eq (Eq.symm ‹_›)))⟩
 obtain⟨XA,XB,hsp,hXA⟩:∃ XA XB,nw=XA++a1::XB∧XA=nw.take p:=⟨nw.take p,nw.drop (p+1),by
  obtain⟨hp',e⟩:=List.getElem?_eq_some_iff.mp ha1
  rw [← e,List.getElem_cons_drop,List.take_append_drop],rfl⟩
 have hap:a1.p=z0.p:=by
  have e:=congrArg (fun l=>l[p]?) hpv
  unfold pvE at e
  simp only [List.getElem?_map,ha1,hz0,Option.map_some] at e
  exact congrArg Prod.fst (Option.some.inj e)
 have hg:a1.h - z0.h=0∨a1.h - z0.h=1:=by
  have e:=(hho a1 (List.mem_of_getElem? ha1)).1
  rw [hpv,hap] at e
  omega
 refine⟨ks,.int 2 t,.ref x,.ref af,.int p tg,af,ep4,n3+3,t3+15,nw,okn,hlen,hho,hdd,fun h₀ B S fpl fpb=>?_⟩
 have hL:=lisIn_of S.l S.f
 rw [lw_for w _ _]
 refine spec_turn (m1:=⟨[(L,frN w nm277 ks [V0,V1,.int s ts,.ref la,.int vv tw,V5,.ref pl,V7,V8,V9,V10]),(it,rngO (2+1) (3 - (2+1)))],n,t+1⟩) (m2:=⟨[(L,frN w nm277 ks [V0,V1,.int s ts,.ref la,.int vv tw,V5,.ref pl,.int 2 t,V8,V9,V10]),(it,rngO (2+1) (3 - (2+1)))],n,t+2⟩) (m3:=⟨(L,frN w nm277 ks [V0,V1,.int s ts,.ref la,.int vv tw,V5,.ref pl,.int 2 t,.ref x,V9,V10])::(it,rngO (2+1) (3 - (2+1)))::tabC w x dx th l ep hs,n1,t1+1⟩) (m4:=⟨(L,frN w nm277 ks [V0,V1,.int s ts,.ref la,.int vv tw,V5,.ref pl,.int 2 t,.ref x,V9,V10])::(it,rngO (2+1) (3 - (2+1)))::(n1+2,lstO (refsH hs) 0)::tabC w x dx th l ep hs,n1+3,t1+3⟩) (m5:=⟨(L,frN w nm277 ks [V0,V1,.int s ts,.ref la,.int vv tw,V5,.ref pl,.int 2 t,.ref x,V9,V10])::(it,rngO (2+1) (3 - (2+1)))::(n1+2,lstO (refsH hs) 0)::(d,lstO (refsH hs') ep')::(tabC w x dx th l ep hs++hs'.map Hd.cell),n2,t2⟩) (v:=.int 2 t) (a:=.ref (n1+2)) (b:=.ref d) rfl (lw_name w) (lw_if w) ?_ ?_ ?_ ?_ ?_ ?_ (m6:=⟨(af,lstO (refsL nw) ep4)::(a1.a,a1.tuO)::(a1.e,a1.enO)::(L,frN w nm277 ks [V0,V1,.int s ts,.ref af,.int vv tw,V5,.ref pl,.int 2 t,.ref x,.ref af,.int p tg])::(liC XA++(liC XB++((it,rngO (2+1) (3 - (2+1)))::(n1+2,lstO (refsH hs) 0)::(d,lstO (refsH hs') ep')::(tabC w x dx th l ep hs++hs'.map Hd.cell)))),n3+1,t3+15⟩) ?_ ?_
 ·have gR:=rnA w n t it ((2:Nat):Int) [.int ((2:Nat):Int) 0,.int ((3 - 2:Nat):Int) 0,.int 1 0] [.int ((2+1:Nat):Int) 0,.int ((3 - (2+1):Nat):Int) 0,.int 1 0] [(L,frN w nm277 ks [V0,V1,.int s ts,.ref la,.int vv tw,V5,.ref pl,V7,V8,V9,V10])]
  refine useT B [] [] (fun z=>?_) (fun z=>?_) (fun h₁ B1 K1 F1=>goodX_t gR B1 facts_nil ⟨?_,trivial⟩)
  ·rw [show rngO 2 (3 - 2)=fldO "range_iterator" [.int ((2:Nat):Int) 0,.int ((3 - 2:Nat):Int) 0,.int 1 0] from rfl]
   simp only [cnt_cons,cnt_tab,cnt_nil,cnt_append,cnt_liC,List.cons_append,List.nil_append];try ac_rfl
  ·rw [show rngO (2+1) (3 - (2+1))=fldO "range_iterator" [.int ((2+1:Nat):Int) 0,.int ((3 - (2+1):Nat):Int) 0,.int 1 0] from rfl]
   simp only [cnt_cons,cnt_tab,cnt_nil,cnt_append,cnt_liC,List.cons_append,List.nil_append];try ac_rfl
  ·exact midH B1 (fun h₂ B2 K2 F2=>rnx0 B2 it n t 3 2 (by decide) (by decide) (by decide)) rfl rfl
 ·have gR:=lwA_2 w n (t+1) L ts tw la pl t ks V0 V1 V5 V7 V8 V9 V10 s vv 2 [(it,rngO (2+1) (3 - (2+1)))]
  exact goodX_t gR B facts_nil trivial
 ·have gR:=lw1_2 w n (t+2) n1 t1 L ts tw la pl x ks V0 V1 V5 (.int 2 t) V8 V9 V10 s vv [(it,rngO (2+1) (3 - (2+1)))] ((it,rngO (2+1) (3 - (2+1)))::tabC w x dx th l ep hs)
  exact goodX_t gR B facts_nil ⟨midT B (fun h₁ B1 K1 F1=>hrun h₁ B1 (hL.keeps K1)) rfl,trivial⟩
 ·have gR:=lw2_2 w n1 (t1+1) (n1+3) (t1+3) L ts tw la pl x dx th l (n1+2) ks V0 V1 V5 (.int 2 t) V9 V10 s vv ((l,lstO (hs.map fun h=>.ref h.a) ep)::(hs.map Hd.cell++[(it,rngO (2+1) (3 - (2+1)))])) ((n1+2,lstO (refsH hs) 0)::(l,lstO (hs.map fun h=>.ref h.a) ep)::(hs.map Hd.cell++[(it,rngO (2+1) (3 - (2+1)))]))
  refine useT B [] [] (fun z=>?_) (fun z=>?_) (fun h₁ B1 K1 F1=>goodX_t gR B1 facts_nil ⟨?_,trivial⟩)
  ·simp only [cnt_cons,cnt_tab,cnt_nil,cnt_append,cnt_liC,List.cons_append,List.nil_append];try ac_rfl
  ·simp only [cnt_cons,cnt_tab,cnt_nil,cnt_append,cnt_liC,List.cons_append,List.nil_append];try ac_rfl
  ·refine use B1 [(L,frN w nm277 ks [V0,V1,.int s ts,.ref la,.int vv tw,V5,.ref pl,.int 2 t,.ref x,V9,V10]),(it,rngO (2+1) (3 - (2+1)))] [] (fun z=>?_) (fun z=>?_) (fun h₂ B2 K2 F2=>items_ok B2 (by exact Nat.le_trans (Nat.add_le_add_right ‹_› _) (by decide)) x dx th l ep n1 (t1+1) hs hz8)
   ·simp only [cnt_cons,cnt_tab,cnt_nil,cnt_append,cnt_liC,List.cons_append,List.nil_append];try ac_rfl
   ·simp only [cnt_cons,cnt_tab,cnt_nil,cnt_append,cnt_liC,List.cons_append,List.nil_append];try ac_rfl
 ·have gR:=lw3_2 w (n1+3) (t1+3) n2 t2 L ts tw la pl x d ks V0 V1 V5 (.int 2 t) V9 V10 s vv ((it,rngO (2+1) (3 - (2+1)))::(n1+2,lstO (refsH hs) 0)::tabC w x dx th l ep hs) ((it,rngO (2+1) (3 - (2+1)))::(n1+2,lstO (refsH hs) 0)::(d,lstO (refsH hs') ep')::(tabC w x dx th l ep hs++hs'.map Hd.cell))
  refine goodX_t gR B facts_nil ⟨?_,trivial⟩
  refine use B ((L,frN w nm277 ks [V0,V1,.int s ts,.ref la,.int vv tw,V5,.ref pl,.int 2 t,.ref x,V9,V10])::(it,rngO (2+1) (3 - (2+1)))::(n1+2,lstO (refsH hs) 0)::tabC w x dx th l ep hs) [] (fun z=>?_) (fun z=>?_) (fun h₁ B1 K1 F1=>hdue h₁ B1 (hL.keeps K1))
  ·simp only [cnt_cons,cnt_tab,cnt_nil,cnt_append,cnt_liC,List.cons_append,List.nil_append];try ac_rfl
  ·simp only [cnt_cons,cnt_tab,cnt_nil,cnt_append,cnt_liC,List.cons_append,List.nil_append];try ac_rfl
 ·refine cmp_of (T:="list") (id:="list.__ne__") (by exact Nat.le_trans ‹_› (by decide)) F.slot_list_ne (fun s D=>⟨_,(D.cell _ (.tail _ (.tail _ (.head _)))).1,rfl⟩) (fun s D=>⟨_,(D.cell _ (.tail _ (.tail _ (.tail _ (.head _))))).1,rfl⟩) (fun e=>by cases e) ?_
  refine mid_ B (fun h₁ B1 K1 F1=>?_)
  exact neH_ev (by exact Nat.le_trans (Nat.add_le_add_right ‹_› _) (by decide)) (n1+2) d 0 ep' n2 t2 hs hs' (tabT xs s) hT hD (F1 _ (.tail _ (.tail _ (.head _)))) (F1 _ (.tail _ (.tail _ (.tail _ (.head _))))) (F1.sub fun p hp=>.tail _ (.tail _ (.tail _ (.tail _ (List.mem_append_left _ (.tail _ (.tail _ (.tail _ hp)))))))) (F1.sub fun p hp=>.tail _ (.tail _ (.tail _ (.tail _ (List.mem_append_right _ hp)))))
 ·have fza:=S.f _ (liC_mem (List.mem_of_getElem? hz0)).1
  have fze:=S.f _ (liC_mem (List.mem_of_getElem? hz0)).2
  have hsx:(refsL xs)[p]?=some (.ref z0.a):=by unfold refsL;rw [List.getElem?_map,hz0];rfl
  have hsn:(refsL nw)[p]?=some (.ref a1.a):=by unfold refsL;rw [List.getElem?_map,ha1];rfl
  have hlx:liC nw=liC XA++(a1.a,a1.tuO)::(a1.e,a1.enO)::liC XB:=by rw [hsp,liC_app];rfl
  have hp4:p < 1000:=by exact ox8 ‹_› (Nat.le_trans ‹_› (by decide))
  have gR:=lw4_2 w n2 t2 n3 t3 L ts tw la pl x t af ep4 pa pb tg tj a1.a a1.e z0.a z0.e a1.tl a1.th z0.tl z0.th le ks V0 V1 V5 V9 V10 (.int a1.p a1.tp) (.int a1.v a1.tv) (.int a1.o a1.to) (.int a1.c a1.tc) (.ref a1.d) (.int z0.p z0.tp) (.int z0.v z0.tv) (.int z0.o z0.to) (.int z0.c z0.tc) (.ref z0.d) s vv p p2 a1.h z0.h (ltr a1.p) (ltr z0.p) (refsL xs) (refsL nw) ((it,rngO (2+1) (3 - (2+1)))::(n1+2,lstO (refsH hs) 0)::(d,lstO (refsH hs') ep')::(tabC w x dx th l ep hs++hs'.map Hd.cell)) (liC XA++(liC XB++((it,rngO (2+1) (3 - (2+1)))::(n1+2,lstO (refsH hs) 0)::(d,lstO (refsH hs') ep')::(tabC w x dx th l ep hs++hs'.map Hd.cell))))
  refine goodX_t gR B (((((facts_nil.cons S.l).cons fze).cons fza).cons fpb).cons fpl) ⟨?_,fun m=>gt_ev _ _ _ _ (by decide) m,fun m=>subi_ev _ _ _ _ m,?_,?_,?_,fun m=>subi_ev _ _ _ _ m,?_,fun m=>lt_ev _ _ _ _ (by decide) m,trivial⟩
  ·refine use B ((L,frN w nm277 ks [V0,V1,.int s ts,.ref la,.int vv tw,V5,.ref pl,.int 2 t,.ref x,V9,V10])::(it,rngO (2+1) (3 - (2+1)))::(n1+2,lstO (refsH hs) 0)::(d,lstO (refsH hs') ep')::hs'.map Hd.cell) [] (fun z=>?_) (fun z=>?_) (fun h₁ B1 K1 F1=>hsea h₁ B1 (hL.keeps K1))
   ·simp only [cnt_cons,cnt_tab,cnt_nil,cnt_append,cnt_liC,List.cons_append,List.nil_append];try ac_rfl
   ·rw [hlx,show a1.tuO=tupO [.int a1.p a1.tp,.str (ltr a1.p) a1.tl,.ref a1.e] from rfl,show a1.enO=tupO [.int a1.v a1.tv,.int a1.h a1.th,.int a1.o a1.to,.int a1.c a1.tc,.ref a1.d] from rfl]
    simp only [cnt_cons,cnt_tab,cnt_nil,cnt_append,cnt_liC,List.cons_append,List.nil_append];try ac_rfl
  ·exact mid_ B (fun h₁ B1 K1 F1=>git_ev B1 pl 0 n3 (t3+4) 1 (t3+3) _ _ (by decide) rfl (K1 _ _ fpl))
  ·exact mid_ B (fun h₁ B1 K1 F1=>git_ev B1 af ep4 n3 (t3+6) p tg _ _ hp4 hsn (F1 _ (.head _)))
  ·exact mid_ B (fun h₁ B1 K1 F1=>git_ev B1 la le n3 (t3+8) p tg _ _ hp4 hsx (K1 _ _ S.l))
  ·have hb:([((0:Int),t3+11),((1:Int),t3+12)].any fun c=>c.1 == a1.h - z0.h)=true:=by
    rcases hg with h | h<;>rw [h]<;>rfl
   rw [← hb]
   exact mid_ B (fun h₁ B1 K1 F1=>hasI_ev n3 0 (n3+1) (t3+13) (t3+10) [((0:Int),t3+11),((1:Int),t3+12)] (a1.h - z0.h) (F1 _ (.head _)))
 ·have hlx:liC nw=liC XA++(a1.a,a1.tuO)::(a1.e,a1.enO)::liC XB:=by rw [hsp,liC_app];rfl
  have gR:=lw_e w (n3+1) (t3+15) (n3+3) (t3+15) L it (n3+2) (.ref (n3+1)) [.int ((3:Nat):Int) 0,.int ((3 - 3:Nat):Int) 0,.int 1 0] [.int ((3:Nat):Int) 0,.int ((3 - 3:Nat):Int) 0,.int 1 0] (frN w nm277 ks [V0,V1,.int s ts,.ref af,.int vv tw,V5,.ref pl,.int 2 t,.ref x,.ref af,.int p tg]) ((af,lstO (refsL nw) ep4)::(liC nw++((n1+2,lstO (refsH hs) 0)::(d,lstO (refsH hs') ep')::(tabC w x dx th l ep hs++hs'.map Hd.cell))))
  rw [lw_for w _ _] at gR
  refine use B [] ((n1+2,lstO (refsH hs) 0)::(d,lstO (refsH hs') ep')::(tabC w x dx th l ep hs++hs'.map Hd.cell)) (fun z=>?_) (fun z=>?_) (fun h₁ B1 K1 F1=>good_h gR B1 facts_nil ⟨?_,trivial⟩)
  ·rw [hlx,show rngO (2+1) (3 - (2+1))=fldO "range_iterator" [.int ((3:Nat):Int) 0,.int ((3 - 3:Nat):Int) 0,.int 1 0] from rfl]
   simp only [cnt_cons,cnt_tab,cnt_nil,cnt_append,cnt_liC,List.cons_append,List.nil_append];try ac_rfl
  ·simp only [cnt_cons,cnt_tab,cnt_nil,cnt_append,cnt_liC,List.cons_append,List.nil_append];try ac_rfl
  ·exact midH B1 (fun h₂ B2 K2 F2=>rne0 B2 it (n3+1) (t3+15) 3 (by decide) (by decide)) rfl rfl
end
theorem numP_len (s:List Int):(numP s).length=7:=by
 unfold numP
 rw [List.length_append,List.length_map,List.length_drop,List.length_take]
 show _+(7 - _)=7
 omega
theorem seven {α:Type} {l:List α} (h:l.length=7):∃ a b c d e f g,l=[a,b,c,d,e,f,g]:=by
 match l,h with
 | [a,b,c,d,e,f,g],_=>exact⟨a,b,c,d,e,f,g,rfl⟩
noncomputable def clL (xs:List Lx):List De:=xs.map fun y=>⟨y.p,y.tl,y.v,y.tv⟩
noncomputable def C4 (z0 z1 z2 z3:Int):List (Nat×Nat):=[(0,vOf z0),(1,vOf z1),(2,vOf z2),(3,vOf z3)]
noncomputable def vv4 (z0 z1 z2 z3:Int):Nat:=vOf z0+(vOf z1+(vOf z2+vOf z3))
theorem lok4 (z0 z1 z2 z3:Int) (n t:Nat):LOk (vv4 z0 z1 z2 z3) (C4 z0 z1 z2 z3) ((lists4 z0 z1 z2 z3 n t).map Lx.en):=by
 have h0:=vOf_ge z0
 have h1:=vOf_ge z1
 have h2:=vOf_ge z2
 have h3:=vOf_ge z3
 refine⟨show 2≤4 by decide,show 4≤4 by decide,show ([0,1,2,3]:List Nat).Pairwise (·< ·) by decide,?_,?_,?_,List.Perm.refl _,rfl,rfl⟩
 ·intro y hy
  simp only [lists4,mkL,List.map_cons,List.map_nil,Lx.en,List.mem_cons,List.not_mem_nil,or_false] at hy
  rcases hy with rfl | rfl | rfl | rfl<;>simp
 ·intro y hy
  simp only [lists4,mkL,List.map_cons,List.map_nil,Lx.en,List.mem_cons,List.not_mem_nil,or_false] at hy
  rcases hy with rfl | rfl | rfl | rfl<;>simp<;>omega
 ·intro y hy
  simp only [lists4,mkL,List.map_cons,List.map_nil,Lx.en,List.mem_cons,List.not_mem_nil,or_false] at hy
  rcases hy with rfl | rfl | rfl | rfl<;>simp
theorem vv4_le (z0 z1 z2 z3:Int):vv4 z0 z1 z2 z3≤1000:=by
 have h0:=vOf_ge z0
 have h1:=vOf_ge z1
 have h2:=vOf_ge z2
 have h3:=vOf_ge z3
 unfold vv4;omega
noncomputable def sOf (z:Int):Nat:=(3+z.fmod 4).toNat
theorem sOf_eq (z:Int):(3+z.fmod 4)=((sOf z:Nat):Int)∧3≤sOf z∧sOf z≤6:=by
 unfold sOf
 rw [Int.fmod_eq_emod_of_nonneg _ (by decide)]
 omega
section
variable {w:World} {os:OsState}
theorem p_ok {k:Nat} (hk:k≤9) (sc se L t:Nat) (scr:List (Int×Nat)) (hz:scr.length≤90) :
  ∃(nu li cd ts tw n' t':Nat) (ks:Nat→Nat) (z0 z1 z2 z3 z4 z5 z6:Int) (u5 u6 n0 t0:Nat) (nums:List (Int×Nat)),nums[5]?=some (z5,u5)∧nums[6]?=some (z6,u6)∧∀(h₀:Heap),Base w h₀→h₀.get? sc=some (lstO (intsL scr) se) →
   TSpec w h₀ os k (zExecs ((bodyOf (fdAt w 277)).take 5) (envAt w 277 L)) ⟨[(L,frN w nm277 (tf t) [.ref sc])],L+1,t+1⟩ .next
    ⟨(cd,dcO w (clL (lists4 z0 z1 z2 z3 n0 t0)))::(li,lstO (refsL (lists4 z0 z1 z2 z3 n0 t0)) 4)::(nu,lstO (intsL nums) 0)::(L,frN w nm277 ks [.ref sc,.ref nu,.int (sOf z4) ts,.ref li,.int (vv4 z0 z1 z2 z3) tw,.ref cd])::(liC (lists4 z0 z1 z2 z3 n0 t0)++dcC w (lists4 z0 z1 z2 z3 n0 t0)),n',t'⟩:=by
 obtain⟨nu,s1,t1,nums,hn,hnum⟩:=num_ok (w:=w) (os:=os) (k:=k+21) (by exact Nat.le_trans (Nat.add_le_add_right ‹_› _) (by decide)) sc se (L+1) (t+1) scr hz
 have hl7:nums.length=7:=by have:=congrArg List.length hn;rw [List.length_map,numP_len] at this;exact this
 obtain⟨⟨z0,u0⟩,⟨z1,u1⟩,⟨z2,u2⟩,⟨z3,u3⟩,⟨z4,u4⟩,⟨z5,u5⟩,⟨z6,u6⟩,rfl⟩:=seven hl7
 obtain⟨s2,t2,li,n0,t0,hlis⟩:=lis_ok (w:=w) (os:=os) (k:=k+21) (by exact Nat.le_trans (Nat.add_le_add_right ‹_› _) (by decide)) nu 0 s1 (t1+7) (intsL [(z0,u0),(z1,u1),(z2,u2),(z3,u3),(z4,u4),(z5,u5),(z6,u6)]) z0 z1 z2 z3 u0 u1 u2 u3 rfl rfl rfl rfl
 obtain⟨e1,s3,s6⟩:=sOf_eq z4
 obtain⟨k0,k1,k2,V0,V1,V2,n3,t3,hvo⟩:=vo_ok (w:=w) (os:=os) (k:=k+21) (by exact Nat.le_trans (Nat.add_le_add_right ‹_› _) (by decide)) L s2 (s2+1) (s2+2) li 4 (s2+3) (t2+1) (mkL 0 z0 n0 t0) (mkL 1 z1 (n0+3) (t0+15)) (mkL 2 z2 (n0+6) (t0+30)) (mkL 3 z3 (n0+9) (t0+45))
 obtain⟨j0,j1,j2,W0,W1,W2,n5,t5,hca⟩:=ca_ok (w:=w) (os:=os) (k:=k+21) (by exact Nat.le_trans (Nat.add_le_add_right ‹_› _) (by decide)) L (n3+4) (n3+4+1) (n3+4+2) li 4 (n3+4+3) (t3+1+4+1) (mkL 0 z0 n0 t0) (mkL 1 z1 (n0+3) (t0+15)) (mkL 2 z2 (n0+6) (t0+30)) (mkL 3 z3 (n0+9) (t0+45)) rfl rfl rfl rfl
 refine⟨nu,li,n3+4+1,t1+5,t3+4,n5,t5+1,upd (upd (upd (upd (upd (tf t) 1 t1) 2 (t1+6)) 3 t2) 4 (t3+1+4)) 5 t5,z0,z1,z2,z3,z4,z5,z6,u5,u6,n0,t0,[(z0,u0),(z1,u1),(z2,u2),(z3,u3),(z4,u4),(z5,u5),(z6,u6)],rfl,rfl,fun h₀ B hf=>?_⟩
 change ∀ h₀:Heap,Base w h₀→Facts h₀ ((li,lstO (refsL (lists4 z0 z1 z2 z3 n0 t0)) 4)::liC (lists4 z0 z1 z2 z3 n0 t0))→_ at hvo
 change ∀ h₀:Heap,Base w h₀→Facts h₀ ((li,lstO (refsL (lists4 z0 z1 z2 z3 n0 t0)) 4)::liC (lists4 z0 z1 z2 z3 n0 t0))→Spec w h₀ os _ _ _ _ ⟨[_,(n3+4+1,dcO w (clL (lists4 z0 z1 z2 z3 n0 t0)))],_,_⟩ at hca
 generalize hl4:lists4 z0 z1 z2 z3 n0 t0=l4 at *
 have gR:=law_p w L t s1 t1 s2 t2 n3 t3 (n3+4) (t3+1+4) n5 t5 sc nu li u4 (t3+4) 4 k0 k1 k2 j0 j1 j2 V0 V1 V2 W0 W1 W2 (sOf z4) (vv4 z0 z1 z2 z3) z4 (intsL [(z0,u0),(z1,u1),(z2,u2),(z3,u3),(z4,u4),(z5,u5),(z6,u6)]) (refsL l4) (intsL [((vOf z0:Nat),t0+5),((vOf z1:Nat),t0+15+5),((vOf z2:Nat),t0+30+5),((vOf z3:Nat),t0+45+5)]) (dcE w (clL l4)) (liC l4++dcC w l4) (liC l4++dcC w l4)
 have hcl:dctO (dcE w (clL l4)) 4=dcO w (clL l4):=by rw [← hl4];rfl
 rw [hcl] at gR
 refine goodX_t gR B facts_nil ⟨?_,?_,fun m=>mod_ev _ _ _ _ (by decide) m,?_,?_,?_,?_,?_,trivial⟩
 ·exact midH B (T:=[]) (T':=[(nu,lstO (intsL [(z0,u0),(z1,u1),(z2,u2),(z3,u3),(z4,u4),(z5,u5),(z6,u6)]) 0)]) (fun h₁ B1 K1 F1=>hnum h₁ B1 (K1 _ _ hf)) rfl rfl
 ·exact mid_ B (fun h₁ B1 K1 F1=>git_ev B1 nu 0 s1 (t1+3) 4 (t1+2) _ _ (by decide) rfl (F1 _ (.head _)))
 ·intro m
  rw [← e1]
  exact addi_ev _ _ _ _ m
 ·refine use B [(nu,lstO (intsL [(z0,u0),(z1,u1),(z2,u2),(z3,u3),(z4,u4),(z5,u5),(z6,u6)]) 0),(L,frN w nm277 (upd (upd (tf t) 1 t1) 2 (t1+6)) [(.ref sc),(.ref nu),(.int (sOf z4) (t1+5))])] [] (fun z=>?_) (fun z=>?_) (fun h₁ B1 K1 F1=>hlis h₁ B1 (F1 _ (.head _)))
  ·simp only [cnt_cons,cnt_tab,cnt_nil,cnt_append,cnt_liC,List.cons_append,List.nil_append];try ac_rfl
  ·simp only [cnt_cons,cnt_tab,cnt_nil,cnt_append,cnt_liC,List.cons_append,List.nil_append];try ac_rfl
 ·refine use B ((li,lstO (refsL l4) 4)::(nu,lstO (intsL [(z0,u0),(z1,u1),(z2,u2),(z3,u3),(z4,u4),(z5,u5),(z6,u6)]) 0)::(L,frN w nm277 (upd (upd (upd (tf t) 1 t1) 2 (t1+6)) 3 t2) [(.ref sc),(.ref nu),(.int (sOf z4) (t1+5)),(.ref li)])::(liC l4++dcC w l4)) [] (fun z=>?_) (fun z=>?_) (fun h₁ B1 K1 F1=>hvo h₁ B1 (Facts.cons (F1 _ (.head _)) (F1.sub fun p hp=>.tail _ (.tail _ (.tail _ (List.mem_append_left _ hp))))))
  ·rw [show Value.int ((0:Nat):Int) 0=.int 0 0 from rfl]
   simp only [cnt_cons,cnt_tab,cnt_nil,cnt_append,cnt_liC,List.cons_append,List.nil_append];try ac_rfl
  ·rw [show intsL ([mkL 0 z0 n0 t0,mkL 1 z1 (n0+3) (t0+15),mkL 2 z2 (n0+6) (t0+30),mkL 3 z3 (n0+9) (t0+45)].map fun y=>(((y.v:Nat):Int),y.tv))=intsL [((vOf z0:Nat),t0+5),((vOf z1:Nat),t0+15+5),((vOf z2:Nat),t0+30+5),((vOf z3:Nat),t0+45+5)] from rfl]
   simp only [cnt_cons,cnt_tab,cnt_nil,cnt_append,cnt_liC,List.cons_append,List.nil_append];try ac_rfl
 ·have hv:((vv4 z0 z1 z2 z3:Nat):Int)=sumI [((vOf z0:Nat),t0+5),((vOf z1:Nat),t0+15+5),((vOf z2:Nat),t0+30+5),((vOf z3:Nat),t0+45+5)]:=by
   unfold vv4
   show _=((vOf z0:Nat):Int)+(((vOf z1:Nat):Int)+(((vOf z2:Nat):Int)+(((vOf z3:Nat):Int)+0)))
   omega
  rw [hv]
  refine mid_ B (fun h₁ B1 K1 F1=>?_)
  have q0:=vOf_ge z0
  have q1:=vOf_ge z1
  have q2:=vOf_ge z2
  have q3:=vOf_ge z3
  refine sum_ev (s2+1) 4 n3 t3 [((vOf z0:Nat),t0+5),((vOf z1:Nat),t0+15+5),((vOf z2:Nat),t0+30+5),((vOf z3:Nat),t0+45+5)] (fun x hx=>?_) (show 4≤100 by decide) (F1 _ (.tail _ (.head _)))
  simp only [List.mem_cons,List.not_mem_nil,or_false] at hx
  rcases hx with rfl | rfl | rfl | rfl<;>dsimp only<;>omega
 ·refine use B ((li,lstO (refsL l4) 4)::(nu,lstO (intsL [(z0,u0),(z1,u1),(z2,u2),(z3,u3),(z4,u4),(z5,u5),(z6,u6)]) 0)::(L,frN w nm277 (upd (upd (upd (upd (tf t) 1 t1) 2 (t1+6)) 3 t2) 4 (t3+1+4)) [(.ref sc),(.ref nu),(.int (sOf z4) (t1+5)),(.ref li),(.int (vv4 z0 z1 z2 z3) (t3+4))])::(s2+2,dctO [] 6)::(s2+1,lstO (intsL [((vOf z0:Nat),t0+5),((vOf z1:Nat),t0+15+5),((vOf z2:Nat),t0+30+5),((vOf z3:Nat),t0+45+5)]) 4)::(liC l4++dcC w l4)) [(s2+2,dctO [] 6),(s2+1,lstO (intsL [((vOf z0:Nat),t0+5),((vOf z1:Nat),t0+15+5),((vOf z2:Nat),t0+30+5),((vOf z3:Nat),t0+45+5)]) 4)] (fun z=>?_) (fun z=>?_) (fun h₁ B1 K1 F1=>hca h₁ B1 (Facts.cons (F1 _ (.head _)) (F1.sub fun p hp=>.tail _ (.tail _ (.tail _ (.tail _ (.tail _ (List.mem_append_left _ hp))))))))
  ·rw [show Value.int ((0:Nat):Int) 0=.int 0 0 from rfl]
   simp only [cnt_cons,cnt_tab,cnt_nil,cnt_append,cnt_liC,List.cons_append,List.nil_append];try ac_rfl
  ·simp only [cnt_cons,cnt_tab,cnt_nil,cnt_append,cnt_liC,List.cons_append,List.nil_append];try ac_rfl
end
noncomputable def q6 (n t:Nat):List (Nat×Obj):=[(n+5,tupO [.int 2 (t+10),.int 3 (t+11)]),(n+4,tupO [.int 1 (t+8),.int 3 (t+9)]),(n+3,tupO [.int 1 (t+6),.int 2 (t+7)]),(n+2,tupO [.int 0 (t+4),.int 3 (t+5)]),(n+1,tupO [.int 0 (t+2),.int 2 (t+3)]),(n,tupO [.int 0 t,.int 1 (t+1)])]
noncomputable def q3 (n t:Nat):List (Nat×Obj):=[(n+9,tupO [.int 1 (t+19),.int 2 (t+20)]),(n+8,tupO [.int 0 (t+17),.int 2 (t+18)]),(n+7,tupO [.int 0 (t+15),.int 1 (t+16)])]
theorem pick6 (n t:Nat) {i:Int} (h0:0≤i) (h6:i < 6):∃ pa p q te tf,p < q∧q < 4∧([.ref n,.ref (n+1),.ref (n+2),.ref (n+3),.ref (n+4),.ref (n+5)]:List Value)[i.toNat]?=some (.ref pa)∧(pa,tupO [.int ((p:Nat):Int) te,.int ((q:Nat):Int) tf])∈q6 n t:=by
 have:i=0∨i=1∨i=2∨i=3∨i=4∨i=5:=by omega
 rcases this with rfl | rfl | rfl | rfl | rfl | rfl
 ·exact⟨n,0,1,_,_,by decide,by decide,rfl,.tail _ (.tail _ (.tail _ (.tail _ (.tail _ (.head _)))))⟩
 ·exact⟨n+1,0,2,_,_,by decide,by decide,rfl,.tail _ (.tail _ (.tail _ (.tail _ (.head _))))⟩
 ·exact⟨n+2,0,3,_,_,by decide,by decide,rfl,.tail _ (.tail _ (.tail _ (.head _)))⟩
 ·exact⟨n+3,1,2,_,_,by decide,by decide,rfl,.tail _ (.tail _ (.head _))⟩
 ·exact⟨n+4,1,3,_,_,by decide,by decide,rfl,.tail _ (.head _)⟩
 ·exact⟨n+5,2,3,_,_,by decide,by decide,rfl,.head _⟩
theorem pick3 (n t:Nat) {i:Int} (h0:0≤i) (h6:i < 3):∃ pa p q te tf,p < q∧q < 3∧([.ref (n+7),.ref (n+8),.ref (n+9)]:List Value)[i.toNat]?=some (.ref pa)∧(pa,tupO [.int ((p:Nat):Int) te,.int ((q:Nat):Int) tf])∈q3 n t:=by
 have:i=0∨i=1∨i=2:=by omega
 rcases this with rfl | rfl | rfl
 ·exact⟨n+7,0,1,_,_,by decide,by decide,rfl,.tail _ (.tail _ (.head _))⟩
 ·exact⟨n+8,0,2,_,_,by decide,by decide,rfl,.tail _ (.head _)⟩
 ·exact⟨n+9,1,2,_,_,by decide,by decide,rfl,.head _⟩
section
variable {w:World} {os:OsState}
theorem q_ok {k:Nat} (n t L sc nu li ts tw cd ne:Nat) (ks:Nat→Nat) (s vv:Int) (nums:List (Int×Nat)) (z5 z6:Int) (u5 u6:Nat) (h5:nums[5]?=some (z5,u5)) (h6:nums[6]?=some (z6,u6)) :
  ∃(pl pa pb te tf tg tj p q p2 q2 n' t':Nat) (ks':Nat→Nat) (cells:List (Nat×Obj)),p < q∧q < 4∧p2 < q2∧q2 < 3∧(pl,lstO [.ref pa,.ref pb] 0)∈cells∧(pa,tupO [.int ((p:Nat):Int) te,.int ((q:Nat):Int) tf])∈cells∧(pb,tupO [.int ((p2:Nat):Int) tg,.int ((q2:Nat):Int) tj])∈cells∧∀(h₀:Heap),Base w h₀→h₀.get? nu=some (lstO (intsL nums) ne) →
   TSpec w h₀ os k (zExecs (((bodyOf (fdAt w 277)).drop 5).take 1) (envAt w 277 L)) ⟨[(L,frN w nm277 ks [.ref sc,.ref nu,.int s ts,.ref li,.int vv tw,.ref cd])],n,t⟩ .next
    ⟨cells++[(L,frN w nm277 ks' [.ref sc,.ref nu,.int s ts,.ref li,.int vv tw,.ref cd,.ref pl])],n',t'⟩:=by
 have i5:0≤z5.fmod 6∧z5.fmod 6 < 6:=by rw [Int.fmod_eq_emod_of_nonneg _ (by decide)];omega
 have i6:0≤z6.fmod 3∧z6.fmod 3 < 3:=by rw [Int.fmod_eq_emod_of_nonneg _ (by decide)];omega
 obtain⟨pa,p,q,te,tf,a1,a2,a3,a4⟩:=pick6 n t i5.1 i5.2
 obtain⟨pb,p2,q2,tg,tj,b1,b2,b3,b4⟩:=pick3 n t i6.1 i6.2
 have g5:(intsL nums)[5]?=some (.int z5 u5):=by unfold intsL;rw [List.getElem?_map,h5];rfl
 have g6:(intsL nums)[6]?=some (.int z6 u6):=by unfold intsL;rw [List.getElem?_map,h6];rfl
 refine⟨n+11,pa,pb,te,tf,tg,tj,p,q,p2,q2,n+12,t+25,upd ks 6 (t+24),(n+11,lstO [.ref pa,.ref pb] 0)::(n+10,lstO [.ref (n+7),.ref (n+8),.ref (n+9)] 0)::(q3 n t++(n+6,lstO [.ref n,.ref (n+1),.ref (n+2),.ref (n+3),.ref (n+4),.ref (n+5)] 0)::q6 n t),a1,a2,b1,b2,.head _,.tail _ (.tail _ (List.mem_append_right _ (.tail _ a4))),.tail _ (.tail _ (List.mem_append_left _ b4)),fun h₀ B hf=>?_⟩
 have gR:=law_q w n t L sc nu li ts tw u5 u6 cd pa pb ne ks s vv z5 z6 (z5.fmod 6) (z6.fmod 3) (intsL nums)
 refine goodX_t gR B (facts_nil.cons hf) ⟨?_,fun m=>mod_ev _ _ _ _ (by decide) m,?_,?_,fun m=>mod_ev _ _ _ _ (by decide) m,?_,trivial⟩
 ·exact mid_ B (fun h₁ B1 K1 F1=>git_ev B1 nu ne (n+7) (t+13) 5 (t+12) _ _ (by decide) g5 (K1 _ _ hf))
 ·exact mid_ B (fun h₁ B1 K1 F1=>git_ev' B1 (n+6) 0 (n+7) (t+15) (t+14) _ _ _ i5.1 (by omega) a3 (F1 _ (.head _)))
 ·exact mid_ B (fun h₁ B1 K1 F1=>git_ev B1 nu ne (n+11) (t+22) 6 (t+21) _ _ (by decide) g6 (K1 _ _ hf))
 ·exact mid_ B (fun h₁ B1 K1 F1=>git_ev' B1 (n+10) 0 (n+11) (t+24) (t+23) _ _ _ i6.1 (by omega) b3 (F1 _ (.head _)))
end
section
variable {w:World} {os:OsState}
theorem f_ok {k:Nat} (hk:k≤9) (n t L li le pl pa pb ts tw te tf tg tj:Nat) (ks:Nat→Nat) (V0 V1 V5:Value) (s:Nat) (s3:3≤s) (s6:s≤6) (vv:Nat) (hvv:vv≤1000) (C:List (Nat×Nat)) (hC:C.map (·.1)=[0,1,2,3]) (xs:List Lx) (ok:LOk vv C (xs.map Lx.en)) (hlen:xs.length=4) (p q p2 q2:Nat) (hpq:p < q) (hq:q < 4) (hpq2:p2 < q2) (hq2:q2 < 3) :
  ∃(ks':Nat→Nat) (V7 V8 V9 V10:Value) (rr ep n' t':Nat) (zs:List Lx) (D:List (Nat×Obj)),LOk vv C (zs.map Lx.en)∧zs.length=2∧(∀ y∈zs,y.h=(seats (pvE (zs.map Lx.en)) s y.p:Int)∧y.o=(y.v:Int)*(s:Int) - (seats (pvE (zs.map Lx.en)) s y.p:Int)*(vv:Int))∧(∀ y∈zs,(y.d,dcO w y.cs)∈D∨∃ x∈xs,x.d=y.d∧x.cs=y.cs)∧∀(h₀:Heap),Base w h₀→Sees w h₀ li le xs→h₀.get? pl=some (lstO [.ref pa,.ref pb] 0)→h₀.get? pa=some (tupO [.int p te,.int q tf])→h₀.get? pb=some (tupO [.int p2 tg,.int q2 tj]) →
   TSpec w h₀ os k (zExecs (((bodyOf (fdAt w 277)).drop 6).take 1) (envAt w 277 L)) ⟨[(L,frN w nm277 ks [V0,V1,.int s ts,.ref li,.int vv tw,V5,.ref pl])],n,t⟩ .next
    ⟨(L,frN w nm277 ks' [V0,V1,.int s ts,.ref rr,.int vv tw,V5,.ref pl,V7,V8,V9,V10])::((rr,lstO (refsL zs) ep)::(liC zs++D)),n',t'⟩:=by
 obtain⟨k1,A7,A8,A9,r1,n1,t1,x1,zd0,zc0,ok1,l1,j1,d1,h1⟩:=turn_0 (w:=w) (os:=os) (k:=k+21) (by exact Nat.le_trans (Nat.add_le_add_right ‹_› _) (by decide)) L (n+1) li le pl ts tw (n+2) (t+3) ks V0 V1 V5 s s3 s6 vv hvv C hC xs ok (by omega) pa pb te tf p q hpq (by exact Nat.le_trans ‹_› (Nat.le_of_eq (Eq.symm ‹_›)))
 obtain⟨k2,B7,B8,B9,B10,r2,n2,t2,x2,zd1,zc1,ok2,l2,j2,d2,h2⟩:=turn_1 (w:=w) (os:=os) (k:=k+21) (by exact Nat.le_trans (Nat.add_le_add_right ‹_› _) (by decide)) L (n+1) r1 0 pl ts tw n1 t1 k1 V0 V1 V5 A7 A8 A9 s s3 s6 vv hvv C hC x1 ok1 (by omega) pa pb tg tj te tf p q j1 p2 q2 hpq2 (by omega)
 obtain⟨k3,C7,C8,C9,C10,r3,e3,n3,t3,x3,ok3,l3,hh,d3,h3⟩:=turn_2 (w:=w) (os:=os) (k:=k+21) (by exact Nat.le_trans (Nat.add_le_add_right ‹_› _) (by decide)) L (n+1) r2 0 pl ts tw n2 t2 k2 V0 V1 V5 B7 B8 B9 B10 s s3 s6 vv hvv C hC x2 ok2 pa pb tg tj p2 q2 j2
 refine⟨k3,C7,C8,C9,C10,r3,e3,n3,t3,x3,[(zd1,dcO w zc1),(zd0,dcO w zc0)],ok3,by omega,hh,fun y hy=>?_,fun h₀ B S fpl fpa fpb=>?_⟩
 ·obtain⟨y2,hy2,e1,e2⟩:=d3 y hy
  rcases d2 y2 hy2 with ⟨y1,hy1,e3,e4⟩ | ⟨e3,e4⟩
  ·rcases d1 y1 hy1 with ⟨y0,hy0,e5,e6⟩ | ⟨e5,e6⟩
   ·exact .inr ⟨y0,hy0,e5.trans (e3.trans e1),e6.trans (e4.trans e2)⟩
   ·left
    rw [← e1,← e2,← e3,← e4,e5,e6]
    exact .tail _ (.head _)
  ·left
   rw [← e1,← e2,e3,e4]
   exact .head _
 ·have gR:=law_f w n t n3 t3 L li ts tw pl r3 ks k3 V0 V1 V5 C7 C8 C9 C10 s vv ((r3,lstO (refsL x3) e3)::(liC x3++[(zd1,dcO w zc1),(zd0,dcO w zc0)]))
  refine goodX_t gR B facts_nil ⟨?_,trivial⟩
  refine use B [(n,fldO "range" [(.int 0 (t+1)),(.int 3 t),(.int 1 (t+2))])] [(n,fldO "range" [(.int 0 (t+1)),(.int 3 t),(.int 1 (t+2))])] (fun z=>?_) (fun z=>?_) (fun ha Ba Ka Fa=>h1 ha Ba (S.keeps Ka) (Ka _ _ fpl) (Ka _ _ fpa) fun hb Bb Kb Sb=>h2 hb Bb Sb (Kb _ _ (Ka _ _ fpl)) (Kb _ _ (Ka _ _ fpa)) (Kb _ _ (Ka _ _ fpb)) fun hc Bc Kc Sc=>h3 hc Bc Sc (Kc _ _ (Kb _ _ (Ka _ _ fpl))) (Kc _ _ (Kb _ _ (Ka _ _ fpb))))
  ·rw [show rngO 0 (3 - 0)=fldO "range_iterator" [.int 0 0,.int 3 0,.int 1 0] from rfl]
   simp only [cnt_cons,cnt_tab,cnt_nil,cnt_append,List.cons_append,List.nil_append];try ac_rfl
  ·simp only [cnt_cons,cnt_tab,cnt_nil,cnt_append,List.cons_append,List.nil_append];try ac_rfl
theorem take7 {α:Type} (l:List α):l.take 7=l.take 5++((l.drop 5).take 1++(l.drop 6).take 1):=by
 match l with
 | []=>rfl
 | [_]=>rfl
 | [_,_]=>rfl
 | [_,_,_]=>rfl
 | [_,_,_,_]=>rfl
 | [_,_,_,_,_]=>rfl
 | [_,_,_,_,_,_]=>rfl
 | _::_::_::_::_::_::_::_=>rfl
noncomputable abbrev LR (w:World):Stmt:=stAt (bodyOf (fdAt w 277)) 7
theorem ret_b (w:World):RetIs .Eq (LR w):=⟨lhsX (retX (LR w)),rhsX (retX (LR w)),cmpP (retX (LR w)),(ifR (LR w)).2,by kernel_rfl,by kernel_rfl⟩
theorem ret_e (w:World):(bodyOf (fdAt w 277)).drop (7+1)=[]:=by kernel_rfl
theorem cl_ok (z0 z1 z2 z3:Int) (n t:Nat):DeOk (clL (lists4 z0 z1 z2 z3 n t)):=by
 refine⟨?_,show ([0,1,2,3]:List Nat).Nodup by decide⟩
 intro y hy
 simp only [clL,lists4,mkL,List.map_cons,List.map_nil,List.mem_cons,List.not_mem_nil,or_false] at hy
 rcases hy with rfl | rfl | rfl | rfl<;>simp
theorem cl_C (z0 z1 z2 z3:Int) (n t:Nat):(clL (lists4 z0 z1 z2 z3 n t)).map (fun x=>(x.p,x.v))=C4 z0 z1 z2 z3:=rfl
theorem law_ok {k:Nat} (hk:k≤9) (sc se n t:Nat) (scr:List (Int×Nat)) (hz:scr.length≤90) :
  ∃ m':SM,∀(h₀:Heap),Base w h₀→h₀.get? sc=some (lstO (intsL scr) se)→Spec w h₀ os k (.call (.ref 277) ⟨[.ref sc],[]⟩) ⟨[],n,t⟩ (.ok (.ret (.bool true))) m':=by
 obtain⟨nu,li,cd,ts,tw,n1,t1,k1,z0,z1,z2,z3,z4,z5,z6,u5,u6,n0,t0,nums,g5,g6,hp⟩:=p_ok (w:=w) (os:=os) hk sc se n t scr hz
 obtain⟨_,s3,s6⟩:=sOf_eq z4
 obtain⟨pl,pa,pb,te,tf,tg,tj,p,q,p2,q2,n2,t2,k2,cells,a1,a2,b1,b2,m1,m2,m3,hq⟩:=q_ok (w:=w) (os:=os) (k:=k) n1 t1 n sc nu li ts tw cd 0 k1 (sOf z4) (vv4 z0 z1 z2 z3) nums z5 z6 u5 u6 g5 g6
 have hclo:=cl_ok z0 z1 z2 z3 n0 t0
 have hclC:=cl_C z0 z1 z2 z3 n0 t0
 have hlk:=lok4 z0 z1 z2 z3 n0 t0
 have h4:(lists4 z0 z1 z2 z3 n0 t0).length=4:=rfl
 have hvv:=vv4_le z0 z1 z2 z3
 have hcl4:(clL (lists4 z0 z1 z2 z3 n0 t0)).length=4:=rfl
 generalize lists4 z0 z1 z2 z3 n0 t0=l4 at *
 generalize vv4 z0 z1 z2 z3=vv at *
 generalize sOf z4=s at *
 obtain⟨k3,V7,V8,V9,V10,rr,ep,n3,t3,zs,D,okz,lz,hho,hdd,hf⟩:=f_ok (w:=w) (os:=os) hk n2 t2 n li 4 pl pa pb ts tw te tf tg tj k2 (.ref sc) (.ref nu) (.ref cd) s s3 s6 vv hvv (C4 z0 z1 z2 z3) rfl l4 hlk h4 p q p2 q2 a1 a2 b1 b2
 obtain⟨y0,y1,rfl⟩:∃ y0 y1,zs=[y0,y1]:=by
  match zs,lz with
  | [a,b],_=>exact⟨a,b,rfl⟩
 obtain⟨hde,c1,c2⟩:=LOk.de (A:=[]) (M:=[]) (D:=[]) (x:=y0.en) (y:=y1.en) okz rfl
 have d1:1≤y0.cs.length:=okz.ne y0.en (.head _)
 have d2:1≤y1.cs.length:=okz.ne y1.en (.tail _ (.head _))
 obtain⟨f1,f2,f3,f4⟩:=LOk.fin (x:=y0.en) (y:=y1.en) okz (hho y0 (.head _)).1 (hho y1 (.tail _ (.head _))).1 (hho y0 (.head _)).2 (hho y1 (.tail _ (.head _))).2
 obtain⟨rs,n4,t4,nd,u0,u1,u2,u3,hafs⟩:=afs_ok (w:=w) (os:=os) (k:=k+21) (by exact Nat.le_trans (Nat.add_le_add_right ‹_› _) (by decide)) n3 (t3+4) y0 y1 d1 c1 d2 c2 hde
 change y1.v+y0.v=vv at f1
 change y1.h+y0.h=s at f2
 change y1.o+y0.o=0 at f3
 change y1.c+y0.c=4 at f4
 rw [f1,f2,f3,f4] at hafs
 have hcs:((y0.cs++y1.cs).map fun x=>(x.p,x.v)).Perm (C4 z0 z1 z2 z3):=by
  have:=okz.cs
  unfold csE at this
  simp only [List.map_cons,List.map_nil,List.flatMap_cons,List.flatMap_nil,List.append_nil] at this
  rw [List.map_append]
  exact this
 have hlen:(y0.cs++y1.cs).length=(clL l4).length:=by
  have:=hcs.length_eq
  rw [List.length_map] at this
  rw [this,hcl4];rfl
 have hsub:∀ x∈y0.cs++y1.cs,∃ y∈clL l4,y.p=x.p∧y.v=x.v:=fun x hx=>by
  have hm:=hcs.mem_iff.mp (List.mem_map_of_mem (f:=fun x:De=>(x.p,x.v)) hx)
  rw [← hclC] at hm
  obtain⟨y,hy,e⟩:=List.mem_map.mp hm
  exact⟨y,hy,congrArg Prod.fst e,congrArg Prod.snd e⟩
 obtain⟨R0,hR0⟩:∃ R0,R0=(cd,dcO w (clL l4))::(li,lstO (refsL l4) 4)::(nu,lstO (intsL nums) 0)::(liC l4++dcC w l4):=⟨_,rfl⟩
 obtain⟨R1,hR1⟩:∃ R1,R1=(rr,lstO (refsL [y0,y1]) ep)::(liC [y0,y1]++(D++(cells++R0))):=⟨_,rfl⟩
 obtain⟨F7,hF7⟩:∃ F7,F7=frN w nm277 k3 [.ref sc,.ref nu,.int s ts,.ref rr,.int vv tw,.ref cd,.ref pl,V7,V8,V9,V10]:=⟨_,rfl⟩
 refine⟨⟨(n4,tupO [.int vv tw,.int s ts,.int 0 t4,.int 4 (t4+1),.ref cd])::(n,F7)::(rs,tupO [.int vv u0,.int s u1,.int 0 u2,.int 4 u3,.ref nd])::(nd,dcO w (y0.cs++y1.cs))::R1,n4+1,t4+2⟩,fun h₀ B fsc=>?_⟩
 refine law_in B (by exact Nat.le_trans ‹_› (by decide)) sc n t [] ?_
 refine spec_body (j:=7) (m1:=⟨(n,F7)::R1,n3,t3⟩) (m2:=⟨(n,F7)::(rs,tupO [.int vv u0,.int s u1,.int 0 u2,.int 4 u3,.ref nd])::(nd,dcO w (y0.cs++y1.cs))::R1,n4,t4⟩) (a:=.ref rs) (b:=.ref n4) (ret_b w) (ret_e w) ?_ ?_ ?_ ?_
 ·rw [take7]
  refine TSpec.app (hp h₀ B fsc) (TSpec.app (m1:=⟨(n,frN w nm277 k2 [.ref sc,.ref nu,.int s ts,.ref li,.int vv tw,.ref cd,.ref pl])::(cells++R0),n2,t2⟩) ?_ ?_)
  ·refine useT B R0 [] (fun z=>?_) (fun z=>?_) (fun h₁ B1 K1 F1=>hq h₁ B1 (F1 _ (by rw [hR0];exact .tail _ (.tail _ (.head _)))))
   ·rw [hR0]
    simp only [cnt_cons,cnt_tab,cnt_nil,cnt_append,List.cons_append,List.nil_append];try ac_rfl
   ·simp only [cnt_cons,cnt_tab,cnt_nil,cnt_append,List.cons_append,List.nil_append];try ac_rfl
  ·refine useT B (cells++R0) [] (fun z=>?_) (fun z=>?_) (fun h₁ B1 K1 F1=>hf h₁ B1 ⟨?_,?_,fun y hy=>?_⟩ (F1 _ (List.mem_append_left _ m1)) (F1 _ (List.mem_append_left _ m2)) (F1 _ (List.mem_append_left _ m3)))
   ·simp only [cnt_cons,cnt_tab,cnt_nil,cnt_append,List.cons_append,List.nil_append];try ac_rfl
   ·rw [hR1,hF7]
    simp only [cnt_cons,cnt_tab,cnt_nil,cnt_append,List.cons_append,List.nil_append];try ac_rfl
   ·exact F1 _ (List.mem_append_right _ (by rw [hR0];exact .tail _ (.head _)))
   ·exact F1.sub fun c hc=>List.mem_append_right _ (by rw [hR0];exact .tail _ (.tail _ (.tail _ (List.mem_append_left _ hc))))
   ·exact F1 (y.d,dcO w y.cs) (List.mem_append_right _ (by rw [hR0];exact .tail _ (.tail _ (.tail _ (List.mem_append_right _ (List.mem_map_of_mem (f:=fun y:Lx=>(y.d,dcO w y.cs)) hy))))))
 ·rw [hF7]
  have gR:=law_r w n3 t3 n4 t4 n ts tw y0.tp y0.tl y1.tp y1.tl cd rr y0.a y0.e y1.a y1.e rs ep k3 (.ref sc) (.ref nu) (.ref pl) V7 V8 V9 V10 s vv y0.p y1.p (ltr y0.p) (ltr y1.p) (refsL [y0,y1]) [(rs,tupO [.int vv u0,.int s u1,.int 0 u2,.int 4 u3,.ref nd]),(nd,dcO w (y0.cs++y1.cs))]
  have hdm:∀ y∈[y0,y1],(y.d,dcO w y.cs)∈R1:=fun y hy=>by
   rw [hR1]
   rcases hdd y hy with h | ⟨x0,hx0,e1,e2⟩
   ·exact .tail _ (List.mem_append_right _ (List.mem_append_left _ h))
   ·rw [← e1,← e2,hR0]
    exact .tail _ (List.mem_append_right _ (List.mem_append_right _ (List.mem_append_right _ (.tail _ (.tail _ (.tail _ (List.mem_append_right _ (List.mem_map_of_mem (f:=fun y:Lx=>(y.d,dcO w y.cs)) hx0))))))))
  have hc:∀ c∈(rr,lstO (refsL [y0,y1]) ep)::liC [y0,y1],c∈R1:=fun c hc=>by
   rw [hR1]
   rcases List.mem_cons.mp hc with rfl | hc
   ·exact .head _
   ·exact .tail _ (List.mem_append_left _ hc)
  refine useT B R1 [] (fun z=>?_) (fun z=>?_) (fun h₁ B1 K1 F1=>goodX_t gR B1 (((facts_nil.cons (F1 _ (hc _ (.tail _ (.tail _ (.tail _ (.head _))))))).cons (F1 _ (hc _ (.tail _ (.head _))))).cons (F1 _ (hc _ (.head _)))) ⟨?_,?_,?_,trivial⟩)
  ·simp only [cnt_cons,cnt_tab,cnt_nil,cnt_append,List.cons_append,List.nil_append];try ac_rfl
  ·simp only [cnt_cons,cnt_tab,cnt_nil,cnt_append,List.cons_append,List.nil_append];try ac_rfl
  ·exact mid_ B1 (fun h₂ B2 K2 F2=>git_ev B2 rr ep n3 (t3+1) 0 t3 _ _ (by decide) rfl (K2 _ _ (F1 _ (hc _ (.head _)))))
  ·exact mid_ B1 (fun h₂ B2 K2 F2=>git_ev B2 rr ep n3 (t3+3) 1 (t3+2) _ _ (by decide) rfl (K2 _ _ (F1 _ (hc _ (.head _)))))
  ·exact midT B1 (fun h₂ B2 K2 F2=>hafs h₂ B2 (K2 _ _ (F1 _ (hc _ (.tail _ (.tail _ (.head _)))))) (K2 _ _ (F1 _ (hc _ (.tail _ (.tail _ (.tail _ (.tail _ (.head _)))))))) (K2 _ _ (F1 _ (hdm y0 (.head _)))) (K2 _ _ (F1 _ (hdm y1 (.tail _ (.head _)))))) rfl
 ·rw [hF7]
  have gR:=law_t w n4 t4 n ts tw cd rr k3 (.ref sc) (.ref nu) (.ref pl) V7 V8 V9 V10 s vv ((rs,tupO [.int vv u0,.int s u1,.int 0 u2,.int 4 u3,.ref nd])::(nd,dcO w (y0.cs++y1.cs))::R1)
  exact goodX_t gR B facts_nil trivial
 ·refine cmp_of (T:="tuple") (id:="tuple.__eq__") (by exact Nat.le_trans ‹_› (by decide)) F.slot_tuple_eq (fun s D=>⟨_,(D.cell _ (.tail _ (.tail _ (.head _)))).1,rfl⟩) (fun s D=>⟨_,(D.cell _ (.head _)).1,rfl⟩) (fun e=>by cases e) ?_
  refine mid_ B (fun h₁ B1 K1 F1=>?_)
  refine teq_ev B1 (by exact Nat.le_trans (Nat.add_le_add_right ‹_› _) (by decide)) rs n4 nd cd (n4+1) (t4+2) u0 u1 u2 u3 tw ts t4 (t4+1) vv s 0 4 (y0.cs++y1.cs) (clL l4) hde hclo hlen hsub (fun e=>?_) (fun e=>?_) (F1 _ (.tail _ (.tail _ (.head _)))) (F1 _ (.head _)) (F1 _ (.tail _ (.tail _ (.tail _ (.head _))))) (F1 (cd,dcO w (clL l4)) (.tail _ (.tail _ (.tail _ (.tail _ ?_)))))
  ·have e:=congrArg List.length e
   rw [hlen,hcl4] at e
   cases e
  ·rw [e] at hcl4;cases hcl4
  ·rw [hR1,hR0]
   exact .tail _ (List.mem_append_right _ (List.mem_append_right _ (List.mem_append_right _ (.head _))))
end
theorem kt_of' {t:KT} {K:Frag} (e:KT.of K=t) {h h':Heap} (A:AllIn h K) (k:∀ b o,h.get? b=some o→h'.get? b=some o):KT.Holds h' 1 0 t:=by
 subst e
 exact KT.Holds.keeps k (holds_of A)
theorem kt_of {w:World} {h h':Heap} (A:AllIn h (topK w.params)) (k:∀ b o,h.get? b=some o→h'.get? b=some o):KT.Holds h' 1 0 (ktop w.params):=kt_of' (top_kt w.params) A k
theorem ev_empty:(PySem.Challenge.rw_rl0095_01.row.claim.pre [ofPy (PyData.list [])])=true:=by decide +kernel
theorem ints_scr:∀ {vs:List Value} {ns:List Int},IntsAre vs ns→∃ scr:List (Int×Nat),vs=intsL scr∧scr.length=ns.length
 | _,_,.nil=>⟨[],rfl,rfl⟩
 | _,_,.cons _ _ h=>by
  obtain⟨scr,e,l⟩:=ints_scr h
  exact⟨(_,_)::scr,by rw [e];rfl,by rw [List.length_cons,List.length_cons,l]⟩
theorem walk_end {w:World} {s:Shared} {ns:List Int} {vs:List Value} (ZH:KT.Holds s.heap 1 0 (ktop w.params)) (hlim:s.heap.NoLimit) (hg:s.gens=#[]) (hL:s.heap.get? 278=some { cls:=.type "list",data:=.seq vs.toArray }) (hI:IntsAre vs ns) (hz:ns.length≤63) :
  wpAny (model P₀ w) callerA (PySem.call (.ref 277) [.ref 278]) (fun v s'=>v=.bool true∧(∀ b o,s.heap.get? b=some o→s'.heap.get? b=some o)∧s'.os=s.os∧s'.gens=#[]) (fun _ _=>False) s:=by
 obtain⟨scr,rfl,hl⟩:=ints_scr hI
 obtain⟨m',h⟩:=law_ok (w:=w) (os:=s.os) (k:=0) (by decide) 278 0 s.heap.objs.size s.toks scr (by exact Nat.le_trans (Nat.le_of_eq ‹_›) (Nat.le_trans ‹_› (by decide)))
 refine wpAny_call (h s.heap ⟨ZH,hlim⟩ hL callerA s _ ⟨rfl,by decide +kernel,by decide +kernel⟩ ⟨fun _ _ e=>e,fun _ h=>(nomatch h),List.nodup_nil,rfl,rfl,hg,rfl⟩ fun s' D'=>?_)
 exact⟨rfl,D'.keep,D'.os,D'.gens⟩
theorem good_end {s₀ s₁ s':Shared} {ns:List Int} {v:Value} (h:v=.bool true∧(∀ b o,s₁.heap.get? b=some o→s'.heap.get? b=some o)∧s'.os=s₁.os∧s'.gens=#[]) :
  GoodWG PySem.Challenge.rw_rl0095_01.row.claim (classAt s₀.heap) (ExcName.means s₀.heap) [ofPy (PyData.list (ns.map PyData.int))] s₁ (.ok (.ret v)) s':=by
 obtain⟨rfl,hk,hos,hg⟩:=h
 refine GoodW.toG ⟨.inl ⟨_,.bool true,[],rfl,fun _=>rfl,.bool true,by wrow_post,fun _=>⟨List.nodup_nil,fun _ h=>(nomatch h)⟩⟩,hk,hos,hg⟩
theorem fin0:PySem.Challenge.rw_rl0095_01.Holds:=by
 w_on
 refine holds_law said fun sd=>?_
 refine holds_openX (r:=PySem.Challenge.rw_rl0095_01.row) (q:=qv) (loose:=lsT) (Xt:=fun s=>xlAt qv [] s&&recOk [] s) (XP:=XL qv []) (Yf:=obsZ asT) (Ya:=valZ topK 278 724) (N:=4000) left_top (fun s e=>xl_of s (Bool.and_eq_true_iff.mp e).1) XL.keeps (by rfl) (by rfl) (by rfl) (fun s e=>recFacts_of (Bool.and_eq_true_iff.mp e).2) (by rfl) sd (by decide +kernel) ⟨rfl,rfl,rfl,rfl,rfl,by decide +kernel⟩ ?hw ?hc
 case hw=>exact⟨[ofPy (PyData.list [])],ev_empty,by decide +kernel⟩
 case hc =>
  intro w s₀ s₁ mg mb G y fa o pm cd doc dV kV ho hd hcd hD hmg hg args vals as L hpre hlay hrd hwl hlo
  have f:=z_facts (K:=topK) (as:=asT) asT_is y
  have KX:Frag.In (topK w.params) s₁.heap:=InK.keeps w s₀.heap s₁.heap f.2.1 L.keeps
  have ZH:(ktop w.params).Holds s₁.heap 1 0:=by exact kt_of f.1 L.keeps
  have ZN:=f.2.2.1
  clear hd hcd hD
  refine Ground.open G ?_
  intro T B D TE TW
  have hlim:s₁.heap.NoLimit:=T.nolimit
  wrow_args hpre hlay hrd hwl hlo
  obtain⟨hat,hsz⟩:=script_at L
  rw [ZN] at hat hsz
  subst hat
  x_fa T KX hmg
  refine wpAny_mono (walk_end ZH hlim hg (script_obj L ‹s₁.heap.IsList 278 _›) ‹IntsAre _ _› (by omega)) (fun v s' h=>good_end h) (fun e s' h=>h.elim)
end Mine
theorem PySem.Challenge.cw_rl0095_01_holds : PySem.Challenge.rw_rl0095_01.Holds :=
  Mine.fin0
