import PyProof.Rows.All
import OpenK.ZSim
import Open.FastRun
import Wide.All
import OpenK.AllK
import Wide.FinOn
import PySem.Challenge.RW_uc0006_01
set_option Elab.async false
set_option maxRecDepth 100000
set_option maxHeartbeats 0
set_option genSizeOf false
set_option genInjectivity false
namespace Mine
open PySem PySem.Spec PySem.Calls PyProof.Rows PySem.W PySem.W.X
noncomputable def bh:Code→Sem Fin:=PySem.W.Fast.tw11892475500146522536 PySem.W.Fast.tw14364793385576792824
theorem denF_eq:denote table=bh:=by
  unfold bh
  rw [table_eq_tree,← PySem.W.Fast.te11892475500146522536,← PySem.W.Fast.te14364793385576792824]
noncomputable def enterF:Sem Unit:=PySem.W.Fast.tw15066281185411960212 0
theorem enterF_eq:enterFrame 0=enterF:=by
  unfold enterF
  rw [← PySem.W.Fast.te15066281185411960212]
noncomputable def wakeF:Sem Unit:=PySem.W.Fast.tw3139746846981162851
theorem wakeF_eq:roomToWake=wakeF:=by
  unfold wakeF
  rw [← PySem.W.Fast.te3139746846981162851]
noncomputable def roomF (x:String):Sem Unit:=PySem.W.Fast.tw10648789137845014744 x
theorem roomF_eq (x:String):cRoom x=roomF x:=by
  unfold roomF
  rw [← PySem.W.Fast.te10648789137845014744]
noncomputable def tailOf {α:Type} (t:Sem α) (st:List (Code × Pos)):Sem α:=match t with
  | .stack k=>k st
  | _=>.unsupported ""
noncomputable abbrev Led:=List (Addr × Obj)
noncomputable def nth:Led→Nat→Option (Addr × Obj)
  | [],_=>none
  | x::l,n=>match n with
    | 0=>some x
    | n+1=>nth l n
noncomputable def upd:Led→Nat→(Obj→Obj)→Led
  | [],_,_=>[]
  | x::l,n,f=>match n with
    | 0=>(x.1,f x.2)::l
    | n+1=>x::upd l n f
structure VS where
  prog:Program
  w:World
  kt:KT
  h₀:Heap
  n₁:Nat
  O:Led
  g₀:Array GenState
  ng:Nat
  A₀:Around
  R₀:Result→Shared→Prop
  d:Drawn
  t₀:Nat
  os:OsState
  D:Nat
  G:List Led:=[]
noncomputable abbrev VS.x (V:VS):XV:=⟨V.prog,V.w,V.h₀,V.n₁,V.kt,[],V.A₀,V.R₀,V.d,V.t₀,V.os⟩
structure VS.Ok (V:VS):Prop where
  size:V.h₀.objs.size=V.n₁
  kt:V.kt.Holds V.h₀ 1 0
  olds:∀ x∈V.O,V.h₀.get? x.1=some x.2
  nodup:(V.O.map (·.1)).Nodup
  apart:∀ x∈V.O,V.kt.get x.1=none
  lim:V.h₀.NoLimit
  stat:(V.kt.get cStatics).isSome=true
  depth:V.A₀.depth+5*30<recursionLimit
  units:V.A₀.units+10*30<cLine
  gens:V.g₀.size=V.ng
  bound:∀ a,165≤a→V.kt.get a=none
  base:165≤V.n₁
  deep:2*V.A₀.depth+60≤V.D+780
  deepU:V.A₀.units+120≤2*V.D
  gh:∀ x∈V.G.flatten,V.h₀.get? x.1=some x.2∧x.1∉V.O.map (·.1)∧V.kt.get x.1=none
  gn:(V.G.flatten.map (·.1)).Nodup
structure Rep (V:VS) (n:Nat) (G:List Led) (h:Heap) (S:Led) (T:BT) (m:Nat):Prop where
  size:h.objs.size=n+m
  le:V.n₁≤n
  keys:∃ E,S.map (·.1)=V.O.map (·.1)++E∧∀ a∈E,V.n₁≤a
  nodup:(S.map (·.1)).Nodup
  low:∀ a∈S.map (·.1),a<n
  own:∀ i o,T.get i=some o→i<m∧h.get? (n+i)=some o
  olds:∀ x∈S,h.get? x.1=some x.2
  keep:∀ b o,V.h₀.get? b=some o→b∉V.O.map (·.1)→h.get? b=some o
  gh:∀ x∈G.flatten,h.get? x.1=some x.2∧x.1<n∧x.1∉S.map (·.1)∧V.kt.get x.1=none
  gn:(G.flatten.map (·.1)).Nodup
  gkeys:∃ E,G=V.G++E∧∀ x∈E.flatten,V.n₁≤x.1
theorem nth_mem (l:Led) (n:Nat) (x:Addr × Obj) (h:nth l n=some x):x∈l:=by
  induction l generalizing n with
  | nil=>cases h
  | cons y l ih=>
    cases n with
    | zero=>cases h; exact .head _
    | succ n=>exact .tail _ (ih n h)
theorem upd_keys (l:Led) (n:Nat) (f:Obj→Obj):(upd l n f).map (·.1)=l.map (·.1):=by
  induction l generalizing n with
  | nil=>rfl
  | cons y l ih=>
    cases n with
    | zero=>rfl
    | succ n=>
      show y.1::(upd l n f).map (·.1)=_
      rw [ih]; rfl
theorem upd_mem (l:Led) (n:Nat) (a:Addr) (o:Obj) (f:Obj→Obj) (y:Addr × Obj) (hn:(l.map (·.1)).Nodup) (h:nth l n=some (a,o)) (hy:y∈upd l n f):y=(a,f o) ∨ (y∈l∧y.1≠a):=by
  induction l generalizing n with
  | nil=>cases h
  | cons x l ih=>
    rw [List.map_cons,List.nodup_cons] at hn
    cases n with
    | zero=>
      cases h
      rcases List.mem_cons.mp hy with rfl | hy
      · exact .inl rfl
      · exact .inr ⟨.tail _ hy,fun e=>hn.1 (by have:=List.mem_map_of_mem (f:=(·.1)) hy; rw [e] at this; exact this)⟩
    | succ n=>
      rcases List.mem_cons.mp hy with rfl | hy
      · refine .inr ⟨.head _,fun e=>hn.1 ?_⟩
        rw [e]
        exact List.mem_map_of_mem (f:=(·.1)) (nth_mem l n _ h)
      · rcases ih n hn.2 h hy with e | ⟨e,q⟩
        · exact .inl e
        · exact .inr ⟨.tail _ e,q⟩
section
variable {V:VS} {n:Nat} {G:List Led} {h:Heap} {S:Led} {T:BT} {m:Nat}
theorem Rep.start (O:V.Ok):Rep V V.n₁ V.G V.h₀ V.O .nil 0:=⟨O.size,Nat.le_refl _,⟨[],by simp,fun _ h=>(nomatch h)⟩,O.nodup,fun a ha=>by
  obtain ⟨x,hx,rfl⟩:=List.mem_map.mp ha
  exact O.size ▸ Heap.lt_size (O.olds x hx),fun _ _ e=>(nomatch e),O.olds,fun _ _ e _=>e,fun x hx=>⟨(O.gh x hx).1,O.size ▸ Heap.lt_size (O.gh x hx).1,(O.gh x hx).2.1,(O.gh x hx).2.2⟩,O.gn,[],by simp,by simp⟩
theorem ktAt (O:V.Ok) {a:Addr} {o:Obj} (e:V.kt.get a=some o):V.h₀.get? a=some o:=by
  have z:=KT.Holds.get O.kt e
  rw [Nat.one_mul,Nat.add_zero] at z
  exact z
theorem Rep.kt (O:V.Ok) (D:Rep V n G h S T m) {a:Addr} {o:Obj} (e:V.kt.get a=some o):h.get? a=some o:=by
  refine D.keep a o (ktAt O e) fun hm=>?_
  obtain ⟨x,hx,rfl⟩:=List.mem_map.mp hm
  rw [O.apart x hx] at e; cases e
theorem Rep.lim (O:V.Ok) (D:Rep V n G h S T m):h.NoLimit:=by
  refine Heap.NoLimit.at O.lim fun o e=>?_
  obtain ⟨o',e'⟩:=Option.isSome_iff_exists.mp O.stat
  have:=ktAt O e'
  rw [this] at e; cases e
  exact D.kt O e'
theorem Rep.alloc (D:Rep V n G h S T m) {o:Obj} (hf:o.isFreed=false) (hg:((T.ins m o).get m).isSome=true):Rep V n G (h.push o) S (T.ins m o) (m+1):=by
  refine ⟨by rw [Heap.size_push,D.size,Nat.add_assoc],D.le,D.keys,D.nodup,D.low,fun i o' e=>?_,fun x hx=>Heap.get?_push_of_some _ (D.olds x hx),fun b o' e q=>Heap.get?_push_of_some _ (D.keep b o' e q),fun x hx=>⟨Heap.get?_push_of_some _ (D.gh x hx).1,(D.gh x hx).2⟩,D.gn,D.gkeys⟩
  rw [BT.get_ins o T m hg] at e
  by_cases hi:i=m
  · subst hi
    rw [if_pos rfl] at e
    cases e
    refine ⟨Nat.lt_succ_self _,?_⟩
    rw [← D.size]; exact Heap.get?_push_size _ hf
  · rw [if_neg hi] at e
    have z:=D.own i o' e
    exact ⟨Nat.lt_succ_of_lt z.1,Heap.get?_push_of_some _ z.2⟩
theorem Rep.updN (O:V.Ok) (D:Rep V n G h S T m) {j:Nat} {o:Obj} {f:Obj→Obj} (e:T.get j=some o) (hf:(f o).isFreed=false):Rep V n G (h.update (n+j) f) S (T.set j f) m:=by
  have z:=(D.own _ _ e).2
  have hs:Heap.SameBut (n+j) h (h.update (n+j) f):=Heap.SameBut.update ..
  refine ⟨by rw [hs.1,D.size],D.le,D.keys,D.nodup,D.low,fun i o' e'=>?_,fun x hx=>?_,fun b o' e' q=>?_,fun x hx=>⟨(hs.2 _ (Nat.ne_of_lt (Nat.lt_of_lt_of_le (D.gh x hx).2.1 (Nat.le_add_right ..)))).trans (D.gh x hx).1,(D.gh x hx).2⟩,D.gn,D.gkeys⟩
  · rw [BT.get_set] at e'
    by_cases hi:i=j
    · subst hi
      rw [if_pos rfl,e] at e'
      cases e'
      refine ⟨(D.own _ _ e).1,?_⟩
      first | exact Heap.get?_update_self f z hf | exact Heap.get?_update_self _ z hf
    · rw [if_neg hi] at e'
      have y:=D.own i o' e'
      exact ⟨y.1,(hs.2 _ fun z=>hi (Nat.add_left_cancel z)).trans y.2⟩
  · have l:=D.low _ (List.mem_map_of_mem hx)
    exact (hs.2 _ (Nat.ne_of_lt (Nat.lt_of_lt_of_le l (Nat.le_add_right ..)))).trans (D.olds x hx)
  · have l:b<n:=Nat.lt_of_lt_of_le (O.size ▸ Heap.lt_size e') D.le
    exact (hs.2 _ (Nat.ne_of_lt (Nat.lt_of_lt_of_le l (Nat.le_add_right ..)))).trans (D.keep b o' e' q)
theorem Rep.apartE (O:V.Ok) (D:Rep V n G h S T m) {a b:Addr} {o:Obj} (ha:a∈S.map (·.1)) (e:V.h₀.get? b=some o) (q:b∉V.O.map (·.1)):b≠a:=fun z=>by
  obtain ⟨E,hE,hl⟩:=D.keys
  rw [hE,List.mem_append] at ha
  subst z
  rcases ha with ha | ha
  · exact q ha
  · exact absurd (O.size ▸ Heap.lt_size e:b<V.n₁) (Nat.not_lt.mpr (hl _ ha))
theorem Rep.updO (O:V.Ok) (D:Rep V n G h S T m) {j:Nat} {a:Addr} {o:Obj} {f:Obj→Obj} (e:nth S j=some (a,o)) (hf:(f o).isFreed=false):Rep V n G (h.update a f) (upd S j f) T m:=by
  have z:=D.olds _ (nth_mem _ _ _ e)
  have hs:Heap.SameBut a h (h.update a f):=Heap.SameBut.update ..
  have ha:a∈S.map (·.1):=List.mem_map_of_mem (f:=(·.1)) (nth_mem _ _ _ e)
  have la:=D.low _ ha
  refine ⟨by rw [hs.1,D.size],D.le,by rw [upd_keys]; exact D.keys,by rw [upd_keys]; exact D.nodup,by rw [upd_keys]; exact D.low,fun i o' e'=>?_,fun x hx=>?_,fun b o' e' q=>?_,fun x hx=>⟨(hs.2 _ fun q=>(D.gh x hx).2.2.1 (by rw [q]; exact ha)).trans (D.gh x hx).1,(D.gh x hx).2.1,by rw [upd_keys]; exact (D.gh x hx).2.2.1,(D.gh x hx).2.2.2⟩,D.gn,D.gkeys⟩
  · have y:=D.own i o' e'
    exact ⟨y.1,(hs.2 _ (Nat.ne_of_gt (Nat.lt_of_lt_of_le la (Nat.le_add_right ..)))).trans y.2⟩
  · rcases upd_mem _ _ _ _ _ _ D.nodup e hx with rfl | ⟨hm,hne⟩
    · show (h.update a f).get? a=some (f o)
      first | exact Heap.get?_update_self f z hf | exact Heap.get?_update_self _ z hf
    · exact (hs.2 _ hne).trans (D.olds x hm)
  · exact (hs.2 _ (D.apartE O ha e' q)).trans (D.keep b o' e' q)
end
noncomputable abbrev StK:=List (Code × Pos)→Sem Fin
structure Nv where
  a:Nat→Nat
  o:Nat→Obj
  x:Nat→Value
  f:Nat→Nat→Nat
structure Sm where
  c:Code
  mpre:Led
  rpre:Led
  post:Nv→Led
  news:Nv→Led
  res:Nv→Result
  gens:List GenState:=[]
  sz:Option Nat:=none
structure It where
  q:Nat
  keep:List Nat
  mx:List Nat
  rx:List Nat
  s:Sm
  gx:List Nat:=[]
  gn:Option Nat:=none
inductive Its where
  | nil
  | cons (it:It) (rest:Nv→Its)
  | swap (t₀ t₁:Sem Fin) (rest:Its)
structure Om where
  p:Pos
  v:Nv
structure Cx where
  n:Nat
  tk:Nat
  its:Its
  ω:Nat→Om
  G:List Led
structure Core where
  c:Code
  md:Option (List Frame)
  κ:Kont
  t:Sem Fin
  S:Led
  T:BT
  m:Nat
  i:Nat
  gl:List GenState
  n:Nat
  tk:Nat
  G:List Led
set_option genInjectivity true in
inductive EV where
  | stk (k:StK)
  | core (x:Core)
  | code (c:Code)
  | led (L:Option Led)
  | tree (t:Sem Fin)
structure St where
  ok:Bool
  c:Code
  md:Option (List Frame)
  κ:Kont
  t:Sem Fin
  S:Led
  T:BT
  m:Nat
  i:Nat
  gl:List GenState
  ora:List Nat
  tr:List (Nat × Nat)
  eq:List (EV × EV)
  n:Nat
  tk:Nat
  G:List Led
noncomputable abbrev Rest:=Cx→Led→BT→Nat→Nat→List GenState→List Nat→List (Nat × Nat)→List (EV × EV)→St
noncomputable abbrev Fn:=Code→Option (List Frame)→Kont→Sem Fin→Rest
noncomputable def bad (c:Code) (md:Option (List Frame)) (κ:Kont) (t:Sem Fin):Rest:=fun X S T m i gl ora tr eq=>⟨false,c,md,κ,t,S,T,m,i,gl,ora,tr,eq,X.n,X.tk,X.G⟩
noncomputable def good (c:Code) (md:Option (List Frame)) (κ:Kont) (t:Sem Fin):Rest:=fun X S T m i gl ora tr eq=>match X with
  | ⟨n,tk,_,_,G⟩=>⟨true,c,md,κ,t,S,T,m,i,gl,ora,tr,eq,n,tk,G⟩
noncomputable def p0:Pos:=⟨0,0,0,0⟩
noncomputable def posOf:List (Code × Pos)→Pos
  | []=>p0
  | x::_=>x.2
noncomputable def behind:List (Code × Pos)→List (Code × Pos)
  | []=>[]
  | _::l=>l
noncomputable def notCaller:Code→Bool
  | .builtin id _=>PySem.W.Fast.neLit 35714603318786955769505017188 id
  | _=>true
noncomputable def wtc (c:Code):Nat:=match c with
  | .builtin _ _=>match notCaller c with
    | true=>5
    | false=>1000
  | .call _ _=>1
  | _=>2
noncomputable def wtf:List Frame→Nat
  | []=>0
  | f::fs=>Nat.add (wtc f.where_.1) (wtf fs)
noncomputable def kwt:Bool→Kont→Nat
  | true,.base=>0
  | true,.ret c _ _ κ=>Nat.add (wtc c) (kwt true κ)
  | true,.gen ..=>0
  | true,.genS ..=>0
  | false,.gen _ c _ κ=>Nat.add (wtc c) (kwt true κ)
  | false,.genS _ c fs _ κ=>Nat.add (Nat.add (wtf fs) (wtc c)) (kwt false κ)
  | false,.base=>0
  | false,.ret ..=>0
theorem frames_le (c:Code):c.frames≤3:=by
  unfold Code.frames
  split <;> first | omega | (split <;> omega)
theorem weight_le5 (c:Code):c.weight≤match notCaller c with | true=>5 | false=>1000:=by
  cases h:notCaller c with
  | false=>
    unfold Code.weight
    have:=frames_le c
    dsimp only
    repeat' split
    all_goals first | omega | (show _+300≤_; omega) | (simp only [claimMargin]; omega)
  | true=>
    have hc:c.isCaller=false:=by
      unfold Code.isCaller
      split
      · rename_i a
        have h':(!(PySem.code "claim.caller").beq 35714603318786955769505017188)=true:=h
        rw [show PySem.code "claim.caller" = 35714603318786955769505017188 from by decide +kernel] at h'
        exact absurd h' (by decide +kernel)
      · rfl
    unfold Code.weight
    rw [hc]
    have:=frames_le c
    dsimp only
    repeat' split
    all_goals first | omega | (rename_i q; exact absurd q (by decide)) | simp_all
theorem frames_one {c:Code} (h:∀ i a,c≠.builtin i a):c.frames≤1:=by
  unfold Code.frames
  split <;> first | exact absurd rfl (h _ _) | (split <;> omega)
theorem weight_one {c:Code} (h:∀ i a,c≠.builtin i a):c.weight≤1:=by
  have f:=frames_one h
  have a:c.isCreation=false:=by unfold Code.isCreation; split <;> first | exact absurd rfl (h _ _) | rfl
  have b:c.isGuard=false:=by unfold Code.isGuard; split <;> first | exact absurd rfl (h _ _) | rfl
  have d:c.isCaller=false:=by unfold Code.isCaller; split <;> first | exact absurd rfl (h _ _) | rfl
  unfold Code.weight
  rw [a,b,d]
  simpa using f
theorem weight_le (c:Code):c.weight≤wtc c:=by
  unfold wtc
  split
  · exact weight_le5 _
  · exact Nat.le_trans (weight_one (by intros; simp)) (by omega)
  · next h1 h2=>exact Nat.le_trans (weight_one (by intro i a e; exact h1 i a e)) (by omega)
theorem cUnits_le (c:Code):c.cUnits≤10:=by
  have:=frames_le c
  unfold Code.cUnits
  split <;> omega
theorem units_le2 (c:Code):c.cUnits≤2*wtc c:=by
  unfold wtc
  split
  · have:=cUnits_le (.builtin ‹_› ‹_›)
    split <;> omega
  · show 1≤_; omega
  · next h1 h2=>
    have f:=frames_one (c:=c) (by intro i a e; exact h1 i a e)
    unfold Code.cUnits
    split
    · exact absurd rfl (h1 _ _)
    · exact absurd rfl (h2 _ _)
    · omega
theorem wtf_depth:∀ fs:List Frame,frameCount (fs.map Frame.where_)≤wtf fs
  | []=>Nat.le_refl _
  | f::fs=>by
    have e:frameCount (f.where_::fs.map Frame.where_)=f.where_.1.weight+frameCount (fs.map Frame.where_):=frameCount_cons f.where_.1 f.where_.2 _
    show frameCount (f.where_::fs.map Frame.where_)≤wtc f.where_.1+wtf fs
    rw [e]
    have:=wtf_depth fs
    have:=weight_le f.where_.1
    omega
theorem wtf_units:∀ fs:List Frame,unitsOf (fs.map Frame.where_)≤2*wtf fs
  | []=>Nat.le_refl _
  | f::fs=>by
    have e:unitsOf (f.where_::fs.map Frame.where_)=f.where_.1.cUnits+unitsOf (fs.map Frame.where_):=unitsOf_cons f.where_.1 f.where_.2 _
    show unitsOf (f.where_::fs.map Frame.where_)≤2*(wtc f.where_.1+wtf fs)
    rw [e]
    have:=wtf_units fs
    have:=units_le2 f.where_.1
    omega
theorem kwt_depth (V:XV):∀ (b:Bool) (κ:Kont),(aroundOf V b κ).depth≤V.A₀.depth+kwt b κ
  | true,.base=>Nat.le_add_right ..
  | true,.ret c hd _ κ=>by
    have:=kwt_depth V true κ
    have:=weight_le c
    show (aroundOf V true κ).depth+c.weight≤V.A₀.depth+(wtc c+kwt true κ)
    omega
  | true,.gen ..=>Nat.le_add_right ..
  | true,.genS ..=>Nat.le_add_right ..
  | false,.gen _ c _ κ=>by
    have:=kwt_depth V true κ
    have:=weight_le c
    show (aroundOf V true κ).depth+c.weight≤V.A₀.depth+(wtc c+kwt true κ)
    omega
  | false,.genS _ c fs _ κ=>by
    have:=kwt_depth V false κ
    have:=weight_le c
    have:=wtf_depth fs
    show (aroundOf V false κ).depth+frameCount (fs.map Frame.where_)+c.weight≤V.A₀.depth+(wtf fs+wtc c+kwt false κ)
    omega
  | false,.base=>Nat.le_add_right ..
  | false,.ret ..=>Nat.le_add_right ..
theorem kwt_units (V:XV):∀ (b:Bool) (κ:Kont),(aroundOf V b κ).units≤V.A₀.units+2*kwt b κ
  | true,.base=>Nat.le_add_right ..
  | true,.ret c hd _ κ=>by
    have:=kwt_units V true κ
    have:=units_le2 c
    show (aroundOf V true κ).units+c.cUnits≤V.A₀.units+2*(wtc c+kwt true κ)
    omega
  | true,.gen ..=>Nat.le_add_right ..
  | true,.genS ..=>Nat.le_add_right ..
  | false,.gen _ c _ κ=>by
    have:=kwt_units V true κ
    have:=units_le2 c
    show (aroundOf V true κ).units+c.cUnits≤V.A₀.units+2*(wtc c+kwt true κ)
    omega
  | false,.genS _ c fs _ κ=>by
    have:=kwt_units V false κ
    have:=units_le2 c
    have:=wtf_units fs
    show (aroundOf V false κ).units+unitsOf (fs.map Frame.where_)+c.cUnits≤V.A₀.units+2*(wtf fs+wtc c+kwt false κ)
    omega
  | false,.base=>Nat.le_add_right ..
  | false,.ret ..=>Nat.le_add_right ..
noncomputable def quietK (c:Code):Bool:=match c with
  | .builtin _ _=>PySem.W.ZFast.zw17772548960776305114 c
  | .call _ _=>true
  | .func _ _=>true
  | .expr _ _=>true
  | .forLoop ..=>true
  | .whileLoop ..=>true
  | .block ..=>true
  | .compLoop ..=>true
  | .compStart ..=>true
  | _=>false
theorem quietK_ok {c:Code} (h:quietK c=true):c.quiet=true:=by
  unfold quietK at h
  split at h <;> first
    | (rw [← PySem.W.ZFast.ze17772548960776305114] at h; exact h)
    | rfl
    | cases h
noncomputable def lookO (V:VS) (n:Nat) (S:Led) (T:BT) (a:Addr) (q:Nat):Option (Addr × Obj):=match q with
  | 0=>match V.kt.get a with
    | some o=>some (a,o)
    | none=>none
  | q+1=>match Nat.beq (q % 2) 0 with
    | true=>match T.get (q / 2) with
      | some o=>some (n+q / 2,o)
      | none=>none
    | false=>nth S (q / 2)
theorem lookO_ok {V:VS} {n:Nat} {G:List Led} {h:Heap} {S:Led} {T:BT} {m:Nat} (O:V.Ok) (D:Rep V n G h S T m) {a:Addr} {q:Nat} {x:Addr × Obj} (e:lookO V n S T a q=some x):h.get? x.1=some x.2:=by
  unfold lookO at e
  split at e
  · split at e
    · rename_i o q; cases e; exact D.kt O q
    · cases e
  · split at e
    · split at e
      · rename_i o q; cases e; exact (D.own _ _ q).2
      · cases e
    · exact D.olds _ (nth_mem _ _ _ e)
noncomputable def skipL (V:VS) (t:Sem Fin):Sem Fin:=match t with
  | .load a _ k=>match V.kt.get a with
    | some o=>k o
    | none=>.unsupported ""
  | _=>.unsupported ""
noncomputable def room (md:Option (List Frame)) (κ:Kont) (c:Code):Bool:=match md with
  | none=>Nat.ble (Nat.add (wtc c) (kwt true κ)) 150
  | some fs=>Nat.ble (Nat.add (Nat.add (wtf fs) (wtc c)) (kwt false κ)) 150
noncomputable def roomAt:List String:=["call","compare","repr","comparison"]
noncomputable def whatOf:Nat→List String→String
  | _,[] => ""
  | 0,x::_=>x
  | n+1,_::l=>whatOf n l
noncomputable def stackQ (V:VS) (ih:Fn) (c:Code) (md:Option (List Frame)) (κ:Kont) (t:Sem Fin) (k:StK) (q:Nat) (ora':List Nat):Rest:=fun X S T m i gl ora tr eq=>match q with
  | 0=>ih c md κ (k [(c,p0)]) X S T m i gl ora' tr ((.stk fun st=>k ((c,posOf st)::behind st),.stk fun _=>k [(c,p0)])::eq)
  | 1=>match room md κ c with
    | true=>ih c md κ (skipL V (k [(c,p0)])) X S T m i gl ora' tr ((.stk k,.stk fun st=>PySem.W.R.bindR (tailOf enterF st) fun _=>skipL V (k [(c,p0)]))::eq)
    | false=>bad c md κ t X S T m i gl ora tr eq
  | 2=>match room md κ c with
    | true=>ih c md κ (skipL V (k [(c,p0)])) X S T m i gl ora' tr ((.stk k,.stk fun st=>PySem.W.R.bindR (tailOf wakeF st) fun _=>skipL V (k [(c,p0)]))::eq)
    | false=>bad c md κ t X S T m i gl ora tr eq
  | q+3=>match room md κ c with
    | true=>ih c md κ (k [(c,p0)]) X S T m i gl ora' tr ((.stk k,.stk fun st=>PySem.W.R.bindR (tailOf (roomF (whatOf q roomAt)) st) fun _=>k [(c,p0)])::eq)
    | false=>bad c md κ t X S T m i gl ora tr eq
noncomputable def stackR (V:VS) (ih:Fn) (c:Code) (md:Option (List Frame)) (κ:Kont) (t:Sem Fin) (k:StK):Rest:=fun X S T m i gl ora tr eq=>match ora with
  | []=>bad c md κ t X S T m i gl ora tr eq
  | q::ora'=>match Nat.beq q 999 with
    | false=>stackQ V ih c md κ t k q ora' X S T m i gl ora tr eq
    | true=>match X with
      | ⟨n,tk,its,ω,G⟩=>match its with
        | .swap t₀ t₁ rest=>ih c md κ t₁ ⟨n,tk,rest,ω,G⟩ S T m i gl ora' tr ((.tree t,.tree t₀)::eq)
        | .nil=>bad c md κ t ⟨n,tk,its,ω,G⟩ S T m i gl ora tr eq
        | .cons ..=>bad c md κ t ⟨n,tk,its,ω,G⟩ S T m i gl ora tr eq
noncomputable def wakeR (V:VS) (ih:Fn) (e:End) (c₀:Code) (md₀:Option (List Frame)) (κ₀:Kont) (t₀:Sem Fin):Rest:=fun X S T m i gl ora tr eq=>match ora with
  | []=>bad c₀ md₀ κ₀ t₀ X S T m i gl ora tr eq
  | j::ora'=>match κ₀ with
    | .gen g c k κ=>ih c none κ (k e.result) X S T m i (gl.set j e.genState) ora' ((g,V.ng+j)::tr) eq
    | .genS g c fs k κ=>ih c (some fs) κ (k e.result) X S T m i (gl.set j e.genState) ora' ((g,V.ng+j)::tr) eq
    | .base=>bad c₀ md₀ κ₀ t₀ X S T m i gl ora tr eq
    | .ret ..=>bad c₀ md₀ κ₀ t₀ X S T m i gl ora tr eq
noncomputable def retR (V:VS) (ih:Fn) (r:Result) (c₀:Code) (md:Option (List Frame)) (κ₀:Kont) (t₀:Sem Fin):Rest:=match md with
  | none=>match κ₀ with
    | .ret c _ k κ=>ih c none κ (k r)
    | .base=>bad c₀ md κ₀ t₀
    | .gen ..=>bad c₀ md κ₀ t₀
    | .genS ..=>bad c₀ md κ₀ t₀
  | some fs=>match fs with
    | []=>wakeR V ih (.ret r) c₀ md κ₀ t₀
    | f::fs=>match f with
      | .ret k _ _ _ c₁ _ _=>ih c₁ (some fs) κ₀ (k r)
      | .gen ..=>bad c₀ md κ₀ t₀
noncomputable def genK (md:Option (List Frame)) (g:Nat) (c:Code) (k:GenResult→Sem Fin) (κ:Kont):Kont:=match md with
  | none=>.gen g c k κ
  | some fs=>.genS g c fs k κ
noncomputable def ft (b1 b2 b3:Bool) (f:String→Bool) (x:String):Bool:=match Nat.beq (PySem.code x) 10139888712337904147300001983332972444938612 with
  | true=>b1
  | false=>match Nat.beq (PySem.code x) 2510650655181157320538776789020469319833841985448949215332 with
    | true=>b2
    | false=>match Nat.beq (PySem.code x) 41713534423588440486387129778652049616807117621888181212357554279 with
      | true=>b3
      | false=>f x
noncomputable def fp (P:Params) (q:Nat) (b:Bool):Params:=match q with
  | 0=>{ P with followText:=ft b (P.followText "comprehension-iter-twice") (P.followText "for-iterable-display-folded") P.followText }
  | 1=>{ P with followText:=ft (P.followText "special-get-raises") b (P.followText "for-iterable-display-folded") P.followText }
  | _+2=>{ P with followText:=ft (P.followText "special-get-raises") (P.followText "comprehension-iter-twice") b P.followText }
noncomputable def evens {α:Type} (π:Nat→α):Nat→α:=fun j=>π (2*j)
noncomputable def odds {α:Type} (π:Nat→α):Nat→α:=fun j=>π (2*j+1)
noncomputable def askR (V:VS) (sub:Nat→Fn) (ih:Fn) (c:Code) (md:Option (List Frame)) (κ:Kont) (t:Sem Fin) (k:Setting→Sem Fin):Rest:=fun X S T m i gl ora tr eq=>match ora with
  | []=>bad c md κ t X S T m i gl ora tr eq
  | q::ora1=>match q with
    | 0=>ih c md κ (k ⟨V.prog,V.w.params⟩) X S T m i gl ora1 tr eq
    | q+1=>match ora1 with
      | []=>bad c md κ t X S T m i gl ora tr eq
      | a::ora2=>match ora2 with
        | []=>bad c md κ t X S T m i gl ora tr eq
        | b::ora'=>match X with
          | ⟨n,tk,its,ω,G⟩=>match sub a c md κ (k ⟨V.prog,fp V.w.params q true⟩) ⟨n,tk,.nil,evens ω,G⟩ S T m i gl ora' tr eq with
            | ⟨ok1,c1,md1,κ1,t1,S1,T1,m1,i1,gl1,oraA,tr1,eq1,n1,tk1,G1⟩=>match ok1 with
              | false=>bad c md κ t X S T m i gl ora tr eq
              | true=>match sub b c md κ (k ⟨V.prog,fp V.w.params q false⟩) ⟨n,tk,.nil,evens (odds ω),G⟩ S T m i gl oraA tr1 eq1 with
                | ⟨ok2,c2,md2,κ2,t2,S2,T2,m2,i2,gl2,oraB,tr2,eq2,n2,tk2,G2⟩=>match ok2 with
                  | false=>bad c md κ t X S T m i gl ora tr eq
                  | true=>ih c1 md1 κ1 t1 ⟨n1,tk1,its,odds (odds ω),G1⟩ S1 T1 m1 i1 gl1 oraB tr2 ((.core ⟨c1,md1,κ1,t1,S1,T1,m1,i1,gl1,n1,tk1,G1⟩,.core ⟨c2,md2,κ2,t2,S2,T2,m2,i2,gl2,n2,tk2,G2⟩)::eq2)
noncomputable def keepL (n:Nat) (T:BT):List Nat→Led
  | []=>[]
  | j::l=>match T.get j with
    | some o=>(n+j,o)::keepL n T l
    | none=>keepL n T l
noncomputable def nthAll (S:Led):List Nat→Option Led
  | []=>some []
  | j::l=>match nth S j with
    | some x=>match nthAll S l with
      | some r=>some (x::r)
      | none=>none
    | none=>none
noncomputable def putA:List Nat→Led→Led→Led
  | [],S,_=>S
  | j::l,S,P=>match P with
    | []=>S
    | x::p=>putA l (upd S j fun _=>x.2) p
noncomputable def putAll (S:Led) (l:List Nat) (P:Led):Led:=putA l S P
noncomputable def apL:Led→Led→Led
  | [],b=>b
  | x::l,b=>x::apL l b
theorem apL_eq (a b:Led):apL a b=a++b:=by
  induction a with
  | nil=>rfl
  | cons x a ih=>show x::apL a b=x::(a++b); rw [ih]
noncomputable def memN (x:Nat):List Nat→Bool
  | []=>false
  | y::l=>match Nat.beq x y with
    | true=>true
    | false=>memN x l
noncomputable def nodupN:List Nat→Bool
  | []=>true
  | x::l=>match memN x l with
    | true=>false
    | false=>nodupN l
theorem memN_of {x:Nat} {l:List Nat} (h:memN x l=false):x∉l:=by
  induction l with
  | nil=>exact fun h=>nomatch h
  | cons y l ih=>
    unfold memN at h
    split at h
    · cases h
    · rename_i q
      intro hm
      rcases List.mem_cons.mp hm with rfl | hm
      · exact Nat.ne_of_beq_eq_false q rfl
      · exact ih h hm
theorem aW {l:List Nat} (h:nodupN l=true):l.Nodup:=by
  induction l with
  | nil=>exact List.nodup_nil
  | cons x l ih=>
    unfold nodupN at h
    split at h
    · cases h
    · rename_i q
      exact List.nodup_cons.mpr ⟨memN_of q,ih h⟩
noncomputable def takeL:Nat→Led→Led
  | 0,_=>[]
  | n+1,l=>match l with
    | []=>[]
    | x::l=>x::takeL n l
noncomputable def dropL:Nat→Led→Led
  | 0,l=>l
  | n+1,l=>match l with
    | []=>[]
    | _::l=>dropL n l
theorem takeL_eq (k:Nat) (l:Led):takeL k l=l.take k:=by
  induction k generalizing l with
  | zero=>rfl
  | succ k ih=>cases l with
    | nil=>rfl
    | cons x l=>exact congrArg (x::·) (ih l)
theorem dropL_eq (k:Nat) (l:Led):dropL k l=l.drop k:=by
  induction k generalizing l with
  | zero=>rfl
  | succ k ih=>cases l with
    | nil=>rfl
    | cons x l=>exact ih l
noncomputable def frontL (k:Option Nat) (l:Led):Led:=match k with
  | none=>l
  | some k=>takeL k l
noncomputable def apG:List Led→Led→List Led
  | [],b=>[b]
  | x::l,b=>x::apG l b
theorem apG_eq (G:List Led) (b:Led):apG G b=G++[b]:=by
  induction G with
  | nil=>rfl
  | cons x G ih=>show x::apG G b=_; rw [ih]; rfl
noncomputable def nthG:List Led→Nat→Option Led
  | [],_=>none
  | x::l,n=>match n with
    | 0=>some x
    | n+1=>nthG l n
noncomputable def gpick (G:List Led):List Nat→Option Led
  | []=>some []
  | j::l=>match nthG G j with
    | some x=>match l with
      | []=>some x
      | _::_=>match gpick G l with
        | some r=>some (apL x r)
        | none=>none
    | none=>none
noncomputable def calm (V:VS) (md:Option (List Frame)) (κ:Kont) (c:Code):Bool:=match md with
  | none=>match (aroundOf V.x true κ).handled with
    | none=>Nat.ble (Nat.add (wtc c) (kwt true κ)) 30
    | some _=>false
  | some fs=>match ((aroundOf V.x false κ).over c fs).handled with
    | none=>Nat.ble (Nat.add (Nat.add (wtf fs) (wtc c)) (kwt false κ)) 30
    | some _=>false
noncomputable def szTr (o:Option Nat) (k:Nat) (tr:List (Nat × Nat)):List (Nat × Nat):=match o with
  | none=>tr
  | some j=>(k,j)::tr
noncomputable def behindS (S:Led) (n:Nat) (T:BT) (it:It) (v:Nv):Led:=apL (putAll (apL S (keepL n T it.keep)) it.mx (it.s.post v)) (frontL it.gn (it.s.news v))
noncomputable def behindG (G:List Led) (it:It) (v:Nv):List Led:=match it.gn with
  | none=>G
  | some k=>apG G (dropL k (it.s.news v))
noncomputable def askL (S:Led) (G:List Led) (it:It):Option Led:=match nthAll S it.rx with
  | some a=>match gpick G it.gx with
    | some b=>some (apL a b)
    | none=>none
  | none=>none
noncomputable def sumR (V:VS) (ih:Fn) (c:Code) (md:Option (List Frame)) (κ:Kont) (t:Sem Fin) (c':Code) (hd:Option Value) (k:Result→Sem Fin) (it:It) (rest:Nv→Its) (n tk:Nat) (ω:Nat→Om) (G:List Led):Led→BT→Nat→Nat→List GenState→List Nat→List (Nat × Nat)→List (EV × EV)→St:=fun S T m i gl ora tr eq=>match hd with
  | some _=>bad c md κ t ⟨n,tk,.nil,ω,G⟩ S T m i gl ora tr eq
  | none=>match calm V md κ c with
    | false=>bad c md κ t ⟨n,tk,.nil,ω,G⟩ S T m i gl ora tr eq
    | true=>match Bool.and (Bool.and (nodupN it.keep) (nodupN it.gx)) (nodupN (it.mx++it.rx)) with
      | false=>bad c md κ t ⟨n,tk,.nil,ω,G⟩ S T m i gl ora tr eq
      | true=>ih c md κ (k (it.s.res (ω 0).v)) ⟨(ω 0).v.a 0,(ω 0).v.a 1,rest (ω 0).v,fun j=>ω (j+1),behindG G it (ω 0).v⟩ (behindS S n T it (ω 0).v) .nil 0 0 (gl++it.s.gens) ora (szTr it.s.sz (n+m) tr)
          ((.code c',.code it.s.c)::(.led (nthAll (apL S (keepL n T it.keep)) it.mx),.led (some it.s.mpre))::(.led (askL (apL S (keepL n T it.keep)) G it),.led (some it.s.rpre))::eq)
noncomputable def callIn (ih:Fn) (c:Code) (md:Option (List Frame)) (κ:Kont) (t:Sem Fin) (c':Code) (hd:Option Value) (g:Bool) (l:List Value) (k:Result→Sem Fin) (n tk:Nat) (its:Its) (ω:Nat→Om) (G:List Led):Led→BT→Nat→Nat→List GenState→List Nat→List (Nat × Nat)→List (EV × EV)→St:=match md with
  | none=>match okMark hd with
    | true=>ih c' none (.ret c hd k κ) (bh c') ⟨n,tk,its,ω,G⟩
    | false=>bad c md κ t ⟨n,tk,its,ω,G⟩
  | some fs=>ih c' (some (.ret k hd g l c (ω 0).p []::fs)) κ (bh c') ⟨n,tk,its,fun j=>ω (j+1),G⟩
noncomputable def callR (V:VS) (ih:Fn) (c:Code) (md:Option (List Frame)) (κ:Kont) (t:Sem Fin) (c':Code) (hd:Option Value) (g:Bool) (l:List Value) (k:Result→Sem Fin):Rest:=fun X=>match X with
  | ⟨n,tk,its,ω,G⟩=>match its with
    | .nil=>callIn ih c md κ t c' hd g l k n tk .nil ω G
    | .swap t₀ t₁ rest=>callIn ih c md κ t c' hd g l k n tk (.swap t₀ t₁ rest) ω G
    | .cons it rest=>match it with
      | ⟨q,kp,mx,rx,s,gx,gn⟩=>match q with
        | 0=>sumR V ih c md κ t c' hd k ⟨0,kp,mx,rx,s,gx,gn⟩ rest n tk ω G
        | q+1=>callIn ih c md κ t c' hd g l k n tk (.cons ⟨q,kp,mx,rx,s,gx,gn⟩ rest) ω G
noncomputable def a8 (V:VS) (sub:Nat→Fn) (ih:Fn) (c:Code) (md:Option (List Frame)) (κ:Kont) (t:Sem Fin):Rest:=match t with
  | .pure fin=>match fin with
    | .done f=>retR V ih (.ok f) c md κ t
    | .again c'=>match quietK c' with
      | true=>ih c' md κ (bh c')
      | false=>bad c md κ t
  | .raise e=>retR V ih (.error e) c md κ t
  | .rule _ k=>ih c md κ (k ())
  | .at _ k=>ih c md κ (k ())
  | .point _ k=>ih c md κ (k ())
  | .ask k=>askR V sub ih c md κ t k
  | .load a _ k=>fun X S T m i gl ora tr eq=>match ora with
    | []=>bad c md κ t X S T m i gl ora tr eq
    | q::ora'=>match X with
      | ⟨n,tk,its,ω,G⟩=>match Nat.beq q 999 with
        | false=>match lookO V n S T a q with
          | some x=>match x with
            | (b,o)=>ih c md κ (k o) ⟨n,tk,its,ω,G⟩ S T m i gl ora' ((a,b)::tr) eq
          | none=>bad c md κ t ⟨n,tk,its,ω,G⟩ S T m i gl ora tr eq
        | true=>match its with
          | .swap t₀ t₁ rest=>match ora' with
            | []=>bad c md κ t ⟨n,tk,its,ω,G⟩ S T m i gl ora tr eq
            | q'::ora''=>match lookO V n S T a q' with
              | some x=>match x with
                | (b,o)=>ih c md κ t₁ ⟨n,tk,rest,ω,G⟩ S T m i gl ora'' ((a,b)::tr) ((.tree (k o),.tree t₀)::eq)
              | none=>bad c md κ t ⟨n,tk,its,ω,G⟩ S T m i gl ora tr eq
          | .nil=>bad c md κ t ⟨n,tk,its,ω,G⟩ S T m i gl ora tr eq
          | .cons ..=>bad c md κ t ⟨n,tk,its,ω,G⟩ S T m i gl ora tr eq
  | .loadIfAlive a k=>fun X S T m i gl ora tr eq=>match ora with
    | []=>bad c md κ t X S T m i gl ora tr eq
    | q::ora'=>match X with
      | ⟨n,tk,its,ω,G⟩=>match lookO V n S T a q with
        | some x=>match x with
          | (b,o)=>ih c md κ (k (some o)) ⟨n,tk,its,ω,G⟩ S T m i gl ora' ((a,b)::tr) eq
        | none=>bad c md κ t ⟨n,tk,its,ω,G⟩ S T m i gl ora tr eq
  | .alloc o k=>fun X S T m i gl ora tr eq=>match o.isFreed with
    | true=>bad c md κ t X S T m i gl ora tr eq
    | false=>match (T.ins m o).get m with
      | some _=>match X with
        | ⟨n,tk,its,ω,G⟩=>ih c md κ (k (n+m)) ⟨n,tk,its,ω,G⟩ S (T.ins m o) (m+1) i gl ora tr eq
      | none=>bad c md κ t X S T m i gl ora tr eq
  | .update a _ f k=>fun X S T m i gl ora tr eq=>match ora with
    | []=>bad c md κ t X S T m i gl ora tr eq
    | q::ora'=>match q with
      | 0=>bad c md κ t X S T m i gl ora tr eq
      | q+1=>match Nat.beq (q % 2) 0 with
        | true=>match T.get (q / 2) with
          | some o=>match (f o).isFreed with
            | true=>bad c md κ t X S T m i gl ora tr eq
            | false=>match X with
              | ⟨n,tk,its,ω,G⟩=>ih c md κ (k ()) ⟨n,tk,its,ω,G⟩ S (T.set (q / 2) f) m i gl ora' ((a,n+q / 2)::tr) eq
          | none=>bad c md κ t X S T m i gl ora tr eq
        | false=>match nth S (q / 2) with
          | some x=>match (f x.2).isFreed with
            | true=>bad c md κ t X S T m i gl ora tr eq
            | false=>ih c md κ (k ()) X (upd S (q / 2) f) T m i gl ora' ((a,x.1)::tr) eq
          | none=>bad c md κ t X S T m i gl ora tr eq
  | .fresh k=>fun X S T m i gl ora tr eq=>match X with
    | ⟨n,tk,its,ω,G⟩=>ih c md κ (k (tk+i)) ⟨n,tk,its,ω,G⟩ S T m (i+1) gl ora tr eq
  | .handled own k=>match own with
    | false=>match md with
      | none=>ih c md κ (k (aroundOf V.x true κ).handled)
      | some fs=>ih c md κ (k ((aroundOf V.x false κ).over c fs).handled)
    | true=>bad c md κ t
  | .stack k=>stackR V ih c md κ t k
  | .call c' hd g l k=>callR V ih c md κ t c' hd g l k
  | .newGen c' k=>fun X S T m i gl ora tr eq=>ih c md κ (k (V.ng+gl.length)) X S T m i (gl++[.fresh c']) ora tr eq
  | .genState g k=>fun X S T m i gl ora tr eq=>match ora with
    | []=>bad c md κ t X S T m i gl ora tr eq
    | j::ora'=>match gl[j]? with
      | some gs=>ih c md κ (k gs.seen) X S T m i gl ora' ((g,V.ng+j)::tr) eq
      | none=>bad c md κ t X S T m i gl ora tr eq
  | .resume g r _ k=>fun X S T m i gl ora tr eq=>match ora with
    | []=>bad c md κ t X S T m i gl ora tr eq
    | j::ora'=>match gl[j]? with
      | some gs=>match gs with
        | .fresh c₀=>match r with
          | .send v=>match v with
            | .none=>ih c₀ (some []) (genK md g c k κ) (bh c₀) X S T m i (gl.set j .running) ora' ((g,V.ng+j)::tr) eq
            | _=>bad c md κ t X S T m i gl ora tr eq
          | .throw _=>bad c md κ t X S T m i gl ora tr eq
        | .suspended k₀ _ c₀ _ fs₀ _=>ih c₀ (some fs₀) (genK md g c k κ) (k₀ r) X S T m i (gl.set j .running) ora' ((g,V.ng+j)::tr) eq
        | .running=>bad c md κ t X S T m i gl ora tr eq
        | .finished=>bad c md κ t X S T m i gl ora tr eq
      | none=>bad c md κ t X S T m i gl ora tr eq
  | .yield v gd l k=>match md with
    | none=>bad c md κ t
    | some fs=>match gd with
      | true=>bad c md κ t
      | false=>match splitAtGen fs with
        | some _=>bad c md κ t
        | none=>match fs.any Frame.guarded with
          | true=>bad c md κ t
          | false=>fun X S T m i gl ora tr eq=>match X with
            | ⟨n,tk,its,ω,G⟩=>wakeR V ih (.susp v false l k c (ω 0).p fs) c md κ t ⟨n,tk,its,fun j=>ω (j+1),G⟩ S T m i gl ora tr eq
  | .unsupported _=>bad c md κ t
  | .finish _=>bad c md κ t
  | .register ..=>bad c md κ t
  | .choose ..=>bad c md κ t
  | .os ..=>bad c md κ t
  | .fork ..=>bad c md κ t
  | .thread _=>bad c md κ t
  | .await ..=>bad c md κ t
noncomputable def runB (V:VS) (sub:Nat→Fn):Nat→Fn
  | 0=>good
  | n+1=>a8 V sub (runB V sub n)
noncomputable def runL (V:VS):Nat→Nat→Fn
  | 0=>runB V fun _=>bad
  | l+1=>runB V (runL V l)
@[irreducible] noncomputable def run (V:VS) (n:Nat):Fn:=runL V 2 n
structure Base (kt:KT) (h:Heap):Prop where
  holds:kt.Holds h 1 0
  lim:h.NoLimit
  stat:(kt.get cStatics).isSome=true
  bound:∀ a,165≤a→kt.get a=none
  low:165≤h.objs.size
structure Calm (A:Around) (d u:Nat):Prop where
  handled:A.handled=none
  depth:2*A.depth≤d+780
  units:A.units≤u
theorem Calm.eq {A:Around} {d u:Nat} (h:Calm A d u):A=⟨none,A.depth,A.frames,A.guards,A.units⟩:=by
  obtain ⟨x,_,_,_,_⟩:=A
  have:x=none:=h.handled
  rw [this]
structure After (s s':Shared) (mu:List Addr):Prop where
  keep:∀ b o,s.heap.get? b=some o→b∉mu→s'.heap.get? b=some o
  size:s.heap.objs.size≤s'.heap.objs.size
  drawn:s'.drawn=s.drawn
  os:s'.os=s.os
theorem After.refl (s:Shared):After s s []:=⟨fun _ _ e _=>e,Nat.le_refl _,rfl,rfl⟩
theorem After.trans {s s' s'':Shared} {m m':List Addr} (a:After s s' m) (b:After s' s'' m') (hm:∀ x∈m',x∈m ∨ s.heap.objs.size≤x):After s s'' m:=
  ⟨fun x o e q=>b.keep x o (a.keep x o e q) fun hx=>by
      rcases hm x hx with h | h
      · exact q h
      · exact absurd (Heap.lt_size e) (Nat.not_lt.mpr h),
   Nat.le_trans a.size b.size,b.drawn.trans a.drawn,b.os.trans a.os⟩
theorem Base.after {kt:KT} {s s':Shared} {m:List Addr} (B:Base kt s.heap) (a:After s s' m) (hm:∀ x∈m,kt.get x=none):Base kt s'.heap:=by
  have k:∀ x o,kt.get x=some o→s.heap.get? x=some o:=fun x o e=>by
    have z:=KT.Holds.get B.holds e
    rw [Nat.one_mul,Nat.add_zero] at z
    exact z
  have k':∀ x o,kt.get x=some o→s'.heap.get? x=some o:=fun x o e=>a.keep x o (k x o e) fun hx=>by rw [hm x hx] at e; cases e
  refine ⟨?_,?_,B.stat,B.bound,Nat.le_trans B.low a.size⟩
  · -- the same words of the new heap
    have gen:∀ (t:KT) (s₀ b₀:Nat),(∀ j o,t.get j=some o→s'.heap.get? (s₀*j+b₀)=some o)→KT.Holds s'.heap s₀ b₀ t:=by
      intro t
      induction t with
      | nil=>intro _ _ _; trivial
      | node v l r ihl ihr=>
        intro s₀ b₀ H
        refine ⟨fun o e=>?_,ihl _ _ fun j o e=>?_,ihr _ _ fun j o e=>?_⟩
        · have:=H 0 o (by rw [KT.get_node,if_pos rfl]; exact e)
          rw [Nat.mul_zero,Nat.zero_add] at this
          exact this
        · have:=H (2*j+1) o (by rw [KT.get_node,if_neg (by omega),if_pos (by omega),show (2*j+1) / 2=j by omega]; exact e)
          rw [show 2*s₀*j+(s₀+b₀)=s₀*(2*j+1)+b₀ by rw [Nat.mul_add,Nat.mul_one,← Nat.mul_assoc,Nat.mul_comm s₀ 2]; omega]
          exact this
        · have:=H (2*j+2) o (by rw [KT.get_node,if_neg (by omega),if_neg (by omega),show (2*j+2) / 2-1=j by omega]; exact e)
          rw [show 2*s₀*j+(2*s₀+b₀)=s₀*(2*j+2)+b₀ by rw [Nat.mul_add,← Nat.mul_assoc,Nat.mul_comm s₀ 2]; omega]
          exact this
    exact gen kt 1 0 fun j o e=>by rw [Nat.one_mul,Nat.add_zero]; exact k' j o e
  · refine Heap.NoLimit.at B.lim fun o e=>?_
    obtain ⟨o',e'⟩:=Option.isSome_iff_exists.mp B.stat
    have:=k _ _ e'
    rw [this] at e; cases e
    exact k' _ _ e'
structure aT (kt:KT) (h:Heap) (L:Led):Prop where
  olds:∀ x∈L,h.get? x.1=some x.2
  nodup:(L.map (·.1)).Nodup
  apart:∀ x∈L,kt.get x.1=none
theorem aT.nil (kt:KT) (h:Heap):aT kt h []:=⟨fun _ h=>(nomatch h),List.nodup_nil,fun _ h=>(nomatch h)⟩
theorem aT.cons {kt:KT} {h:Heap} {L:Led} {a:Addr} {o:Obj} (K:aT kt h L) (e:h.get? a=some o) (n:a∉L.map (·.1)) (k:kt.get a=none):aT kt h ((a,o)::L):=
  ⟨fun x hx=>by rcases List.mem_cons.mp hx with rfl | hx; exact e; exact K.olds x hx,by rw [List.map_cons,List.nodup_cons]; exact ⟨n,K.nodup⟩,fun x hx=>by rcases List.mem_cons.mp hx with rfl | hx; exact k; exact K.apart x hx⟩
theorem nth_at (l:Led) (n:Nat) (x:Addr × Obj) (h:nth l n=some x):(l.map (·.1))[n]?=some x.1:=by
  induction l generalizing n with
  | nil=>cases h
  | cons y l ih=>
    cases n with
    | zero=>cases h; rfl
    | succ n=>exact ih n h
theorem aT.tail {kt:KT} {h:Heap} {x:Addr × Obj} {L:Led} (K:aT kt h (x::L)):aT kt h L:=
  ⟨fun y hy=>K.olds y (.tail _ hy),(List.nodup_cons.mp (by have:=K.nodup; rw [List.map_cons] at this; exact this)).2,fun y hy=>K.apart y (.tail _ hy)⟩
theorem aT.head {kt:KT} {h:Heap} {x:Addr × Obj} {L:Led} (K:aT kt h (x::L)):h.get? x.1=some x.2:=K.olds x (.head _)
theorem aT.at {kt:KT} {h:Heap} {L:Led} (K:aT kt h L) (j:Nat) {x:Addr × Obj} (e:nth L j=some x):h.get? x.1=some x.2:=K.olds x (nth_mem _ _ _ e)
theorem aT.sub {kt:KT} {h:Heap} {L L':Led} (K:aT kt h L) (ix:List Nat) (hx:ix.Nodup) (e:ix.map (nth L)=L'.map some):aT kt h L':=by
  induction ix generalizing L' with
  | nil=>cases L' with
    | nil=>exact aT.nil _ _
    | cons y L'=>cases e
  | cons i ix ih=>
    cases L' with
    | nil=>cases e
    | cons y L'=>
      rw [List.map_cons,List.map_cons] at e
      injection e with e1 e2
      rw [List.nodup_cons] at hx
      have K':=ih hx.2 e2
      obtain ⟨a,o⟩:=y
      refine K'.cons (K.at i e1) (fun hm=>?_) (K.apart _ (nth_mem _ _ _ e1))
      obtain ⟨z,hz,ez⟩:=List.mem_map.mp hm
      have hz':some z∈L'.map some:=List.mem_map_of_mem hz
      rw [← e2] at hz'
      obtain ⟨j,hj,ej⟩:=List.mem_map.mp hz'
      have a1:=nth_at _ _ _ e1
      have a2:=nth_at _ _ _ ej
      rw [ez] at a2
      have pw:=List.pairwise_iff_getElem.mp K.nodup
      obtain ⟨l1,g1⟩:=List.getElem?_eq_some_iff.mp a1
      obtain ⟨l2,g2⟩:=List.getElem?_eq_some_iff.mp a2
      have ee:=g1.trans g2.symm
      rcases Nat.lt_trichotomy i j with h | h | h
      · exact pw _ _ l1 l2 h ee
      · exact hx.1 (h ▸ hj)
      · exact pw _ _ l2 l1 h ee.symm
theorem aT.change {kt:KT} {h h':Heap} {L L':Led} (K:aT kt h L) (e:L'.map (·.1)=L.map (·.1)) (H:∀ x∈L',h'.get? x.1=some x.2):aT kt h' L':=
  ⟨H,e ▸ K.nodup,fun x hx=>by
    have:x.1∈L.map (·.1):=e ▸ List.mem_map_of_mem hx
    obtain ⟨y,hy,ey⟩:=List.mem_map.mp this
    rw [← ey]; exact K.apart y hy⟩
theorem aT.after {kt:KT} {s s':Shared} {L:Led} {mu:List Addr} (K:aT kt s.heap L) (F:After s s' mu) (h:∀ x∈L,x.1∉mu):aT kt s'.heap L:=
  ⟨fun x hx=>F.keep _ _ (K.olds x hx) (h x hx),K.nodup,K.apart⟩
theorem aT.set {kt:KT} {s s':Shared} {L:Led} {a:Addr} {o o':Obj} (K:aT kt s.heap L) (F:After s s' [a]) (j:Nat) (e:nth L j=some (a,o)) (h:s'.heap.get? a=some o'):aT kt s'.heap (upd L j fun _=>o'):=by
  refine K.change (upd_keys ..) fun x hx=>?_
  rcases upd_mem _ _ _ _ _ _ K.nodup e hx with rfl | ⟨hm,hne⟩
  · exact h
  · exact F.keep _ _ (K.olds x hm) (by simpa using hne)
structure Left (kt:KT) (st st':Shared) (s:Sm) (v:Nv):Prop where
  after:After st st' (s.mpre.map (·.1))
  size:st'.heap.objs.size=v.a 0
  toks:st'.toks=v.a 1
  gens:st'.gens=st.gens++s.gens.toArray
  post:∀ x∈s.post v,st'.heap.get? x.1=some x.2
  news:∀ x∈s.news v,st'.heap.get? x.1=some x.2∧st.heap.objs.size≤x.1
  nodup:((s.news v).map (·.1)).Nodup
noncomputable def SmOk (prog:Program) (w:World) (kt:KT) (D:Nat) (s:Sm):Prop:=
  (∀ v,(s.post v).map (·.1)=s.mpre.map (·.1))∧∀ A st R,Calm A D (2*D)→Base kt st.heap→aT kt st.heap (s.mpre++s.rpre)→(∀ k,s.sz=some k→st.heap.objs.size=k) →
    (∀ st' v,Left kt st st' s v→R (s.res v) st')→codeAny (model prog w) A s.c R st
theorem SmOk.mono {prog:Program} {w:World} {kt:KT} {D D':Nat} {s:Sm} (h:SmOk prog w kt D s) (e:D'≤D):SmOk prog w kt D' s:=
  ⟨h.1,fun A st R C B K Z H=>h.2 A st R ⟨C.handled,Nat.le_trans C.depth (Nat.add_le_add_right e _),Nat.le_trans C.units (Nat.mul_le_mul_left 2 e)⟩ B K Z H⟩
noncomputable def sh (V:VS) (tk:Nat) (h:Heap) (gl:List GenState) (i:Nat):Shared:=⟨h,V.g₀++gl.toArray,V.d,tk+i,V.os⟩
noncomputable def Fine (V:VS) (n tk:Nat) (G:List Led) (c:Code) (md:Option (List Frame)) (κ:Kont) (t:Sem Fin) (S:Led) (T:BT) (m i:Nat) (gl:List GenState):Prop:=
  ∀ h,Rep V n G h S T m→X.Means V.x c md κ t (sh V tk h gl i)
noncomputable def FineS (V:VS) (r:St):Prop:=Fine V r.n r.tk r.G r.c r.md r.κ r.t r.S r.T r.m r.i r.gl
noncomputable def AllT (tr:List (Nat × Nat)):Prop:=∀ p∈tr,p.1=p.2
noncomputable def AllE (eq:List (EV × EV)):Prop:=∀ p∈eq,p.1=p.2
noncomputable def Res (V:VS) (r:St):Prop:=r.ok=true∧AllT r.tr∧AllE r.eq∧FineS V r
noncomputable def SwapOk (V:VS) (t₀ t₁:Sem Fin):Prop:=∀ c md κ s,X.Means V.x c md κ t₁ s→X.Means V.x c md κ t₀ s
noncomputable def ItsOk (V:VS):Its→Prop
  | .nil=>True
  | .swap t₀ t₁ rest=>SwapOk V t₀ t₁∧ItsOk V rest
  | .cons it rest=>SmOk V.prog V.w V.kt V.D it.s∧∀ v,ItsOk V (rest v)
theorem gens_get {V:VS} (O:V.Ok) (gl:List GenState) (j:Nat):(V.g₀++gl.toArray)[V.ng+j]?=gl[j]?:=by
  rw [Array.getElem?_append_right (by rw [O.gens]; exact Nat.le_add_right ..),O.gens,Nat.add_sub_cancel_left]
  simp
theorem gens_set {V:VS} (O:V.Ok) (tk:Nat) (h:Heap) (gl:List GenState) (i j:Nat) (x:GenState):(sh V tk h gl i).setGen (V.ng+j) x=sh V tk h (gl.set j x) i:=by
  unfold sh Shared.setGen
  congr 1
  show (V.g₀++gl.toArray).setIfInBounds (V.ng+j) x=V.g₀++(gl.set j x).toArray
  rw [Array.setIfInBounds_append_right (by rw [O.gens]; exact Nat.le_add_right ..),O.gens,Nat.add_sub_cancel_left]
  simp
theorem gens_push {V:VS} (gl:List GenState) (x:GenState):(V.g₀++gl.toArray).push x=V.g₀++(gl++[x]).toArray:=by
  apply Array.ext'
  simp only [Array.toList_push,Array.toList_append,List.append_assoc]
theorem gens_size {V:VS} (O:V.Ok) (gl:List GenState):(V.g₀++gl.toArray).size=V.ng+gl.length:=by
  rw [Array.size_append,O.gens]; simp
theorem keepL_mem {n:Nat} {T:BT} {l:List Nat} {x:Addr × Obj} (h:x∈keepL n T l):∃ j∈l,x.1=n+j∧T.get j=some x.2:=by
  induction l with
  | nil=>cases h
  | cons j l ih=>
    unfold keepL at h
    split at h
    · rename_i o e
      rcases List.mem_cons.mp h with rfl | h
      · exact ⟨j,.head _,rfl,e⟩
      · obtain ⟨i,hi,z⟩:=ih h; exact ⟨i,.tail _ hi,z⟩
    · obtain ⟨i,hi,z⟩:=ih h; exact ⟨i,.tail _ hi,z⟩
theorem keepL_nodup {n:Nat} {T:BT} {l:List Nat} (h:l.Nodup):((keepL n T l).map (·.1)).Nodup:=by
  induction l with
  | nil=>exact List.nodup_nil
  | cons j l ih=>
    rw [List.nodup_cons] at h
    unfold keepL
    split
    · rw [List.map_cons,List.nodup_cons]
      refine ⟨fun hm=>?_,ih h.2⟩
      obtain ⟨x,hx,ex⟩:=List.mem_map.mp hm
      obtain ⟨i,hi,z,_⟩:=keepL_mem hx
      have:i=j:=Nat.add_left_cancel (z.symm.trans ex)
      exact h.1 (this ▸ hi)
    · exact ih h.2
theorem nthAll_map {S M:Led} {l:List Nat} (h:nthAll S l=some M):l.map (nth S)=M.map some:=by
  induction l generalizing M with
  | nil=>cases h; rfl
  | cons j l ih=>
    unfold nthAll at h
    split at h
    · rename_i x ex
      split at h
      · rename_i r er
        cases h
        rw [List.map_cons,List.map_cons,ex,ih er]
      · cases h
    · cases h
theorem nthAll_mem {S M:Led} {l:List Nat} (h:nthAll S l=some M):∀ x∈M,x∈S:=by
  intro x hx
  have z:=nthAll_map h
  have:some x∈M.map some:=List.mem_map_of_mem hx
  rw [← z] at this
  obtain ⟨j,_,ej⟩:=List.mem_map.mp this
  exact nth_mem _ _ _ ej
theorem nth_upd_key (S:Led) (j i:Nat) (f:Obj→Obj):(nth (upd S j f) i).map (·.1)=(nth S i).map (·.1):=by
  induction S generalizing j i with
  | nil=>rfl
  | cons x S ih=>
    cases j with
    | zero=>cases i <;> rfl
    | succ j=>
      cases i with
      | zero=>rfl
      | succ i=>exact ih j i
theorem nthAll_upd_key {S M:Led} {l:List Nat} {j:Nat} {f:Obj→Obj} (h:nthAll S l=some M):∃ M',nthAll (upd S j f) l=some M'∧M'.map (·.1)=M.map (·.1):=by
  induction l generalizing M with
  | nil=>cases h; exact ⟨[],rfl,rfl⟩
  | cons i l ih=>
    unfold nthAll at h
    split at h
    · rename_i x ex
      split at h
      · rename_i r er
        cases h
        obtain ⟨M',e,k⟩:=ih er
        have kk:=nth_upd_key S j i f
        rw [ex] at kk
        cases ey:nth (upd S j f) i with
        | none=>rw [ey] at kk; cases kk
        | some y=>
          rw [ey] at kk
          injection kk with kk
          exact ⟨y::M',by simp [nthAll,ey,e],by simp [kk,k]⟩
      · cases h
    · cases h
theorem putAll_keys (S:Led) (l:List Nat) (P:Led):(putAll S l P).map (·.1)=S.map (·.1):=by
  induction l generalizing S P with
  | nil=>rfl
  | cons j l ih=>
    cases P with
    | nil=>rfl
    | cons x P=>
      exact (ih (upd S j fun _=>x.2) P).trans (upd_keys ..)
theorem putAll_mem {S M P:Led} {l:List Nat} (hn:(S.map (·.1)).Nodup) (e:nthAll S l=some M) (k:P.map (·.1)=M.map (·.1)) {x:Addr × Obj} (hx:x∈putAll S l P):x∈P ∨ (x∈S∧x.1∉M.map (·.1)):=by
  induction l generalizing S M P with
  | nil=>cases e; exact .inr ⟨hx,fun h=>nomatch h⟩
  | cons j l ih=>
    unfold nthAll at e
    split at e
    · rename_i y ey
      split at e
      · rename_i r er
        cases e
        cases P with
        | nil=>cases k
        | cons p P=>
          rw [List.map_cons,List.map_cons] at k
          injection k with k1 k2
          obtain ⟨M',e',k'⟩:=nthAll_upd_key (j:=j) (f:=fun _=>p.2) er
          rcases ih (by rw [upd_keys]; exact hn) e' (k2.trans k'.symm) hx with h | ⟨h,q⟩
          · exact .inl (.tail _ h)
          · rcases upd_mem _ _ _ _ _ _ hn ey h with rfl | ⟨hm,hne⟩
            · exact .inl (by rw [show ((y.1,p.2):Addr × Obj)=p from by rw [← k1]]; exact .head _)
            · refine .inr ⟨hm,fun hc=>?_⟩
              rw [List.map_cons] at hc
              rcases List.mem_cons.mp hc with hc | hc
              · exact hne hc
              · exact q (k' ▸ hc)
      · cases e
    · cases e
theorem aT.nthAll {kt:KT} {h:Heap} {S M N:Led} {a b:List Nat} (K:aT kt h S) (hx:(a++b).Nodup) (e:Mine.nthAll S a=some M) (e':Mine.nthAll S b=some N):aT kt h (M++N):=
  K.sub (a++b) hx (by rw [List.map_append,List.map_append,nthAll_map e,nthAll_map e'])
theorem rep_base {V:VS} {n:Nat} {G:List Led} {h:Heap} {S:Led} {T:BT} {m:Nat} (O:V.Ok) (D:Rep V n G h S T m):Base V.kt h:=by
  have B:Base V.kt V.h₀:=⟨O.kt,O.lim,O.stat,O.bound,O.size ▸ O.base⟩
  exact B.after (s:=⟨V.h₀,V.g₀,V.d,V.t₀,V.os⟩) (s':=⟨h,V.g₀,V.d,V.t₀,V.os⟩) (m:=V.O.map (·.1)) ⟨fun b o e q=>D.keep b o e q,by show V.h₀.objs.size≤h.objs.size; rw [D.size,O.size]; exact Nat.le_trans D.le (Nat.le_add_right ..),rfl,rfl⟩ fun x hx=>by
    obtain ⟨y,hy,rfl⟩:=List.mem_map.mp hx
    exact O.apart y hy
theorem rep_led {V:VS} {n:Nat} {G:List Led} {h:Heap} {S:Led} {T:BT} {m:Nat} (O:V.Ok) (D:Rep V n G h S T m) {l:List Nat} (hl:l.Nodup):aT V.kt h (S++keepL n T l):=by
  refine ⟨fun x hx=>?_,?_,fun x hx=>?_⟩
  · rcases List.mem_append.mp hx with hx | hx
    · exact D.olds x hx
    · obtain ⟨j,_,e,g⟩:=keepL_mem hx
      rw [e]; exact (D.own _ _ g).2
  · rw [List.map_append,List.nodup_append]
    refine ⟨D.nodup,keepL_nodup hl,fun a ha b hb=>?_⟩
    obtain ⟨x,hx,rfl⟩:=List.mem_map.mp hb
    obtain ⟨j,_,e,_⟩:=keepL_mem hx
    have:=D.low a ha
    rw [e]
    exact Nat.ne_of_lt (Nat.lt_of_lt_of_le this (Nat.le_add_right ..))
  · rcases List.mem_append.mp hx with hx | hx
    · have hm:=List.mem_map_of_mem (f:=(·.1)) hx
      obtain ⟨E,hE,hl⟩:=D.keys
      rw [hE,List.mem_append] at hm
      rcases hm with hm | hm
      · obtain ⟨y,hy,ey⟩:=List.mem_map.mp hm
        rw [← ey]; exact O.apart y hy
      · exact O.bound _ (Nat.le_trans O.base (hl _ hm))
    · obtain ⟨j,_,e,_⟩:=keepL_mem hx
      rw [e]
      exact O.bound _ (Nat.le_trans O.base (Nat.le_trans D.le (Nat.le_add_right ..)))
theorem nthG_eq (G:List Led) (j:Nat):nthG G j=G[j]?:=by
  induction G generalizing j with
  | nil=>rfl
  | cons x G ih=>cases j with
    | zero=>rfl
    | succ j=>exact ih j
theorem gpick_cons {G:List Led} {j:Nat} {l:List Nat} {P:Led} (e:gpick G (j::l)=some P):∃ x r,nthG G j=some x∧gpick G l=some r∧P=x++r:=by
  cases hx:nthG G j with
  | none=>simp [gpick,hx] at e
  | some x=>
    cases l with
    | nil=>
      simp [gpick,hx] at e
      subst e
      exact ⟨x,[],rfl,rfl,by simp⟩
    | cons k l=>
      cases hr:gpick G (k::l) with
      | none=>
        unfold gpick at e
        rw [hx] at e
        dsimp only at e
        rw [hr] at e
        cases e
      | some r=>
        unfold gpick at e
        rw [hx] at e
        dsimp only at e
        rw [hr] at e
        cases e
        exact ⟨x,r,rfl,rfl,apL_eq _ _⟩
theorem gpick_mem {G:List Led} {gx:List Nat} {P:Led} (e:gpick G gx=some P) {x:Addr × Obj} (hx:x∈P):∃ j∈gx,∃ L,G[j]?=some L∧x∈L:=by
  induction gx generalizing P with
  | nil=>cases e; cases hx
  | cons i gx ih=>
    obtain ⟨y,r,ey,er,rfl⟩:=gpick_cons e
    rcases List.mem_append.mp hx with hx | hx
    · exact ⟨i,.head _,y,by rw [← nthG_eq]; exact ey,hx⟩
    · obtain ⟨j,hj,z⟩:=ih er hx; exact ⟨j,.tail _ hj,z⟩
theorem gpick_flat {G:List Led} {gx:List Nat} {P:Led} (e:gpick G gx=some P) {x:Addr × Obj} (hx:x∈P):x∈G.flatten:=by
  obtain ⟨j,_,L,hL,hx⟩:=gpick_mem e hx
  exact List.mem_flatten.mpr ⟨L,List.mem_of_getElem? hL,hx⟩
theorem gpick_nodup {G:List Led} (hn:(G.flatten.map (·.1)).Nodup) {gx:List Nat} (hx:gx.Nodup) {P:Led} (e:gpick G gx=some P):(P.map (·.1)).Nodup:=by
  rw [List.map_flatten] at hn
  have hn':=List.pairwise_flatten.mp (show List.Pairwise (·≠·) _ from hn)
  have pw:=List.pairwise_iff_getElem.mp hn'.2
  have dis:∀ {i j:Nat} {A B:Led},G[i]?=some A→G[j]?=some B→i≠j→∀ x∈A,∀ y∈B,x.1≠y.1:=fun {i j A B} hA hB hij x hx y hy he=>by
    obtain ⟨li,ei⟩:=List.getElem?_eq_some_iff.mp hA
    obtain ⟨lj,ej⟩:=List.getElem?_eq_some_iff.mp hB
    subst ei ej
    rcases Nat.lt_or_gt_of_ne hij with h | h
    · have:=pw i j (by simpa using li) (by simpa using lj) h x.1 (by simpa using ⟨x.2,hx⟩) y.1 (by simpa using ⟨y.2,hy⟩)
      exact this he
    · have:=pw j i (by simpa using lj) (by simpa using li) h y.1 (by simpa using ⟨y.2,hy⟩) x.1 (by simpa using ⟨x.2,hx⟩)
      exact this he.symm
  induction gx generalizing P with
  | nil=>cases e; exact List.nodup_nil
  | cons i gx ih=>
    rw [List.nodup_cons] at hx
    obtain ⟨y,r,ey,er,rfl⟩:=gpick_cons e
    rw [nthG_eq] at ey
    rw [List.map_append,List.nodup_append]
    refine ⟨hn'.1 _ (List.mem_map_of_mem (List.mem_of_getElem? ey)),ih hx.2 er,fun a ha b hb=>?_⟩
    obtain ⟨x,hxx,rfl⟩:=List.mem_map.mp ha
    obtain ⟨z,hz,rfl⟩:=List.mem_map.mp hb
    obtain ⟨j,hj,L,hL,hzL⟩:=gpick_mem er hz
    exact dis ey hL (fun q=>hx.1 (q ▸ hj)) x hxx z hzL
theorem ask_led {V:VS} {n:Nat} {G:List Led} {h:Heap} {S:Led} {T:BT} {m:Nat} (O:V.Ok) (D:Rep V n G h S T m) {it:It} (hk:it.keep.Nodup) (hg:it.gx.Nodup) (hx:(it.mx++it.rx).Nodup) {M N:Led}
    (e1:nthAll (S++keepL n T it.keep) it.mx=some M) (e2:askL (S++keepL n T it.keep) G it=some N):aT V.kt h (M++N):=by
  unfold askL at e2
  split at e2
  · rename_i a ea
    split at e2
    · rename_i b eb
      cases e2
      rw [apL_eq]
      have K:=(rep_led O D hk).nthAll hx e1 ea
      refine ⟨fun x hx=>?_,?_,fun x hx=>?_⟩
      · rw [← List.append_assoc] at hx
        rcases List.mem_append.mp hx with hx | hx
        · exact K.olds x hx
        · exact (D.gh x (gpick_flat eb hx)).1
      · rw [← List.append_assoc,List.map_append,List.nodup_append]
        refine ⟨K.nodup,gpick_nodup D.gn hg eb,fun c hc d hd=>?_⟩
        obtain ⟨y,hy,rfl⟩:=List.mem_map.mp hc
        obtain ⟨z,hz,rfl⟩:=List.mem_map.mp hd
        have gz:=D.gh z (gpick_flat eb hz)
        have hys:y∈S++keepL n T it.keep:=by
          rcases List.mem_append.mp hy with hy | hy
          · exact nthAll_mem e1 y hy
          · exact nthAll_mem ea y hy
        rcases List.mem_append.mp hys with hys | hys
        · exact fun q=>gz.2.2.1 (q ▸ List.mem_map_of_mem hys)
        · obtain ⟨j,_,ej,_⟩:=keepL_mem hys
          rw [ej]
          exact Nat.ne_of_gt (Nat.lt_of_lt_of_le gz.2.1 (Nat.le_add_right ..))
      · rw [← List.append_assoc] at hx
        rcases List.mem_append.mp hx with hx | hx
        · exact K.apart x hx
        · exact (D.gh x (gpick_flat eb hx)).2.2.2
    · cases e2
  · cases e2
theorem front_mem {g:Option Nat} {L:Led} {x:Addr × Obj} (h:x∈frontL g L):x∈L:=by
  unfold frontL at h
  split at h
  · exact h
  · rw [takeL_eq] at h; exact List.mem_of_mem_take h
theorem behind_rep {V:VS} {n tk:Nat} {G:List Led} {h h':Heap} {S:Led} {T:BT} {m i:Nat} {gl:List GenState} (O:V.Ok) (D:Rep V n G h S T m) {it:It} (hk:it.keep.Nodup) {M:Led} {v:Nv}
    (e1:nthAll (S++keepL n T it.keep) it.mx=some M) (hp:(it.s.post v).map (·.1)=M.map (·.1)) (hM:M.map (·.1)=it.s.mpre.map (·.1)) {st':Shared} (eh:st'.heap=h') (F:Left V.kt (sh V tk h gl i) st' it.s v) :
    Rep V (v.a 0) (behindG G it v) h' (behindS S n T it v) .nil 0:=by
  subst eh
  have K:=rep_led O D hk
  have hkeys:(behindS S n T it v).map (·.1)=S.map (·.1)++((keepL n T it.keep).map (·.1)++(frontL it.gn (it.s.news v)).map (·.1)):=by
    unfold behindS
    rw [apL_eq,apL_eq,List.map_append,putAll_keys,List.map_append,List.append_assoc]
  have holds:∀ x∈behindS S n T it v,st'.heap.get? x.1=some x.2:=fun x hx=>by
    unfold behindS at hx
    rw [apL_eq,apL_eq] at hx
    rcases List.mem_append.mp hx with hx | hx
    · rcases putAll_mem K.nodup e1 hp hx with hx | ⟨hx,q⟩
      · exact F.post x hx
      · exact F.after.keep _ _ (K.olds x hx) (hM ▸ q)
    · exact (F.news x (front_mem hx)).1
  have hsz:(sh V tk h gl i).heap.objs.size=n+m:=D.size
  have nge:∀ x∈it.s.news v,n+m≤x.1:=fun x hx=>hsz ▸ (F.news x hx).2
  have sk_lt:∀ a∈S.map (·.1)++(keepL n T it.keep).map (·.1),a<n+m:=fun a ha=>by
    rw [← List.map_append] at ha
    obtain ⟨y,hy,rfl⟩:=List.mem_map.mp ha
    rw [← D.size]
    exact Heap.lt_size (K.olds y hy)
  have gold:∀ x∈G.flatten,st'.heap.get? x.1=some x.2∧x.1∉S.map (·.1)++(keepL n T it.keep).map (·.1):=fun x hx=>by
    have g:=D.gh x hx
    have q:x.1∉S.map (·.1)++(keepL n T it.keep).map (·.1):=fun hm=>by
      rcases List.mem_append.mp hm with hm | hm
      · exact g.2.2.1 hm
      · obtain ⟨y,hy,ey⟩:=List.mem_map.mp hm
        obtain ⟨j,_,ej,_⟩:=keepL_mem hy
        have:=g.2.1
        rw [← ey,ej] at this
        exact absurd this (Nat.not_lt.mpr (Nat.le_add_right ..))
    refine ⟨F.after.keep _ _ g.1 fun hb=>q ?_,q⟩
    rw [← hM] at hb
    obtain ⟨y,hy,ey⟩:=List.mem_map.mp hb
    rw [← ey,← List.map_append]
    exact List.mem_map_of_mem (nthAll_mem e1 y hy)
  have gnew:∀ x∈(behindG G it v).flatten,x∈G.flatten ∨ (∃ k,it.gn=some k∧x∈(it.s.news v).drop k):=fun x hx=>by
    unfold behindG at hx
    split at hx
    · exact .inl hx
    · rename_i k ek
      rw [apG_eq,List.flatten_append,dropL_eq] at hx
      rcases List.mem_append.mp hx with hx | hx
      · exact .inl hx
      · exact .inr ⟨k,ek,by simpa using hx⟩
  refine ⟨F.size,Nat.le_trans (Nat.le_trans D.le (Nat.le_add_right n m)) (by rw [← hsz,← F.size]; exact F.after.size),?_,?_,?_,fun _ _ e=>(nomatch e),holds,fun b o e q=>?_,fun x hx=>?_,?_,?_⟩
  · obtain ⟨E,hE,hl⟩:=D.keys
    refine ⟨E++((keepL n T it.keep).map (·.1)++(frontL it.gn (it.s.news v)).map (·.1)),by rw [hkeys,hE,List.append_assoc],fun a ha=>?_⟩
    rcases List.mem_append.mp ha with ha | ha
    · exact hl a ha
    · rcases List.mem_append.mp ha with ha | ha
      · obtain ⟨x,hx,rfl⟩:=List.mem_map.mp ha
        obtain ⟨j,_,ej,_⟩:=keepL_mem hx
        rw [ej]; exact Nat.le_trans D.le (Nat.le_add_right ..)
      · obtain ⟨x,hx,rfl⟩:=List.mem_map.mp ha
        exact Nat.le_trans (Nat.le_trans D.le (Nat.le_add_right n m)) (nge x (front_mem hx))
  · rw [hkeys,← List.append_assoc,List.nodup_append]
    refine ⟨by have:=K.nodup; rw [List.map_append] at this; exact this,?_,fun a ha b hb=>?_⟩
    · unfold frontL
      split
      · exact F.nodup
      · rw [takeL_eq,List.map_take]; exact F.nodup.sublist (List.take_sublist _ _)
    · obtain ⟨x,hx,rfl⟩:=List.mem_map.mp hb
      exact Nat.ne_of_lt (Nat.lt_of_lt_of_le (sk_lt a ha) (nge x (front_mem hx)))
  · intro a ha
    obtain ⟨x,hx,rfl⟩:=List.mem_map.mp ha
    rw [← F.size]
    exact Heap.lt_size (holds x hx)
  · refine F.after.keep b o (D.keep b o e q) fun hb=>?_
    rw [← hM] at hb
    obtain ⟨x,hx,rfl⟩:=List.mem_map.mp hb
    have hm:=nthAll_mem e1 x hx
    rcases List.mem_append.mp hm with hm | hm
    · exact D.apartE O (List.mem_map_of_mem hm) e q rfl
    · obtain ⟨j,_,ej,_⟩:=keepL_mem hm
      have:x.1<V.n₁:=O.size ▸ Heap.lt_size e
      rw [ej] at this
      exact absurd (Nat.lt_of_lt_of_le this D.le) (Nat.not_lt.mpr (Nat.le_add_right ..))
  · rw [hkeys,← List.append_assoc]
    rcases gnew x hx with hg | ⟨k,ek,hg⟩
    · refine ⟨(gold x hg).1,?_,fun hm=>?_,(D.gh x hg).2.2.2⟩
      · rw [← F.size]; exact Heap.lt_size (gold x hg).1
      · rcases List.mem_append.mp hm with hm | hm
        · exact (gold x hg).2 hm
        · obtain ⟨y,hy,ey⟩:=List.mem_map.mp hm
          have:=nge y (front_mem hy)
          rw [ey] at this
          exact absurd (D.gh x hg).2.1 (Nat.not_lt.mpr (Nat.le_trans (Nat.le_add_right ..) this))
    · have hn:=List.mem_of_mem_drop hg
      refine ⟨(F.news x hn).1,?_,fun hm=>?_,O.bound _ (Nat.le_trans O.base (Nat.le_trans (Nat.le_trans D.le (Nat.le_add_right n m)) (nge x hn)))⟩
      · rw [← F.size]; exact Heap.lt_size (F.news x hn).1
      · rcases List.mem_append.mp hm with hm | hm
        · exact absurd (sk_lt _ hm) (Nat.not_lt.mpr (nge x hn))
        · rw [ek] at hm
          unfold frontL at hm
          dsimp only at hm
          rw [takeL_eq] at hm
          have nd:=F.nodup
          rw [← List.take_append_drop k (it.s.news v),List.map_append,List.nodup_append] at nd
          exact nd.2.2 _ hm _ (List.mem_map_of_mem hg) rfl
  · unfold behindG
    split
    · exact D.gn
    · rename_i k ek
      rw [apG_eq,List.flatten_append,List.map_append,List.nodup_append,dropL_eq]
      refine ⟨D.gn,?_,fun a ha b hb=>?_⟩
      · simp only [List.flatten_cons,List.flatten_nil,List.append_nil,List.map_drop]
        exact F.nodup.sublist (List.drop_sublist _ _)
      · obtain ⟨x,hx,rfl⟩:=List.mem_map.mp ha
        obtain ⟨y,hy,rfl⟩:=List.mem_map.mp hb
        simp only [List.flatten_cons,List.flatten_nil,List.append_nil] at hy
        exact Nat.ne_of_lt (Nat.lt_of_lt_of_le (D.gh x hx).2.1 (Nat.le_trans (Nat.le_add_right ..) (nge y (List.mem_of_mem_drop hy))))
  · obtain ⟨E,hE,hl⟩:=D.gkeys
    unfold behindG
    split
    · exact ⟨E,hE,hl⟩
    · rename_i k ek
      refine ⟨E++[dropL k (it.s.news v)],by rw [apG_eq,hE,List.append_assoc],fun x hx=>?_⟩
      rw [List.flatten_append] at hx
      rcases List.mem_append.mp hx with hx | hx
      · exact hl x hx
      · simp only [List.flatten_cons,List.flatten_nil,List.append_nil,dropL_eq] at hx
        exact Nat.le_trans (Nat.le_trans D.le (Nat.le_add_right n m)) (nge x (List.mem_of_mem_drop hx))
theorem sum_ok {V:VS} (O:V.Ok) {it:It} (hs:SmOk V.prog V.w V.kt V.D it.s) {n tk:Nat} {G:List Led} {h:Heap} {S:Led} {T:BT} {m i:Nat} {gl:List GenState} (D:Rep V n G h S T m) (hk:nodupN it.keep=true) (hg:nodupN it.gx=true) (hx:nodupN (it.mx++it.rx)=true)
    (e1:nthAll (apL S (keepL n T it.keep)) it.mx=some it.s.mpre) (e2:askL (apL S (keepL n T it.keep)) G it=some it.s.rpre) {A:Around} {R:Result→Shared→Prop} (C:Calm A V.D (2*V.D)) (hz:∀ k,it.s.sz=some k→n+m=k)
    (H:∀ v h',Rep V (v.a 0) (behindG G it v) h' (behindS S n T it v) .nil 0→R (it.s.res v) (sh V (v.a 1) h' (gl++it.s.gens) 0)):codeAny (model V.prog V.w) A it.s.c R (sh V tk h gl i):=by
  rw [apL_eq] at e1 e2
  refine hs.2 A _ R C (rep_base O D) (ask_led O D (aW hk) (aW hg) (aW hx) e1 e2) (fun k e=>D.size.trans (hz k e)) fun st' v F=>?_
  have z:=H v st'.heap (behind_rep O D (aW hk) e1 (hs.1 v) rfl rfl F)
  have e:sh V (v.a 1) st'.heap (gl++it.s.gens) 0=st':=by
    have f:=F.after
    obtain ⟨sh',sg,sd,st,so⟩:=st'
    have h1:sg=V.g₀++gl.toArray++it.s.gens.toArray:=F.gens
    have h2:sd=V.d:=f.drawn
    have h3:so=V.os:=f.os
    have h4:st=v.a 1:=F.toks
    subst h1 h2 h3 h4
    unfold sh
    congr 1
    apply Array.ext'
    simp
  rw [e] at z
  exact z
noncomputable def consP (p:Om) (ω:Nat→Om):Nat→Om:=fun j=>match j with
  | 0=>p
  | j+1=>ω j
section
variable {V:VS} (O:V.Ok) (ih:Fn)
noncomputable def Hyp (V:VS) (ih:Fn):Prop:=∀ c md κ t n tk its G S T m i gl ora tr eq,ItsOk V its→(∀ ω,Res V (ih c md κ t ⟨n,tk,its,ω,G⟩ S T m i gl ora tr eq))→AllT tr∧AllE eq∧Fine V n tk G c md κ t S T m i gl
theorem allT_tail {p:Nat × Nat} {tr:List (Nat × Nat)} (h:AllT (p::tr)):p.1=p.2∧AllT tr:=⟨h p (.head _),fun q hq=>h q (.tail _ hq)⟩
theorem allE_tail {p:EV × EV} {tr:List (EV × EV)} (h:AllE (p::tr)):p.1=p.2∧AllE tr:=⟨h p (.head _),fun q hq=>h q (.tail _ hq)⟩
noncomputable def v0:Nv:=⟨fun _=>0,fun _=>⟨.none,none,.plain,#[]⟩,fun _=>.none,fun _ _=>0⟩
noncomputable def o0:Om:=⟨p0,v0⟩
noncomputable def pi0:Nat→Om:=fun _=>o0
include O
theorem wakeR_sound (IH:Hyp V ih) {e:End} {κ:Kont} {c₀:Code} {md₀:Option (List Frame)} {t₀:Sem Fin} {n tk:Nat} {G:List Led} {its:Its} {S:Led} {T:BT} {m i:Nat} {gl:List GenState} {ora:List Nat} {tr:List (Nat × Nat)} {eq:List (EV × EV)}
    (hI:ItsOk V its) (H:∀ ω,Res V (wakeR V ih e c₀ md₀ κ t₀ ⟨n,tk,its,ω,G⟩ S T m i gl ora tr eq)):AllT tr∧AllE eq∧∀ h,Rep V n G h S T m→wakeOf V.x κ e (sh V tk h gl i):=by
  cases ora with
  | nil=>exact absurd (H pi0).1 (by simp [wakeR,bad])
  | cons j ora=>
    cases κ with
    | base=>exact absurd (H pi0).1 (by simp [wakeR,bad])
    | ret=>exact absurd (H pi0).1 (by simp [wakeR,bad])
    | gen g c k κ=>
      obtain ⟨a,b,z⟩:=IH _ _ _ _ _ _ _ _ _ _ _ _ _ _ _ _ hI H
      obtain ⟨e1,a⟩:=allT_tail a
      refine ⟨a,b,fun h D=>?_⟩
      have y:=z h D
      dsimp only at e1
      rw [← gens_set O,← e1] at y
      exact y
    | genS g c fs k κ=>
      obtain ⟨a,b,z⟩:=IH _ _ _ _ _ _ _ _ _ _ _ _ _ _ _ _ hI H
      obtain ⟨e1,a⟩:=allT_tail a
      refine ⟨a,b,fun h D=>?_⟩
      have y:=z h D
      dsimp only at e1
      rw [← gens_set O,← e1] at y
      exact y
theorem retR_sound (IH:Hyp V ih) {r:Result} {c:Code} {md:Option (List Frame)} {κ:Kont} {t:Sem Fin} (ht:t=leafOf r) {n tk:Nat} {G:List Led} {its:Its} {S:Led} {T:BT} {m i:Nat} {gl:List GenState} {ora:List Nat} {tr:List (Nat × Nat)} {eq:List (EV × EV)}
    (hI:ItsOk V its) (H:∀ ω,Res V (retR V ih r c md κ t ⟨n,tk,its,ω,G⟩ S T m i gl ora tr eq)):AllT tr∧AllE eq∧Fine V n tk G c md κ t S T m i gl:=by
  cases md with
  | none=>
    cases κ with
    | base=>exact absurd (H pi0).1 (by simp [retR,bad])
    | gen=>exact absurd (H pi0).1 (by simp [retR,bad])
    | genS=>exact absurd (H pi0).1 (by simp [retR,bad])
    | ret c₁ hd k κ=>
      obtain ⟨a,b,z⟩:=IH _ _ _ _ _ _ _ _ _ _ _ _ _ _ _ _ hI H
      refine ⟨a,b,fun h D=>?_⟩
      have key:endOf V.x (.ret c₁ hd k κ) r (sh V tk h gl i):=z h D
      cases r with
      | ok f=>subst ht; exact y_pure _ _ _ _ _ _ _ _ _ (y_done _ _ _ _ _ _ key)
      | error e=>subst ht; exact y_raise _ _ _ _ _ _ _ _ _ (y_err _ _ _ key)
  | some fs=>
    cases fs with
    | nil=>
      obtain ⟨a,b,z⟩:=wakeR_sound O ih IH hI H
      exact ⟨a,b,fun h D=>s_end _ _ _ _ _ _ r t ht (z h D)⟩
    | cons f fs=>
      cases f with
      | gen=>exact absurd (H pi0).1 (by simp [retR,bad])
      | ret k hd g l c₁ p₁ kp=>
        obtain ⟨a,b,z⟩:=IH _ _ _ _ _ _ _ _ _ _ _ _ _ _ _ _ hI H
        exact ⟨a,b,fun h D=>s_pop _ _ _ _ _ _ _ r t ht k hd g l c₁ p₁ kp (z h D)⟩
theorem room_depth {md:Option (List Frame)} {κ:Kont} {c:Code} (h:room md κ c=true) :
    (match md with | none=>(aroundOf V.x true κ).under c | some fs=>(aroundOf V.x false κ).over c fs).depth<recursionLimit∧(match md with | none=>(aroundOf V.x true κ).under c | some fs=>(aroundOf V.x false κ).over c fs).units<cLine:=by
  have hd:V.A₀.depth+150<recursionLimit:=O.depth
  have hu:V.A₀.units+300<cLine:=O.units
  have w:=weight_le c
  have u:=units_le2 c
  cases md with
  | none=>
    have h':wtc c+kwt true κ≤150:=Nat.le_of_ble_eq_true h
    have d:=kwt_depth V.x true κ
    have n:=kwt_units V.x true κ
    refine ⟨?_,?_⟩
    · show (aroundOf V.x true κ).depth+c.weight<recursionLimit
      have:(aroundOf V.x true κ).depth≤V.A₀.depth+kwt true κ:=d
      omega
    · show (aroundOf V.x true κ).units+c.cUnits<cLine
      have:(aroundOf V.x true κ).units≤V.A₀.units+2*kwt true κ:=n
      omega
  | some fs=>
    have h':wtf fs+wtc c+kwt false κ≤150:=Nat.le_of_ble_eq_true h
    have d:=kwt_depth V.x false κ
    have n:=kwt_units V.x false κ
    have fd:=wtf_depth fs
    have fu:=wtf_units fs
    refine ⟨?_,?_⟩
    · show (aroundOf V.x false κ).depth+frameCount (fs.map Frame.where_)+c.weight<recursionLimit
      have:(aroundOf V.x false κ).depth≤V.A₀.depth+kwt false κ:=d
      omega
    · show (aroundOf V.x false κ).units+unitsOf (fs.map Frame.where_)+c.cUnits<cLine
      have:(aroundOf V.x false κ).units≤V.A₀.units+2*kwt false κ:=n
      omega
omit O in
theorem stack_bind {g:Sem Unit} {k:StK} {K:Sem Fin} (hg:g=.stack (tailOf g)) (e:k=fun st=>PySem.W.R.bindR (tailOf g st) fun _=>K):Sem.stack k=g.bind fun _=>K:=by
  rw [hg]
  show Sem.stack k=Sem.stack fun st=>(tailOf (Sem.stack (tailOf g)) st).bind fun _=>K
  rw [e,← PySem.W.R.bindR_eq]
  rfl
omit O in
theorem means_bind {c:Code} {md:Option (List Frame)} {κ:Kont} {g:Sem Unit} {K:Sem Fin} {s:Shared}
    (hg:∀ (A:Around) (Q:Unit→Shared→Prop) (E:Value→Shared→Prop),A=(match md with | none=>(aroundOf V.x true κ).under c | some fs=>(aroundOf V.x false κ).over c fs)→Q () s→wpAny (model V.prog V.w) A g Q E s)
    (h:X.Means V.x c md κ K s):X.Means V.x c md κ (g.bind fun _=>K) s:=by
  cases md with
  | none=>exact wpOwn_bind (m:=g) (f:=fun _=>K) (wpOwn_of_wpAny (hg _ _ _ rfl h))
  | some fs=>
    rw [Sem.bind_eq_wrap]
    exact s_cmd _ _ _ _ _ _ (m:=g) (k:=fun _=>K) (hg _ _ _ rfl h)
theorem stackQ_sound (IH:Hyp V ih) {c:Code} {md:Option (List Frame)} {κ:Kont} {t:Sem Fin} {k:StK} (ht:t=.stack k) {n tk:Nat} {G:List Led} {its:Its} {S:Led} {T:BT} {m i:Nat} {gl:List GenState} {q:Nat} {ora' ora:List Nat} {tr:List (Nat × Nat)} {eq:List (EV × EV)}
    (hI:ItsOk V its) (H:∀ ω,Res V (stackQ V ih c md κ t k q ora' ⟨n,tk,its,ω,G⟩ S T m i gl ora tr eq)):AllT tr∧AllE eq∧Fine V n tk G c md κ t S T m i gl:=by
  subst ht
  match q with
  | 0=>
    obtain ⟨a,b,z⟩:=IH _ _ _ _ _ _ _ _ _ _ _ _ _ _ _ _ hI H
    obtain ⟨e1,b⟩:=allE_tail b
    refine ⟨a,b,fun h D=>?_⟩
    have y:=z h D
    have e2:∀ p below,k ((c,p)::below)=k [(c,p0)]:=fun p below=>congrFun (EV.stk.inj e1) ((c,p)::below)
    cases md with
    | none=>exact y_stack _ _ _ _ _ _ _ _ _ fun p below _=>by rw [e2]; exact y
    | some fs=>exact s_stack _ _ _ _ _ _ _ _ fun p below _=>by rw [e2]; exact y
  | 1=>
    have hr:room md κ c=true:=by
      cases hr:room md κ c with
      | true=>rfl
      | false=>exact absurd (H pi0).1 (by simp [stackQ,bad,hr])
    have H':∀ ω,Res V (ih c md κ (skipL V (k [(c,p0)])) ⟨n,tk,its,ω,G⟩ S T m i gl ora' tr ((.stk k,.stk fun st=>PySem.W.R.bindR (tailOf enterF st) fun _=>skipL V (k [(c,p0)]))::eq)):=fun ω=>by
      have:=H ω
      simp only [stackQ,hr] at this
      exact this
    obtain ⟨a,b,z⟩:=IH _ _ _ _ _ _ _ _ _ _ _ _ _ _ _ _ hI H'
    obtain ⟨e1,b⟩:=allE_tail b
    refine ⟨a,b,fun h D=>?_⟩
    rw [stack_bind (g:=enterF) (by rw [← enterF_eq]; rfl) (EV.stk.inj e1)]
    refine means_bind (fun A Q E hA hq=>?_) (z h D)
    rw [← enterF_eq]
    exact wpAny_enterFrame (D.lim O) (by rw [hA]; exact (room_depth O hr).1) hq
  | 2=>
    have hr:room md κ c=true:=by
      cases hr:room md κ c with
      | true=>rfl
      | false=>exact absurd (H pi0).1 (by simp [stackQ,bad,hr])
    have H':∀ ω,Res V (ih c md κ (skipL V (k [(c,p0)])) ⟨n,tk,its,ω,G⟩ S T m i gl ora' tr ((.stk k,.stk fun st=>PySem.W.R.bindR (tailOf wakeF st) fun _=>skipL V (k [(c,p0)]))::eq)):=fun ω=>by
      have:=H ω
      simp only [stackQ,hr] at this
      exact this
    obtain ⟨a,b,z⟩:=IH _ _ _ _ _ _ _ _ _ _ _ _ _ _ _ _ hI H'
    obtain ⟨e1,b⟩:=allE_tail b
    refine ⟨a,b,fun h D=>?_⟩
    rw [stack_bind (g:=wakeF) (by rw [← wakeF_eq]; rfl) (EV.stk.inj e1)]
    refine means_bind (fun A Q E hA hq=>?_) (z h D)
    rw [← wakeF_eq]
    exact wpAny_roomToWake (D.lim O) (by rw [hA]; exact (room_depth O hr).1) hq
  | q+3=>
    have hr:room md κ c=true:=by
      cases hr:room md κ c with
      | true=>rfl
      | false=>exact absurd (H pi0).1 (by simp [stackQ,bad,hr])
    have H':∀ ω,Res V (ih c md κ (k [(c,p0)]) ⟨n,tk,its,ω,G⟩ S T m i gl ora' tr ((.stk k,.stk fun st=>PySem.W.R.bindR (tailOf (roomF (whatOf q roomAt)) st) fun _=>k [(c,p0)])::eq)):=fun ω=>by
      have:=H ω
      simp only [stackQ,hr] at this
      exact this
    obtain ⟨a,b,z⟩:=IH _ _ _ _ _ _ _ _ _ _ _ _ _ _ _ _ hI H'
    obtain ⟨e1,b⟩:=allE_tail b
    refine ⟨a,b,fun h D=>?_⟩
    rw [stack_bind (g:=roomF (whatOf q roomAt)) (by rw [← roomF_eq]; rfl) (EV.stk.inj e1)]
    refine means_bind (fun A Q E hA hq=>?_) (z h D)
    rw [← roomF_eq]
    exact wpAny_cRoom (by rw [hA]; exact (room_depth O hr).2) hq
theorem stackR_sound (IH:Hyp V ih) {c:Code} {md:Option (List Frame)} {κ:Kont} {t:Sem Fin} {k:StK} (ht:t=.stack k) {n tk:Nat} {G:List Led} {its:Its} {S:Led} {T:BT} {m i:Nat} {gl:List GenState} {ora:List Nat} {tr:List (Nat × Nat)} {eq:List (EV × EV)}
    (hI:ItsOk V its) (H:∀ ω,Res V (stackR V ih c md κ t k ⟨n,tk,its,ω,G⟩ S T m i gl ora tr eq)):AllT tr∧AllE eq∧Fine V n tk G c md κ t S T m i gl:=by
  cases ora with
  | nil=>exact absurd (H pi0).1 (by simp [stackR,bad])
  | cons q ora=>
    cases hb:Nat.beq q 999 with
    | false=>
      simp only [stackR,hb] at H
      exact stackQ_sound O ih IH ht hI H
    | true=>
      cases its with
      | nil=>exact absurd (H pi0).1 (by simp [stackR,bad,hb])
      | cons it rest=>exact absurd (H pi0).1 (by simp [stackR,bad,hb])
      | swap t₀ t₁ rest=>
        simp only [stackR,hb] at H
        obtain ⟨ha,hb,z⟩:=IH _ _ _ _ _ _ _ _ _ _ _ _ _ _ _ _ hI.2 H
        obtain ⟨e2,hb⟩:=allE_tail hb
        have e2:t=t₀:=EV.tree.inj e2
        exact ⟨ha,hb,fun h D=>e2 ▸ hI.1 _ _ _ _ (z h D)⟩
noncomputable def inter {α:Type} (a b:Nat→α):Nat→α:=fun j=>match j % 2 with
  | 0=>a (j / 2)
  | _+1=>b (j / 2)
omit O in
theorem evens_inter {α:Type} (a b:Nat→α):evens (inter a b)=a:=by
  funext j
  show (match (2*j) % 2 with | 0=>a (2*j / 2) | _+1=>b (2*j / 2))=a j
  rw [show (2*j) % 2=0 by omega,show 2*j / 2=j by omega]
omit O in
theorem odds_inter {α:Type} (a b:Nat→α):odds (inter a b)=b:=by
  funext j
  show (match (2*j+1) % 2 with | 0=>a ((2*j+1) / 2) | _+1=>b ((2*j+1) / 2))=b j
  rw [show (2*j+1) % 2=1 by omega,show (2*j+1) / 2=j by omega]
omit O in
theorem fp_eq (P:Params) (q:Nat):∃ b,P=fp P q b:=by
  have key:P.followText=ft (P.followText "special-get-raises") (P.followText "comprehension-iter-twice") (P.followText "for-iterable-display-folded") P.followText:=by
    funext x
    unfold ft
    have c1:PySem.code "special-get-raises" = 10139888712337904147300001983332972444938612:=by decide +kernel
    have c2:PySem.code "comprehension-iter-twice" = 2510650655181157320538776789020469319833841985448949215332:=by decide +kernel
    have c3:PySem.code "for-iterable-display-folded" = 41713534423588440486387129778652049616807117621888181212357554279:=by decide +kernel
    rw [← c1,← c2,← c3]
    split
    · rename_i h; rw [code_inj _ _ (Nat.eq_of_beq_eq_true h)]
    · split
      · rename_i h; rw [code_inj _ _ (Nat.eq_of_beq_eq_true h)]
      · split
        · rename_i h; rw [code_inj _ _ (Nat.eq_of_beq_eq_true h)]
        · rfl
  match q with
  | 0=>exact ⟨P.followText "special-get-raises",by unfold fp; rw [← key]⟩
  | 1=>exact ⟨P.followText "comprehension-iter-twice",by unfold fp; rw [← key]⟩
  | _+2=>exact ⟨P.followText "for-iterable-display-folded",by unfold fp; rw [← key]⟩
theorem askR_sound {sub:Nat→Fn} (IS:∀ n,Hyp V (sub n)) (IH:Hyp V ih) {c:Code} {md:Option (List Frame)} {κ:Kont} {t:Sem Fin} {k:Setting→Sem Fin} (ht:t=.ask k) {n tk:Nat} {G:List Led} {its:Its} {S:Led} {T:BT} {m i:Nat} {gl:List GenState} {ora:List Nat} {tr:List (Nat × Nat)} {eq:List (EV × EV)}
    (hI:ItsOk V its) (H:∀ ω,Res V (askR V sub ih c md κ t k ⟨n,tk,its,ω,G⟩ S T m i gl ora tr eq)):AllT tr∧AllE eq∧Fine V n tk G c md κ t S T m i gl:=by
  subst ht
  have skimmed:Fine V n tk G c md κ (k ⟨V.prog,V.w.params⟩) S T m i gl→Fine V n tk G c md κ (.ask k) S T m i gl:=fun z h D=>by
    cases md with
    | none=>exact y_skim _ _ _ _ _ _ _ _ _ 1 (z h D)
    | some fs=>exact s_skim _ _ _ _ _ _ _ _ 1 (z h D)
  match ora,H with
  | [],H=>exact absurd (H pi0).1 (by simp [askR,bad])
  | 0::ora,H=>
    obtain ⟨a,b,z⟩:=IH _ _ _ _ _ _ _ _ _ _ _ _ _ _ _ _ hI H
    exact ⟨a,b,skimmed z⟩
  | (q+1)::[],H=>exact absurd (H pi0).1 (by simp [askR,bad])
  | (q+1)::a::[],H=>exact absurd (H pi0).1 (by simp [askR,bad])
  | (q+1)::na::nb::ora',H=>
    have h0:ItsOk V .nil:=trivial
    have key:∀ πa,Res V (sub na c md κ (k ⟨V.prog,fp V.w.params q true⟩) ⟨n,tk,.nil,πa,G⟩ S T m i gl ora' tr eq)∧Fine V n tk G c md κ (k ⟨V.prog,fp V.w.params q false⟩) S T m i gl:=fun πa=>by
      have HH:∀ πb πc,Res V (askR V sub ih c md κ (.ask k) k ⟨n,tk,its,inter πa (inter πb πc),G⟩ S T m i gl ((q+1)::na::nb::ora') tr eq):=fun πb πc=>H _
      generalize hA:sub na c md κ (k ⟨V.prog,fp V.w.params q true⟩) ⟨n,tk,.nil,πa,G⟩ S T m i gl ora' tr eq=rA
      obtain ⟨ok1,c1,md1,κ1,t1,S1,T1,m1,i1,gl1,oraA,tr1,eq1,n1,tk1,G1⟩:=rA
      cases ok1 with
      | false=>exact absurd (HH pi0 pi0).1 (by simp [askR,bad,evens_inter,hA])
      | true=>
        have kB:∀ πb,Res V (sub nb c md κ (k ⟨V.prog,fp V.w.params q false⟩) ⟨n,tk,.nil,πb,G⟩ S T m i gl oraA tr1 eq1)∧Fine V n1 tk1 G1 c1 md1 κ1 t1 S1 T1 m1 i1 gl1:=fun πb=>by
          generalize hB:sub nb c md κ (k ⟨V.prog,fp V.w.params q false⟩) ⟨n,tk,.nil,πb,G⟩ S T m i gl oraA tr1 eq1=rB
          obtain ⟨ok2,c2,md2,κ2,t2,S2,T2,m2,i2,gl2,oraB,tr2,eq2,n2,tk2,G2⟩:=rB
          cases ok2 with
          | false=>exact absurd (HH πb pi0).1 (by simp [askR,bad,evens_inter,odds_inter,hA,hB])
          | true=>
            have H3:∀ πc,Res V (ih c1 md1 κ1 t1 ⟨n1,tk1,its,πc,G1⟩ S1 T1 m1 i1 gl1 oraB tr2 ((.core ⟨c1,md1,κ1,t1,S1,T1,m1,i1,gl1,n1,tk1,G1⟩,.core ⟨c2,md2,κ2,t2,S2,T2,m2,i2,gl2,n2,tk2,G2⟩)::eq2)):=fun πc=>by
              have:=HH πb πc
              simp only [askR,evens_inter,odds_inter,hA,hB] at this
              exact this
            obtain ⟨a,b,z⟩:=IH _ _ _ _ _ _ _ _ _ _ _ _ _ _ _ _ hI H3
            obtain ⟨e1,b2⟩:=allE_tail b
            have e2:=EV.core.inj e1
            injection e2 with h1 h2 h3 h4 h5 h6 h7 h8 h9 h10 h11 h12
            subst h1 h2 h3 h4 h5 h6 h7 h8 h9 h10 h11 h12
            exact ⟨⟨rfl,a,b2,z⟩,z⟩
        obtain ⟨a,b,z⟩:=IS nb _ _ _ _ _ _ _ _ _ _ _ _ _ _ _ _ h0 fun πb=>(kB πb).1
        exact ⟨⟨rfl,a,b,(kB pi0).2⟩,z⟩
    obtain ⟨a,b,z⟩:=IS na _ _ _ _ _ _ _ _ _ _ _ _ _ _ _ _ h0 fun πa=>(key πa).1
    refine ⟨a,b,skimmed ?_⟩
    obtain ⟨bb,eb⟩:=fp_eq V.w.params q
    rw [eb]
    cases bb with
    | true=>exact z
    | false=>exact (key pi0).2
theorem callIn_sound (IH:Hyp V ih) {c c':Code} {md:Option (List Frame)} {κ:Kont} {t:Sem Fin} {hd:Option Value} {g:Bool} {l:List Value} {k:Result→Sem Fin} {n tk:Nat} {G:List Led} {its:Its} {S:Led} {T:BT} {m i:Nat} {gl:List GenState} {ora:List Nat} {tr:List (Nat × Nat)} {eq:List (EV × EV)} (hI:ItsOk V its)
    (H:∀ ω,Res V (callIn ih c md κ t c' hd g l k n tk its ω G S T m i gl ora tr eq)):AllT tr∧AllE eq∧Fine V n tk G c md κ (.call c' hd g l k) S T m i gl:=by
  have den:∀ c,bh c=denote table c:=fun c=>by rw [denF_eq]
  cases md with
  | none=>
    cases q:okMark hd with
    | false=>exact absurd (H pi0).1 (by simp [callIn,bad,q])
    | true=>
      simp only [callIn,q] at H
      have hnb:hd≠some byPass:=by
        intro e
        subst e
        simp [okMark] at q
      obtain ⟨ha,hb,z⟩:=IH _ _ _ _ _ _ _ _ _ _ _ _ _ _ _ _ hI H
      refine ⟨ha,hb,fun h D=>?_⟩
      have y:=z h D
      rw [den] at y
      exact y_call _ _ _ _ _ _ _ _ _ _ _ _ _ hnb (y_code _ _ _ _ _ _ y)
  | some fs=>
    have key:∀ p,AllT tr∧AllE eq∧Fine V n tk G c' (some (.ret k hd g l c p []::fs)) κ (bh c') S T m i gl:=fun p=>IH _ _ _ _ _ _ _ _ _ _ _ _ _ _ _ _ hI fun ω=>H (consP ⟨p,v0⟩ ω)
    refine ⟨(key p0).1,(key p0).2.1,fun h D=>s_call _ _ _ _ _ _ _ _ _ _ _ _ fun p=>?_⟩
    have y:=(key p).2.2 h D
    rw [den] at y
    exact y
theorem calm_ok {md:Option (List Frame)} {κ:Kont} {c:Code} (h:calm V md κ c=true):Calm (match md with | none=>(aroundOf V.x true κ).under c | some fs=>(aroundOf V.x false κ).over c fs) V.D (2*V.D):=by
  have hd:=O.deep
  have hu:=O.deepU
  have w:=weight_le c
  have u:=units_le2 c
  cases md with
  | none=>
    cases e:(aroundOf V.x true κ).handled with
    | some v=>simp [calm,e] at h
    | none=>
      have h':wtc c+kwt true κ≤30:=Nat.le_of_ble_eq_true (by have z:=h; simp only [calm,e] at z; exact z)
      have d:=kwt_depth V.x true κ
      have n:=kwt_units V.x true κ
      refine ⟨?_,?_,?_⟩
      · show (none:Option Value).or (aroundOf V.x true κ).handled=none
        rw [e]; rfl
      · show 2*((aroundOf V.x true κ).depth+c.weight)≤V.D+780
        have:(aroundOf V.x true κ).depth≤V.A₀.depth+kwt true κ:=d
        omega
      · show (aroundOf V.x true κ).units+c.cUnits≤_
        have:(aroundOf V.x true κ).units≤V.A₀.units+2*kwt true κ:=n
        omega
  | some fs=>
    cases e:((aroundOf V.x false κ).over c fs).handled with
    | some v=>simp [calm,e] at h
    | none=>
      have h':wtf fs+wtc c+kwt false κ≤30:=Nat.le_of_ble_eq_true (by have z:=h; simp only [calm,e] at z; exact z)
      have d:=kwt_depth V.x false κ
      have n:=kwt_units V.x false κ
      have fd:=wtf_depth fs
      have fu:=wtf_units fs
      refine ⟨e,?_,?_⟩
      · show 2*((aroundOf V.x false κ).depth+frameCount (fs.map Frame.where_)+c.weight)≤V.D+780
        have:(aroundOf V.x false κ).depth≤V.A₀.depth+kwt false κ:=d
        omega
      · show (aroundOf V.x false κ).units+unitsOf (fs.map Frame.where_)+c.cUnits≤_
        have:(aroundOf V.x false κ).units≤V.A₀.units+2*kwt false κ:=n
        omega
theorem sumR_sound (IH:Hyp V ih) {c c':Code} {md:Option (List Frame)} {κ:Kont} {t:Sem Fin} {hd:Option Value} {g:Bool} {l:List Value} {k:Result→Sem Fin} {it:It} {rest:Nv→Its} {n tk:Nat} {G:List Led} {S:Led} {T:BT} {m i:Nat} {gl:List GenState} {ora:List Nat} {tr:List (Nat × Nat)} {eq:List (EV × EV)} (hi:SmOk V.prog V.w V.kt V.D it.s) (hI:∀ v,ItsOk V (rest v))
    (H:∀ ω,Res V (sumR V ih c md κ t c' hd k it rest n tk ω G S T m i gl ora tr eq)):AllT tr∧AllE eq∧Fine V n tk G c md κ (.call c' hd g l k) S T m i gl:=by
  cases hd with
  | some v=>exact absurd (H pi0).1 (by simp [sumR,bad])
  | none=>
    cases hc:calm V md κ c with
    | false=>exact absurd (H pi0).1 (by simp [sumR,bad,hc])
    | true=>
      cases hk:(nodupN it.keep && nodupN it.gx) && nodupN (it.mx++it.rx) with
      | false=>exact absurd (H pi0).1 (by simp [sumR,bad,hc,hk])
      | true=>
        have hk':=hk
        rw [Bool.and_eq_true,Bool.and_eq_true] at hk'
        have key:∀ v:Nv,AllT (szTr it.s.sz (n+m) tr)∧AllE ((EV.code c',EV.code it.s.c)::(.led (nthAll (apL S (keepL n T it.keep)) it.mx),.led (some it.s.mpre))::(.led (askL (apL S (keepL n T it.keep)) G it),.led (some it.s.rpre))::eq)∧Fine V (v.a 0) (v.a 1) (behindG G it v) c md κ (k (it.s.res v)) (behindS S n T it v) .nil 0 0 (gl++it.s.gens):=fun v=>IH _ _ _ _ _ _ _ _ _ _ _ _ _ _ _ _ (hI v) fun ω=>by
          have:=H (consP ⟨p0,v⟩ ω)
          simp only [sumR,hc,show Bool.and (Bool.and (nodupN it.keep) (nodupN it.gx)) (nodupN (it.mx++it.rx))=true from hk] at this
          exact this
        obtain ⟨a,b1,_⟩:=key v0
        obtain ⟨e1,b2⟩:=allE_tail b1
        obtain ⟨e2,b3⟩:=allE_tail b2
        obtain ⟨e3,b⟩:=allE_tail b3
        have e1:c'=it.s.c:=EV.code.inj e1
        have e2:=EV.led.inj e2
        have e3:=EV.led.inj e3
        subst e1
        have aa:AllT tr∧∀ k,it.s.sz=some k→n+m=k:=by
          cases hzz:it.s.sz with
          | none=>rw [hzz] at a; exact ⟨a,fun _ h=>nomatch h⟩
          | some j=>
            rw [hzz] at a
            obtain ⟨e,a⟩:=allT_tail a
            exact ⟨a,fun k h=>by cases h; exact e⟩
        refine ⟨aa.1,b,fun h D=>?_⟩
        have C:=calm_ok O hc
        cases md with
        | none=>
          refine y_call _ _ _ _ _ _ _ _ _ _ _ _ _ (by intro q; cases q) ?_
          exact sum_ok O hi D hk'.1.1 hk'.1.2 hk'.2 e2 e3 C aa.2 fun v h' D'=>(key v).2.2 h' D'
        | some fs=>
          refine s_cmd _ _ _ _ _ _ (m:=.call it.s.c none g l fun r=>.pure r) (k:=k) (y_start _ _ _ _ _ _ _ _ _ _ _ _ (by intro q; cases q) ?_)
          exact sum_ok O hi D hk'.1.1 hk'.1.2 hk'.2 e2 e3 C aa.2 fun v h' D'=>y_endOk _ _ _ _ _ _ _ _ _ _ rfl ((key v).2.2 h' D')
theorem callR_sound (IH:Hyp V ih) {c c':Code} {md:Option (List Frame)} {κ:Kont} {t:Sem Fin} {hd:Option Value} {g:Bool} {l:List Value} {k:Result→Sem Fin} {n tk:Nat} {G:List Led} {its:Its} {S:Led} {T:BT} {m i:Nat} {gl:List GenState} {ora:List Nat} {tr:List (Nat × Nat)} {eq:List (EV × EV)} (hI:ItsOk V its)
    (H:∀ ω,Res V (callR V ih c md κ t c' hd g l k ⟨n,tk,its,ω,G⟩ S T m i gl ora tr eq)):AllT tr∧AllE eq∧Fine V n tk G c md κ (.call c' hd g l k) S T m i gl:=by
  match its,hI,H with
  | .nil,hI,H=>exact callIn_sound O ih IH hI H
  | .swap ..,hI,H=>exact callIn_sound O ih IH hI H
  | .cons ⟨0,kp,mx,rx,s,gx,gn⟩ rest,hI,H=>exact sumR_sound O ih IH (it:=⟨0,kp,mx,rx,s,gx,gn⟩) hI.1 hI.2 H
  | .cons ⟨q+1,kp,mx,rx,s,gx,gn⟩ rest,hI,H=>exact callIn_sound O ih IH (its:=.cons ⟨q,kp,mx,rx,s,gx,gn⟩ rest) ⟨hI.1,hI.2⟩ H
theorem step_sound {sub:Nat→Fn} (IS:∀ n,Hyp V (sub n)) (IH:Hyp V ih):Hyp V (a8 V sub ih):=by
  intro c md κ t n tk its G S T m i gl ora tr eq hI H
  have den:∀ c,bh c=denote table c:=fun c=>by rw [denF_eq]
  cases t with
  | pure fin=>
    cases fin with
    | done f=>exact retR_sound O ih IH rfl hI H
    | again c'=>
      cases q:quietK c' with
      | false=>exact absurd (H pi0).1 (by simp [a8,bad,q])
      | true=>
        simp only [a8,q] at H
        obtain ⟨a,b,z⟩:=IH _ _ _ _ _ _ _ _ _ _ _ _ _ _ _ _ hI H
        refine ⟨a,b,fun h D=>?_⟩
        have y:=z h D
        rw [den] at y
        cases md with
        | none=>exact y_pure _ _ _ _ _ _ _ _ _ (y_again _ _ _ _ _ _ (quietK_ok q) (y_code _ _ _ _ _ _ y))
        | some fs=>exact s_again _ _ _ _ _ _ _ _ (quietK_ok q) y
  | raise e=>exact retR_sound O ih IH rfl hI H
  | rule tag k=>
    obtain ⟨a,b,z⟩:=IH _ _ _ _ _ _ _ _ _ _ _ _ _ _ _ _ hI H
    refine ⟨a,b,fun h D=>?_⟩
    cases md with
    | none=>exact y_skim _ _ _ _ _ _ _ _ _ 1 (z h D)
    | some fs=>exact s_skim _ _ _ _ _ _ _ _ 1 (z h D)
  | «at» q k=>
    obtain ⟨a,b,z⟩:=IH _ _ _ _ _ _ _ _ _ _ _ _ _ _ _ _ hI H
    refine ⟨a,b,fun h D=>?_⟩
    cases md with
    | none=>exact y_skim _ _ _ _ _ _ _ _ _ 1 (z h D)
    | some fs=>exact s_skim _ _ _ _ _ _ _ _ 1 (z h D)
  | point l k=>
    obtain ⟨a,b,z⟩:=IH _ _ _ _ _ _ _ _ _ _ _ _ _ _ _ _ hI H
    refine ⟨a,b,fun h D=>?_⟩
    cases md with
    | none=>exact y_skim _ _ _ _ _ _ _ _ _ 1 (z h D)
    | some fs=>exact s_skim _ _ _ _ _ _ _ _ 1 (z h D)
  | ask k=>exact askR_sound O ih IS IH rfl hI H
  | load a q k=>
    cases ora with
    | nil=>exact absurd (H pi0).1 (by simp [a8,bad])
    | cons j ora=>
      cases hb:Nat.beq j 999 with
      | false=>
        cases e:lookO V n S T a j with
        | none=>exact absurd (H pi0).1 (by simp [a8,bad,e,hb])
        | some x=>
          obtain ⟨b,o⟩:=x
          simp only [a8,e,hb] at H
          obtain ⟨ha,hb,z⟩:=IH _ _ _ _ _ _ _ _ _ _ _ _ _ _ _ _ hI H
          obtain ⟨e1,ha⟩:=allT_tail ha
          refine ⟨ha,hb,fun h D=>?_⟩
          have ho:=lookO_ok O D e
          dsimp only at e1 ho
          rw [← e1] at ho
          cases md with
          | none=>exact y_load _ _ _ _ _ _ _ _ _ _ _ _ _ _ _ _ ho (z h D)
          | some fs=>exact s_load _ _ _ _ _ _ _ _ _ _ _ _ _ _ _ ho (z h D)
      | true=>
        cases its with
        | nil=>exact absurd (H pi0).1 (by simp [a8,bad,hb])
        | cons it rest=>exact absurd (H pi0).1 (by simp [a8,bad,hb])
        | swap t₀ t₁ rest=>
         cases ora with
         | nil=>exact absurd (H pi0).1 (by simp [a8,bad,hb])
         | cons j' ora=>
          cases e:lookO V n S T a j' with
          | none=>exact absurd (H pi0).1 (by simp [a8,bad,e,hb])
          | some x=>
            obtain ⟨b,o⟩:=x
            simp only [a8,e,hb] at H
            obtain ⟨ha,hb,z⟩:=IH _ _ _ _ _ _ _ _ _ _ _ _ _ _ _ _ hI.2 H
            obtain ⟨e1,ha⟩:=allT_tail ha
            obtain ⟨e2,hb⟩:=allE_tail hb
            have e2:k o=t₀:=EV.tree.inj e2
            refine ⟨ha,hb,fun h D=>?_⟩
            have ho:=lookO_ok O D e
            dsimp only at e1 ho
            rw [← e1] at ho
            have y:=hI.1 _ _ _ _ (z h D)
            rw [← e2] at y
            cases md with
            | none=>exact y_load _ _ _ _ _ _ _ _ _ _ _ _ _ _ _ _ ho y
            | some fs=>exact s_load _ _ _ _ _ _ _ _ _ _ _ _ _ _ _ ho y
  | loadIfAlive a k=>
    cases ora with
    | nil=>exact absurd (H pi0).1 (by simp [a8,bad])
    | cons j ora=>
      cases e:lookO V n S T a j with
      | none=>exact absurd (H pi0).1 (by simp [a8,bad,e])
      | some x=>
        obtain ⟨b,o⟩:=x
        simp only [a8,e] at H
        obtain ⟨ha,hb,z⟩:=IH _ _ _ _ _ _ _ _ _ _ _ _ _ _ _ _ hI H
        obtain ⟨e1,ha⟩:=allT_tail ha
        refine ⟨ha,hb,fun h D=>?_⟩
        have ho:=lookO_ok O D e
        dsimp only at e1 ho
        rw [← e1] at ho
        cases md with
        | none=>exact y_alive _ _ _ _ _ _ _ _ _ _ _ _ _ _ _ ho (z h D)
        | some fs=>exact s_alive _ _ _ _ _ _ _ _ _ _ _ _ _ _ ho (z h D)
  | alloc o k=>
    cases hf:o.isFreed with
    | true=>exact absurd (H pi0).1 (by simp [a8,bad,hf])
    | false=>
      cases e:(T.ins m o).get m with
      | none=>exact absurd (H pi0).1 (by simp [a8,bad,hf,e])
      | some o'=>
        simp only [a8,hf,e] at H
        obtain ⟨ha,hb,z⟩:=IH _ _ _ _ _ _ _ _ _ _ _ _ _ _ _ _ hI H
        refine ⟨ha,hb,fun h D=>?_⟩
        have D':=D.alloc hf (by rw [e]; rfl)
        have y:=z (h.push o) D'
        have ea:h.objs.size=n+m:=D.size
        cases md with
        | none=>exact wpOwn_bind (m:=alloc o) (f:=k) (wpOwn_of_wpAny (wpAny_alloc (by show X.Means V.x c none κ (k h.objs.size) _; rw [ea]; exact y)))
        | some fs=>exact s_cmd _ _ _ _ _ _ (m:=PySem.alloc o) (k:=k) (wpAny_alloc (by show X.Means V.x c (some fs) κ (k h.objs.size) _; rw [ea]; exact y))
  | update a q f k=>
    cases ora with
    | nil=>exact absurd (H pi0).1 (by simp [a8,bad])
    | cons j ora=>
      match j with
      | 0=>exact absurd (H pi0).1 (by simp [a8,bad])
      | j+1=>
        cases p:Nat.beq (j % 2) 0 with
        | true=>
          cases e:T.get (j / 2) with
          | none=>exact absurd (H pi0).1 (by simp [a8,bad,p,e])
          | some o=>
            cases hf:(f o).isFreed with
            | true=>exact absurd (H pi0).1 (by simp [a8,bad,p,e,hf])
            | false=>
              simp only [a8,p,e,hf] at H
              obtain ⟨ha,hb,z⟩:=IH _ _ _ _ _ _ _ _ _ _ _ _ _ _ _ _ hI H
              obtain ⟨e1,ha⟩:=allT_tail ha
              refine ⟨ha,hb,fun h D=>?_⟩
              dsimp only at e1
              have ho:=(D.own _ _ e).2
              have y:=z _ (D.updN O e hf)
              rw [← e1] at ho y
              cases md with
              | none=>exact wpOwn_bind (m:=updatePart a q f) (f:=k) (wpOwn_of_wpAny (wpAny_updatePart ho y))
              | some fs=>exact s_cmd _ _ _ _ _ _ (m:=updatePart a q f) (k:=k) (wpAny_updatePart ho y)
        | false=>
          cases e:nth S (j / 2) with
          | none=>exact absurd (H pi0).1 (by simp [a8,bad,p,e])
          | some x=>
            obtain ⟨b,o⟩:=x
            cases hf:(f o).isFreed with
            | true=>exact absurd (H pi0).1 (by simp [a8,bad,p,e,hf])
            | false=>
              simp only [a8,p,e,hf] at H
              obtain ⟨ha,hb,z⟩:=IH _ _ _ _ _ _ _ _ _ _ _ _ _ _ _ _ hI H
              obtain ⟨e1,ha⟩:=allT_tail ha
              refine ⟨ha,hb,fun h D=>?_⟩
              dsimp only at e1
              have ho:=D.olds _ (nth_mem _ _ _ e)
              have y:=z _ (D.updO O e hf)
              dsimp only at ho
              rw [← e1] at ho y
              cases md with
              | none=>exact wpOwn_bind (m:=updatePart a q f) (f:=k) (wpOwn_of_wpAny (wpAny_updatePart ho y))
              | some fs=>exact s_cmd _ _ _ _ _ _ (m:=updatePart a q f) (k:=k) (wpAny_updatePart ho y)
  | fresh k=>
    obtain ⟨ha,hb,z⟩:=IH _ _ _ _ _ _ _ _ _ _ _ _ _ _ _ _ hI H
    refine ⟨ha,hb,fun h D=>?_⟩
    cases md with
    | none=>exact y_fresh _ _ _ _ _ _ _ _ _ _ _ _ _ (z h D)
    | some fs=>exact s_fresh _ _ _ _ _ _ _ _ _ _ _ _ (z h D)
  | handled own k=>
    cases own with
    | true=>exact absurd (H pi0).1 (by simp [a8,bad])
    | false=>
      cases md with
      | none=>
        obtain ⟨ha,hb,z⟩:=IH _ _ _ _ _ _ _ _ _ _ _ _ _ _ _ _ hI H
        exact ⟨ha,hb,fun h D=>y_handled _ _ _ _ _ _ _ _ _ (z h D)⟩
      | some fs=>
        obtain ⟨ha,hb,z⟩:=IH _ _ _ _ _ _ _ _ _ _ _ _ _ _ _ _ hI H
        exact ⟨ha,hb,fun h D=>s_handled _ _ _ _ _ _ _ _ (z h D)⟩
  | stack k=>exact stackR_sound O ih IH rfl hI H
  | call c' hd g l k=>exact callR_sound O ih IH hI H
  | newGen c' k=>
    obtain ⟨ha,hb,z⟩:=IH _ _ _ _ _ _ _ _ _ _ _ _ _ _ _ _ hI H
    refine ⟨ha,hb,fun h D=>?_⟩
    have y:=z h D
    cases md with
    | none=>exact y_newGen _ _ _ _ _ _ _ _ _ _ _ _ _ _ (by rw [gens_push,gens_size O]; exact y)
    | some fs=>exact s_newGen _ _ _ _ _ _ _ _ _ _ _ _ _ (by rw [gens_push,gens_size O]; exact y)
  | genState g k=>
    cases ora with
    | nil=>exact absurd (H pi0).1 (by simp [a8,bad])
    | cons j ora=>
      cases e:gl[j]? with
      | none=>exact absurd (H pi0).1 (by simp only [a8,bad,e]; simp)
      | some gs=>
        simp only [a8,e] at H
        obtain ⟨ha,hb,z⟩:=IH _ _ _ _ _ _ _ _ _ _ _ _ _ _ _ _ hI H
        obtain ⟨e1,ha⟩:=allT_tail ha
        refine ⟨ha,hb,fun h D=>?_⟩
        dsimp only at e1
        have hg:(V.g₀++gl.toArray)[g]?=some gs:=by rw [e1,gens_get O]; exact e
        cases md with
        | none=>exact y_genState _ _ _ _ _ _ _ _ _ _ gs hg (z h D)
        | some fs=>exact s_genState _ _ _ _ _ _ _ _ _ gs hg (z h D)
  | resume g r l k=>
    cases ora with
    | nil=>exact absurd (H pi0).1 (by simp [a8,bad])
    | cons j ora=>
      cases e:gl[j]? with
      | none=>exact absurd (H pi0).1 (by simp only [a8,bad,e]; simp)
      | some gs=>
        have fin:∀ (t₀:Sem Fin) (c₀:Code) (fs₀:List Frame),(∀ ω,Res V (ih c₀ (some fs₀) (genK md g c k κ) t₀ ⟨n,tk,its,ω,G⟩ S T m i (gl.set j .running) ora ((g,V.ng+j)::tr) eq)) →
            AllT tr∧AllE eq∧g=V.ng+j∧∀ h,Rep V n G h S T m→X.Means V.x c₀ (some fs₀) (genK md g c k κ) t₀ ((sh V tk h gl i).setGen g .running):=fun t₀ c₀ fs₀ H'=>by
          obtain ⟨ha,hb,z⟩:=IH _ _ _ _ _ _ _ _ _ _ _ _ _ _ _ _ hI H'
          obtain ⟨e1,ha⟩:=allT_tail ha
          dsimp only at e1
          refine ⟨ha,hb,e1,fun h D=>?_⟩
          have y:=z h D
          rw [← gens_set O,← e1] at y
          exact y
        cases gs with
        | running=>exact absurd (H pi0).1 (by simp only [a8,bad,e]; simp)
        | finished=>exact absurd (H pi0).1 (by simp only [a8,bad,e]; simp)
        | fresh c₀=>
          cases r with
          | throw=>exact absurd (H pi0).1 (by simp only [a8,bad,e]; simp)
          | send v=>
            cases v with
            | none=>
              simp only [a8,e] at H
              obtain ⟨ha,hb,e1,z⟩:=fin _ _ _ H
              refine ⟨ha,hb,fun h D=>?_⟩
              have hg:(sh V tk h gl i).gens[g]?=some (.fresh c₀):=by rw [e1]; exact (gens_get O gl j).trans e
              have y:=z h D
              rw [den] at y
              cases md with
              | none=>exact y_resume_f _ _ _ _ _ _ _ _ _ _ _ _ hg y
              | some fs=>exact s_resume_f _ _ _ _ _ _ _ _ _ _ _ hg y
            | _=>exact absurd (H pi0).1 (by simp only [a8,bad,e]; simp)
        | suspended k₀ l₀ c₀ p₀ fs₀ cl=>
          simp only [a8,e] at H
          obtain ⟨ha,hb,e1,z⟩:=fin _ _ _ H
          refine ⟨ha,hb,fun h D=>?_⟩
          have hg:(sh V tk h gl i).gens[g]?=some (.suspended k₀ l₀ c₀ p₀ fs₀ cl):=by rw [e1]; exact (gens_get O gl j).trans e
          cases md with
          | none=>exact y_resume_s _ _ _ _ _ _ _ _ _ _ _ _ _ _ _ _ _ _ hg (z h D)
          | some fs=>exact s_resume_s _ _ _ _ _ _ _ _ _ _ _ _ _ _ _ _ _ hg (z h D)
  | yield v gd l k=>
    cases md with
    | none=>exact absurd (H pi0).1 (by simp [a8,bad])
    | some fs=>
      cases gd with
      | true=>exact absurd (H pi0).1 (by simp [a8,bad])
      | false=>
        cases hfs:splitAtGen fs with
        | some _=>exact absurd (H pi0).1 (by simp only [a8,bad,hfs]; simp)
        | none=>
          cases hfg:fs.any Frame.guarded with
          | true=>exact absurd (H pi0).1 (by simp only [a8,bad,hfs,hfg]; simp)
          | false=>
            simp only [a8,hfs,hfg] at H
            have key:∀ p,AllT tr∧AllE eq∧∀ h,Rep V n G h S T m→wakeOf V.x κ (.susp v false l k c p fs) (sh V tk h gl i):=fun p=>wakeR_sound O ih IH hI fun ω=>H (consP ⟨p,v0⟩ ω)
            exact ⟨(key p0).1,(key p0).2.1,fun h D=>s_yield _ _ _ _ _ _ _ _ _ _ hfs hfg fun p=>(key p).2.2 h D⟩
  | «unsupported»=>exact absurd (H pi0).1 (by simp [a8,bad])
  | finish=>exact absurd (H pi0).1 (by simp [a8,bad])
  | register=>exact absurd (H pi0).1 (by simp [a8,bad])
  | choose=>exact absurd (H pi0).1 (by simp [a8,bad])
  | os=>exact absurd (H pi0).1 (by simp [a8,bad])
  | fork=>exact absurd (H pi0).1 (by simp [a8,bad])
  | thread=>exact absurd (H pi0).1 (by simp [a8,bad])
  | await=>exact absurd (H pi0).1 (by simp [a8,bad])
end
theorem swap_bind {V:VS} {α:Type} {m:Sem α} {b:α} {K:α→Sem Fin} (hm:∀ (prog:Program) (w:World) (A:Around) (Q:α→Shared→Prop) (E:Value→Shared→Prop) (s:Shared),Q b s→wpAny (model prog w) A m Q E s):SwapOk V (m.bind K) (K b):=by
  intro c md κ s h
  cases md with
  | none=>exact wpOwn_bind (m:=m) (f:=K) (wpOwn_of_wpAny (hm _ _ _ _ _ _ h))
  | some fs=>
    rw [Sem.bind_eq_wrap]
    exact s_cmd _ _ _ _ _ _ (m:=m) (k:=K) (hm _ _ _ _ _ _ h)
theorem bad_hyp (V:VS):Hyp V bad:=fun _ _ _ _ _ _ _ _ _ _ _ _ _ _ _ _ _ H=>absurd (H pi0).1 (by simp [bad])
theorem runB_sound {V:VS} (O:V.Ok) {sub:Nat→Fn} (IS:∀ n,Hyp V (sub n)):∀ n,Hyp V (runB V sub n)
  | 0=>fun _ _ _ _ _ _ _ _ _ _ _ _ _ _ _ _ _ H=>(H pi0).2
  | n+1=>step_sound O _ IS (runB_sound O IS n)
theorem runL_sound {V:VS} (O:V.Ok):∀ l n,Hyp V (runL V l n)
  | 0=>runB_sound O fun _=>bad_hyp V
  | l+1=>runB_sound O (runL_sound O l)
theorem run_sound {V:VS} (O:V.Ok) (n:Nat):Hyp V (run V n):=by
  unfold run
  exact runL_sound O 2 n
noncomputable abbrev PR:Program:=PySem.Challenge.pw_uc0006_01
noncomputable abbrev S (l:List Nat):Str:=⟨⟨l⟩⟩
noncomputable abbrev en (P:Params) (k:Str) (t:Tok) (v:Value):DictEntry:=⟨PyData.keyHash P k,.str k t,v⟩
noncomputable def nthS:List Stmt→Nat→Stmt
  | [],_=>.Pass ⟨0,0,0,0⟩
  | x::l,n=>match n with
    | 0=>x
    | n+1=>nthS l n
noncomputable def topS (k:Nat):Stmt:=nthS PR.main.body k
noncomputable def clsB:Stmt→List Stmt
  | .ClassDef (body:=b) ..=>b
  | _=>[]
noncomputable def clsS (k j:Nat):Stmt:=nthS (clsB (topS k)) j
noncomputable def fnP:Stmt→Arguments
  | .FunctionDef (args:=a) ..=>a
  | _=>⟨[],[],none,[],[],none,[]⟩
noncomputable def fnB:Stmt→List Stmt
  | .FunctionDef (body:=b) ..=>b
  | _=>[]
noncomputable def fnS:Stmt→Scope
  | .FunctionDef (scope:=s) ..=>s
  | _=>default
noncomputable def ob0 (P:Params):Obj:=⟨(.type PySem.W.SL.s14018661285674007319x4),none,(.dict #[en P (S [95,95,110,97,109,101,95,95]) 1 (.str (S [98,117,105,108,116,105,110,115]) 160),en P (S [95,95,100,111,99,95,95]) 2 (.builtin "builtins.__doc__:str#opaque"),en P (S [95,95,112,97,99,107,97,103,101,95,95]) 3 (.builtin "builtins.__package__:str#opaque"),en P (S [95,95,108,111,97,100,101,114,95,95]) 4 (.builtin "builtins.__loader__:shared#opaque"),en P (S [95,95,115,112,101,99,95,95]) 5 (.builtin PySem.W.SL.s11665532747177232413x24),en P (S [95,95,98,117,105,108,100,95,99,108,97,115,115,95,95]) 6 (.builtin PySem.W.SL.s15183661809925369436x15),en P (S [95,95,105,109,112,111,114,116,95,95]) 7 (.builtin PySem.W.SL.s13915890719876406383x10),en P (S [97,98,115]) 8 (.builtin PySem.W.SL.s13459172003223722735x3),en P (S [97,108,108]) 9 (.builtin PySem.W.SL.s10557405761357834076x3),en P (S [97,110,121]) 10 (.builtin PySem.W.SL.s4233737765568776869x3),en P (S [97,115,99,105,105]) 11 (.builtin PySem.W.SL.s2508922471967985374x5),en P (S [98,105,110]) 12 (.builtin PySem.W.SL.s15574269061696679450x3),en P (S [98,114,101,97,107,112,111,105,110,116]) 13 (.builtin PySem.W.SL.s6016482663378992977x10),en P (S [99,97,108,108,97,98,108,101]) 14 (.builtin PySem.W.SL.s5596568736180474577x8),en P (S [99,104,114]) 15 (.builtin PySem.W.SL.s2839554839881490554x3),en P (S [99,111,109,112,105,108,101]) 16 (.builtin PySem.W.SL.s725004073602090463x7),en P (S [100,101,108,97,116,116,114]) 17 (.builtin PySem.W.SL.s9436932552931045734x7),en P (S [100,105,114]) 18 (.builtin PySem.W.SL.s2754603736356183583x3),en P (S [100,105,118,109,111,100]) 19 (.builtin PySem.W.SL.s15185746759980889043x6),en P (S [101,118,97,108]) 20 (.builtin PySem.W.SL.s8192189862530294059x4),en P (S [101,120,101,99]) 21 (.builtin PySem.W.SL.s7038307821325472102x4),en P (S [102,111,114,109,97,116]) 22 (.builtin PySem.W.SL.s5662562618415449548x6),en P (S [103,101,116,97,116,116,114]) 23 (.builtin PySem.W.SL.s15281542589158584767x7),en P (S [103,108,111,98,97,108,115]) 24 (.builtin PySem.W.SL.s17651547275483570877x7),en P (S [104,97,115,97,116,116,114]) 25 (.builtin PySem.W.SL.s4036449017235975746x7),en P (S [104,97,115,104]) 26 (.builtin PySem.W.SL.s8879979712987360175x4),en P (S [104,101,120]) 27 (.builtin PySem.W.SL.s1801250619170735830x3),en P (S [105,100]) 28 (.builtin PySem.W.SL.s17659931425627118568x2),en P (S [105,110,112,117,116]) 29 (.builtin PySem.W.SL.s6063217899685152688x5),en P (S [105,115,105,110,115,116,97,110,99,101]) 30 (.builtin PySem.W.SL.s8008927332132565319x10),en P (S [105,115,115,117,98,99,108,97,115,115]) 31 (.builtin PySem.W.SL.s3544116645089599534x10),en P (S [105,116,101,114]) 32 (.builtin PySem.W.SL.s13761710972054866084x4),en P (S [97,105,116,101,114]) 33 (.builtin PySem.W.SL.s12896375587409280029x5),en P (S [108,101,110]) 34 (.builtin PySem.W.SL.s13014049009108672802x3),en P (S [108,111,99,97,108,115]) 35 (.builtin PySem.W.SL.s13935586738268321596x6),en P (S [109,97,120]) 36 (.builtin PySem.W.SL.s8200498257699607233x3),en P (S [109,105,110]) 37 (.builtin PySem.W.SL.s14114244577727609259x3),en P (S [110,101,120,116]) 38 (.builtin PySem.W.SL.s1499430450269397089x4),en P (S [97,110,101,120,116]) 39 (.builtin PySem.W.SL.s8755793994789770505x5),en P (S [111,99,116]) 40 (.builtin PySem.W.SL.s15725212667919936108x3),en P (S [111,114,100]) 41 (.builtin PySem.W.SL.s15791221867095933363x3),en P (S [112,111,119]) 42 (.builtin PySem.W.SL.s81309575031448614x3),en P (S [112,114,105,110,116]) 43 (.builtin PySem.W.SL.s8069831620301644142x5),en P (S [114,101,112,114]) 44 (.builtin PySem.W.SL.s10061844253413749634x4),en P (S [114,111,117,110,100]) 45 (.builtin PySem.W.SL.s9496514870978017513x5),en P (S [115,101,116,97,116,116,114]) 46 (.builtin PySem.W.SL.s8899691144933366716x7),en P (S [115,111,114,116,101,100]) 47 (.builtin PySem.W.SL.s15201008993051130160x6),en P (S [115,117,109]) 48 (.builtin PySem.W.SL.s741896355592496720x3),en P (S [118,97,114,115]) 49 (.builtin PySem.W.SL.s17925004256654032244x4),en P (S [78,111,110,101]) 50 .none,en P (S [69,108,108,105,112,115,105,115]) 51 .ellipsis,en P (S [78,111,116,73,109,112,108,101,109,101,110,116,101,100]) 52 .notImplemented,en P (S [70,97,108,115,101]) 53 (.bool false),en P (S [84,114,117,101]) 54 (.bool true),en P (S [98,111,111,108]) 55 (.type PySem.W.SL.s11695548795398191787x4),en P (S [109,101,109,111,114,121,118,105,101,119]) 56 (.type PySem.W.SL.s4156966113859768872x10),en P (S [98,121,116,101,97,114,114,97,121]) 57 (.type PySem.W.SL.s9501651726347032510x9),en P (S [98,121,116,101,115]) 58 (.type PySem.W.SL.s15722918466584999320x5),en P (S [99,108,97,115,115,109,101,116,104,111,100]) 59 (.type PySem.W.SL.s591115383303110208x11),en P (S [99,111,109,112,108,101,120]) 60 (.type PySem.W.SL.s15721156781594690315x7),en P (S [100,105,99,116]) 61 (.type PySem.W.SL.s14018661285674007319x4),en P (S [101,110,117,109,101,114,97,116,101]) 62 (.type PySem.W.SL.s14340494229221121180x9),en P (S [102,105,108,116,101,114]) 63 (.type PySem.W.SL.s13429844117177748173x6),en P (S [102,108,111,97,116]) 64 (.type PySem.W.SL.s16463266125957815391x5),en P (S [102,114,111,122,101,110,115,101,116]) 65 (.type PySem.W.SL.s4922535414793169389x9),en P (S [112,114,111,112,101,114,116,121]) 66 (.type PySem.W.SL.s8101838861749082086x8),en P (S [105,110,116]) 67 (.type PySem.W.SL.s7066276694103001551x3),en P (S [108,105,115,116]) 68 (.type PySem.W.SL.s9222952809800978799x4),en P (S [109,97,112]) 69 (.type PySem.W.SL.s462964344163437139x3),en P (S [111,98,106,101,99,116]) 70 (.type PySem.W.SL.s2742458400755230247x6),en P (S [114,97,110,103,101]) 71 (.type PySem.W.SL.s1438033511350832697x5),en P (S [114,101,118,101,114,115,101,100]) 72 (.type PySem.W.SL.s14365286008749172514x8),en P (S [115,101,116]) 73 (.type PySem.W.SL.s3642769012341782148x3),en P (S [115,108,105,99,101]) 74 (.type PySem.W.SL.s4674234679698826739x5),en P (S [115,116,97,116,105,99,109,101,116,104,111,100]) 75 (.type PySem.W.SL.s16656946322747308186x12),en P (S [115,116,114]) 76 (.type PySem.W.SL.s10796804682411823810x3),en P (S [115,117,112,101,114]) 77 (.type PySem.W.SL.s4290257624100764138x5),en P (S [116,117,112,108,101]) 78 (.type PySem.W.SL.s2766695959194262286x5),en P (S [116,121,112,101]) 79 (.type PySem.W.SL.s17162191345867700912x4),en P (S [122,105,112]) 80 (.type PySem.W.SL.s14339709457334898076x3),en P (S [95,95,100,101,98,117,103,95,95]) 81 (.bool true),en P (S [66,97,115,101,69,120,99,101,112,116,105,111,110]) 82 (.type PySem.W.SL.s4278001404047624695x13),en P (S [66,97,115,101,69,120,99,101,112,116,105,111,110,71,114,111,117,112]) 83 (.type PySem.W.SL.s6585700554429387442x18),en P (S [69,120,99,101,112,116,105,111,110]) 84 (.type PySem.W.SL.s5946037652744460706x9),en P (S [71,101,110,101,114,97,116,111,114,69,120,105,116]) 85 (.type PySem.W.SL.s7410770068591931388x13),en P (S [75,101,121,98,111,97,114,100,73,110,116,101,114,114,117,112,116]) 86 (.type PySem.W.SL.s11817881795495490833x17),en P (S [83,121,115,116,101,109,69,120,105,116]) 87 (.type PySem.W.SL.s15679963881808890155x10),en P (S [65,114,105,116,104,109,101,116,105,99,69,114,114,111,114]) 88 (.type PySem.W.SL.s3871700062485845797x15),en P (S [65,115,115,101,114,116,105,111,110,69,114,114,111,114]) 89 (.type PySem.W.SL.s7689518266570723881x14),en P (S [65,116,116,114,105,98,117,116,101,69,114,114,111,114]) 90 (.type PySem.W.SL.s9001593270443806431x14),en P (S [66,117,102,102,101,114,69,114,114,111,114]) 91 (.type PySem.W.SL.s6882542574934516792x11),en P (S [69,79,70,69,114,114,111,114]) 92 (.type PySem.W.SL.s14403400214490484960x8),en P (S [73,109,112,111,114,116,69,114,114,111,114]) 93 (.type PySem.W.SL.s14457978657717015782x11),en P (S [76,111,111,107,117,112,69,114,114,111,114]) 94 (.type PySem.W.SL.s1753610191782819921x11),en P (S [77,101,109,111,114,121,69,114,114,111,114]) 95 (.type PySem.W.SL.s14119380538032626715x11),en P (S [78,97,109,101,69,114,114,111,114]) 96 (.type PySem.W.SL.s11437920000406562045x9),en P (S [79,83,69,114,114,111,114]) 97 (.type PySem.W.SL.s10852414792293593619x7),en P (S [82,101,102,101,114,101,110,99,101,69,114,114,111,114]) 98 (.type PySem.W.SL.s14816307405966870543x14),en P (S [82,117,110,116,105,109,101,69,114,114,111,114]) 99 (.type PySem.W.SL.s8682627914449686677x12),en P (S [83,116,111,112,65,115,121,110,99,73,116,101,114,97,116,105,111,110]) 100 (.type PySem.W.SL.s4428170145600203450x18),en P (S [83,116,111,112,73,116,101,114,97,116,105,111,110]) 101 (.type PySem.W.SL.s5991306692159431302x13),en P (S [83,121,110,116,97,120,69,114,114,111,114]) 102 (.type PySem.W.SL.s16067994140765818257x11),en P (S [83,121,115,116,101,109,69,114,114,111,114]) 103 (.type PySem.W.SL.s2327743974964600596x11),en P (S [84,121,112,101,69,114,114,111,114]) 104 (.type PySem.W.SL.s2804747833354056582x9),en P (S [86,97,108,117,101,69,114,114,111,114]) 105 (.type PySem.W.SL.s6070975301684473832x10),en P (S [87,97,114,110,105,110,103]) 106 (.type PySem.W.SL.s14270485950484850486x7),en P (S [70,108,111,97,116,105,110,103,80,111,105,110,116,69,114,114,111,114]) 107 (.type PySem.W.SL.s12041534306414923332x18),en P (S [79,118,101,114,102,108,111,119,69,114,114,111,114]) 108 (.type PySem.W.SL.s2531307568338490285x13),en P (S [90,101,114,111,68,105,118,105,115,105,111,110,69,114,114,111,114]) 109 (.type PySem.W.SL.s631175304937289666x17),en P (S [66,121,116,101,115,87,97,114,110,105,110,103]) 110 (.type PySem.W.SL.s5144983644357021410x12),en P (S [68,101,112,114,101,99,97,116,105,111,110,87,97,114,110,105,110,103]) 111 (.type PySem.W.SL.s18039099521571816885x18),en P (S [69,110,99,111,100,105,110,103,87,97,114,110,105,110,103]) 112 (.type PySem.W.SL.s6011586214260557989x15),en P (S [70,117,116,117,114,101,87,97,114,110,105,110,103]) 113 (.type PySem.W.SL.s5430567037509283100x13),en P (S [73,109,112,111,114,116,87,97,114,110,105,110,103]) 114 (.type PySem.W.SL.s8117915138073963741x13),en P (S [80,101,110,100,105,110,103,68,101,112,114,101,99,97,116,105,111,110,87,97,114,110,105,110,103]) 115 (.type PySem.W.SL.s3423317712779056401x25),en P (S [82,101,115,111,117,114,99,101,87,97,114,110,105,110,103]) 116 (.type PySem.W.SL.s2007317383269046180x15),en P (S [82,117,110,116,105,109,101,87,97,114,110,105,110,103]) 117 (.type PySem.W.SL.s17481586968713580700x14),en P (S [83,121,110,116,97,120,87,97,114,110,105,110,103]) 118 (.type PySem.W.SL.s2450899226349176912x13),en P (S [85,110,105,99,111,100,101,87,97,114,110,105,110,103]) 119 (.type PySem.W.SL.s16626165730633575011x14),en P (S [85,115,101,114,87,97,114,110,105,110,103]) 120 (.type PySem.W.SL.s14288496050688921416x11),en P (S [66,108,111,99,107,105,110,103,73,79,69,114,114,111,114]) 121 (.type PySem.W.SL.s5735081916595925998x15),en P (S [67,104,105,108,100,80,114,111,99,101,115,115,69,114,114,111,114]) 122 (.type PySem.W.SL.s3865607918536308442x17),en P (S [67,111,110,110,101,99,116,105,111,110,69,114,114,111,114]) 123 (.type PySem.W.SL.s13337502604062700212x15),en P (S [70,105,108,101,69,120,105,115,116,115,69,114,114,111,114]) 124 (.type PySem.W.SL.s13114017843053701147x15),en P (S [70,105,108,101,78,111,116,70,111,117,110,100,69,114,114,111,114]) 125 (.type PySem.W.SL.s17467278006356818441x17),en P (S [73,110,116,101,114,114,117,112,116,101,100,69,114,114,111,114]) 126 (.type PySem.W.SL.s17722149559621369488x16),en P (S [73,115,65,68,105,114,101,99,116,111,114,121,69,114,114,111,114]) 127 (.type PySem.W.SL.s7855274175708717672x17),en P (S [78,111,116,65,68,105,114,101,99,116,111,114,121,69,114,114,111,114]) 128 (.type PySem.W.SL.s13351283678309829046x18),en P (S [80,101,114,109,105,115,115,105,111,110,69,114,114,111,114]) 129 (.type PySem.W.SL.s6668348653404991179x15),en P (S [80,114,111,99,101,115,115,76,111,111,107,117,112,69,114,114,111,114]) 130 (.type PySem.W.SL.s12913350958174193794x18),en P (S [84,105,109,101,111,117,116,69,114,114,111,114]) 131 (.type PySem.W.SL.s16115879512475548326x12),en P (S [73,110,100,101,110,116,97,116,105,111,110,69,114,114,111,114]) 132 (.type PySem.W.SL.s15920661018069861047x16),en P (S [95,73,110,99,111,109,112,108,101,116,101,73,110,112,117,116,69,114,114,111,114]) 133 (.type PySem.W.SL.s10779130036587390575x21),en P (S [73,110,100,101,120,69,114,114,111,114]) 134 (.type PySem.W.SL.s7801419657504700863x10),en P (S [75,101,121,69,114,114,111,114]) 135 (.type PySem.W.SL.s1688129525768580628x8),en P (S [77,111,100,117,108,101,78,111,116,70,111,117,110,100,69,114,114,111,114]) 136 (.type PySem.W.SL.s1031832959479892071x19),en P (S [78,111,116,73,109,112,108,101,109,101,110,116,101,100,69,114,114,111,114]) 137 (.type PySem.W.SL.s8991790508128307865x19),en P (S [80,121,116,104,111,110,70,105,110,97,108,105,122,97,116,105,111,110,69,114,114,111,114]) 138 (.type PySem.W.SL.s14539662485746970245x23),en P (S [82,101,99,117,114,115,105,111,110,69,114,114,111,114]) 139 (.type PySem.W.SL.s11643622729373238714x14),en P (S [85,110,98,111,117,110,100,76,111,99,97,108,69,114,114,111,114]) 140 (.type PySem.W.SL.s3386828779285465597x17),en P (S [85,110,105,99,111,100,101,69,114,114,111,114]) 141 (.type PySem.W.SL.s13042696260734638735x12),en P (S [66,114,111,107,101,110,80,105,112,101,69,114,114,111,114]) 142 (.type PySem.W.SL.s18239426817015966623x15),en P (S [67,111,110,110,101,99,116,105,111,110,65,98,111,114,116,101,100,69,114,114,111,114]) 143 (.type PySem.W.SL.s1270395311379034370x22),en P (S [67,111,110,110,101,99,116,105,111,110,82,101,102,117,115,101,100,69,114,114,111,114]) 144 (.type PySem.W.SL.s10696252587037064777x22),en P (S [67,111,110,110,101,99,116,105,111,110,82,101,115,101,116,69,114,114,111,114]) 145 (.type PySem.W.SL.s7852717498200857586x20),en P (S [84,97,98,69,114,114,111,114]) 146 (.type PySem.W.SL.s6377248116197321094x8),en P (S [85,110,105,99,111,100,101,68,101,99,111,100,101,69,114,114,111,114]) 147 (.type PySem.W.SL.s3834378056692298002x18),en P (S [85,110,105,99,111,100,101,69,110,99,111,100,101,69,114,114,111,114]) 148 (.type PySem.W.SL.s17586630440231065808x18),en P (S [85,110,105,99,111,100,101,84,114,97,110,115,108,97,116,101,69,114,114,111,114]) 149 (.type PySem.W.SL.s15234114252648025395x21),en P (S [69,120,99,101,112,116,105,111,110,71,114,111,117,112]) 150 (.type PySem.W.SL.s8496462677383758984x14),en P (S [69,110,118,105,114,111,110,109,101,110,116,69,114,114,111,114]) 151 (.type PySem.W.SL.s10852414792293593619x7),en P (S [73,79,69,114,114,111,114]) 152 (.type PySem.W.SL.s10852414792293593619x7),en P (S [111,112,101,110]) 153 (.builtin PySem.W.SL.s16789243406116112673x4),en P (S [113,117,105,116]) 154 (.builtin PySem.W.SL.s14400166428656793546x20),en P (S [101,120,105,116]) 155 (.builtin PySem.W.SL.s5857708277339239366x20),en P (S [99,111,112,121,114,105,103,104,116]) 156 (.builtin "builtins.copyright#opaque"),en P (S [99,114,101,100,105,116,115]) 157 (.builtin "builtins.credits#opaque"),en P (S [108,105,99,101,110,115,101]) 158 (.builtin "builtins.license#opaque"),en P (S [104,101,108,112]) 159 (.builtin PySem.W.SL.s7804999707787243718x20)] 159),#[]⟩
noncomputable def ob2 (P:Params):Obj:=⟨.none,none,(.dict #[en P (S [105,109,112,111,114,116,46,108,111,97,100,101,100,46,95,115,114,101]) 183 (.bool true),en P (S [99,108,97,115,115,46,95,102,114,111,122,101,110,95,105,109,112,111,114,116,108,105,98,46,66,117,105,108,116,105,110,73,109,112,111,114,116,101,114]) 185 (.ref 14),en P (S [119,97,116,99,104,101,100,46,105,109,112,111,114,116]) 206 (.ref 18),en P (S [99,108,97,115,115,46,95,102,114,111,122,101,110,95,105,109,112,111,114,116,108,105,98,46,77,111,100,117,108,101,83,112,101,99]) 216 (.ref 22),en P (S [115,121,115,46,109,111,100,117,108,101,115,46,98,111,111,107,101,100,45,101,112,111,99,104]) 245 (.int 3 0),en P (S [105,109,112,111,114,116,46,108,97,116,101,114,45,108,97,105,100,46,95,115,114,101]) 270 (.bool true),en P (S [119,97,116,99,104,101,100,46,108,105,98,114,97,114,121]) 272 (.ref 27),en P (S [119,97,116,99,104,101,100,46,108,105,98,114,97,114,121,45,111,98,106,101,99,116,115]) 0 (.str (S [12]) 0),en P (S [119,97,116,99,104,101,100,46,108,105,98,114,97,114,121,45,100,101,101,112,46,95,115,114,101]) 273 (.str (S [4,0,0,11,4,0,0,11,4,0,0,3,4,0,0,11,8,4,100,105,99,116,2]) 0)] 9),#[]⟩
noncomputable def ob3 (P:Params):Obj:=⟨(.type PySem.W.SL.s14018661285674007319x4),none,(.dict #[en P (S [95,95,110,97,109,101,95,95]) 165 (.str (S [108,97,119,95,117,99,48,48,48,54,95,48,49]) 451),en P (S [95,95,100,111,99,95,95]) 166 .none,en P (S [95,95,112,97,99,107,97,103,101,95,95]) 167 .none,en P (S [95,95,108,111,97,100,101,114,95,95]) 168 (.builtin PySem.W.SL.s7097527257260152453x26),en P (S [95,95,115,112,101,99,95,95]) 169 .none,en P (S [95,95,97,110,110,111,116,97,116,105,111,110,115,95,95]) 170 (.ref 6),en P (S [95,95,98,117,105,108,116,105,110,115,95,95]) 171 (.ref 4),en P (S [95,95,102,105,108,101,95,95]) 173 (.str (S [47,99,108,97,105,109,47,99,117,116,46,112,121]) 172),en P (S [95,95,99,97,99,104,101,100,95,95]) 174 .none,en P (S [95,115,114,101]) 275 (.ref 12),en P (S [95,105,116,101,114,95,101,115,99,97,112,101,100,95,99,104,97,114,115]) 293 (.ref 38),en P (S [95,115,116,114,105,112,95,113,117,111,116,101,100,95,114,101,97,108,110,97,109,101,115]) 305 (.ref 45),en P (S [69,76,76,73,80,83,73,83,95,77,65,82,75,69,82]) 309 (.str (S [46,46,46]) 308),en P (S [95,101,108,108,105,112,115,105,115,95,109,97,116,99,104]) 321 (.ref 52),en P (S [95,110,101,116,114,99,108,101,120]) 381 (.ref 90),en P (S [95,116,119,105,110,95,114,101,95,49]) 399 (.ref 99),en P (S [95,116,119,105,110,95,114,101,95,50]) 441 (.ref 104),en P (S [67,82,76,70]) 443 (.str (S [13,10]) 442),en P (S [113,117,111,116,101,100,97,116,97]) 450 (.ref 111),en P (S [95,108,97,119,95,108,101,120,101,114]) 461 (.ref 118),en P (S [95,108,97,119,95,100,101,112,101,110,100,115]) 467 (.ref 123),en P (S [95,108,97,119,95,99,104,97,110,103,101,100]) 482 (.ref 130),en P (S [95,108,97,119,95,110,97,109,101,100]) 488 (.ref 135),en P (S [95,108,97,119,95,114,111,119]) 499 (.ref 142),en P (S [95,108,97,119,95,114,111,117,110,100,115]) 505 (.ref 147),en P (S [95,108,97,119,95,104,101,105,103,104,116,115]) 511 (.ref 152),en P (S [95,108,97,119,95,100,114,101,115,115,101,100]) 526 (.ref 159),en P (S [108,97,119]) 532 (.ref 164)] 28),#[]⟩
noncomputable def ob4 (P:Params):Obj:=⟨(.type PySem.W.SL.s6658869562736209489x6),(some 0),.plain,#[]⟩
noncomputable def ob37 (P:Params):Obj:=⟨(.type PySem.W.SL.s5856160107412720595x4),none,(.fields #[(.str (S [95,105,116,101,114,95,101,115,99,97,112,101,100,95,99,104,97,114,115]) 284),(.str (S [95,105,116,101,114,95,101,115,99,97,112,101,100,95,99,104,97,114,115]) 285),(.str (S [47,99,108,97,105,109,47,99,117,116,46,112,121]) 286),(.int 3 0),(.int 1 0),(.int 0 0),(.int 0 0),(.int 35 0),(.ref 32),(.bool true),(.int 276 0),(.ref 33),.none,(.ref 34),(.ref 35),(.ref 36),(.int 291 0),(.int 3 0),(.str (S [47,99,108,97,105,109,47,99,117,116,46,112,121]) 292)]),#[]⟩
noncomputable def ob38 (P:Params):Obj:=⟨(.type PySem.W.SL.s7174869446012820540x8),none,(.func { name:=(S [95,105,116,101,114,95,101,115,99,97,112,101,100,95,99,104,97,114,115]),qualname:=(S [95,105,116,101,114,95,101,115,99,97,112,101,100,95,99,104,97,114,115]),params:=fnP (topS 2),body:=.stmts (fnB (topS 2)),scope:=fnS (topS 2),globals:=3,closure:=[],defaults:=.none,kwdefaults:=.none,doc:=.none,pyModule:=(.str (S [99,112,121,51,49,51,46,101,109,97,105,108,46,117,116,105,108,115]) 282),annotations:=none,code:=(.ref 37),closureTuple:=.none,builtins:=0 }),#[]⟩
noncomputable def ob44 (P:Params):Obj:=⟨(.type PySem.W.SL.s5856160107412720595x4),none,(.fields #[(.str (S [95,115,116,114,105,112,95,113,117,111,116,101,100,95,114,101,97,108,110,97,109,101,115]) 294),(.str (S [95,115,116,114,105,112,95,113,117,111,116,101,100,95,114,101,97,108,110,97,109,101,115]) 295),(.str (S [47,99,108,97,105,109,47,99,117,116,46,112,121]) 296),(.int 16 0),(.int 1 0),(.int 0 0),(.int 0 0),(.int 3 0),(.ref 39),(.bool true),(.int 276 0),(.ref 40),.none,(.ref 41),(.ref 42),(.ref 43),(.int 303 0),(.int 16 0),(.str (S [47,99,108,97,105,109,47,99,117,116,46,112,121]) 304)]),#[]⟩
noncomputable def ob45 (P:Params):Obj:=⟨(.type PySem.W.SL.s7174869446012820540x8),none,(.func { name:=(S [95,115,116,114,105,112,95,113,117,111,116,101,100,95,114,101,97,108,110,97,109,101,115]),qualname:=(S [95,115,116,114,105,112,95,113,117,111,116,101,100,95,114,101,97,108,110,97,109,101,115]),params:=fnP (topS 3),body:=.stmts (fnB (topS 3)),scope:=fnS (topS 3),globals:=3,closure:=[],defaults:=.none,kwdefaults:=.none,doc:=.none,pyModule:=(.str (S [99,112,121,51,49,51,46,101,109,97,105,108,46,117,116,105,108,115]) 282),annotations:=none,code:=(.ref 44),closureTuple:=.none,builtins:=0 }),#[]⟩
noncomputable def ob51 (P:Params):Obj:=⟨(.type PySem.W.SL.s5856160107412720595x4),none,(.fields #[(.str (S [95,101,108,108,105,112,115,105,115,95,109,97,116,99,104]) 310),(.str (S [95,101,108,108,105,112,115,105,115,95,109,97,116,99,104]) 311),(.str (S [47,99,108,97,105,109,47,99,117,116,46,112,121]) 312),(.int 36 0),(.int 2 0),(.int 0 0),(.int 0 0),(.int 3 0),(.ref 46),(.bool true),(.int 276 0),(.ref 47),.none,(.ref 48),(.ref 49),(.ref 50),(.int 319 0),(.int 36 0),(.str (S [47,99,108,97,105,109,47,99,117,116,46,112,121]) 320)]),#[]⟩
noncomputable def ob52 (P:Params):Obj:=⟨(.type PySem.W.SL.s7174869446012820540x8),none,(.func { name:=(S [95,101,108,108,105,112,115,105,115,95,109,97,116,99,104]),qualname:=(S [95,101,108,108,105,112,115,105,115,95,109,97,116,99,104]),params:=fnP (topS 6),body:=.stmts (fnB (topS 6)),scope:=fnS (topS 6),globals:=3,closure:=[],defaults:=.none,kwdefaults:=.none,doc:=.none,pyModule:=(.str (S [99,112,121,51,49,51,46,100,111,99,116,101,115,116]) 306),annotations:=none,code:=(.ref 51),closureTuple:=.none,builtins:=0 }),#[]⟩
noncomputable def ob65 (P:Params):Obj:=⟨(.type PySem.W.SL.s5856160107412720595x4),none,(.fields #[(.str (S [95,95,105,110,105,116,95,95]) 336),(.str (S [95,110,101,116,114,99,108,101,120,46,95,95,105,110,105,116,95,95]) 337),(.str (S [47,99,108,97,105,109,47,99,117,116,46,112,121]) 338),(.int 67 0),(.int 2 0),(.int 0 0),(.int 0 0),(.int 3 0),(.ref 60),(.bool true),(.int 276 0),(.ref 61),.none,(.ref 62),(.ref 63),(.ref 64),(.int 341 0),(.int 67 0),(.str (S [47,99,108,97,105,109,47,99,117,116,46,112,121]) 342)]),#[]⟩
noncomputable def ob66 (P:Params):Obj:=⟨(.type PySem.W.SL.s7174869446012820540x8),none,(.func { name:=(S [95,95,105,110,105,116,95,95]),qualname:=(S [95,110,101,116,114,99,108,101,120,46,95,95,105,110,105,116,95,95]),params:=fnP (clsS 8 0),body:=.stmts (fnB (clsS 8 0)),scope:=fnS (clsS 8 0),globals:=3,closure:=[],defaults:=.none,kwdefaults:=.none,doc:=.none,pyModule:=(.str (S [99,112,121,51,49,51,46,110,101,116,114,99]) 322),annotations:=none,code:=(.ref 65),closureTuple:=.none,builtins:=0 }),#[]⟩
noncomputable def ob72 (P:Params):Obj:=⟨(.type PySem.W.SL.s5856160107412720595x4),none,(.fields #[(.str (S [95,114,101,97,100,95,99,104,97,114]) 344),(.str (S [95,110,101,116,114,99,108,101,120,46,95,114,101,97,100,95,99,104,97,114]) 345),(.str (S [47,99,108,97,105,109,47,99,117,116,46,112,121]) 346),(.int 73 0),(.int 1 0),(.int 0 0),(.int 0 0),(.int 3 0),(.ref 67),(.bool true),(.int 276 0),(.ref 68),.none,(.ref 69),(.ref 70),(.ref 71),(.int 349 0),(.int 73 0),(.str (S [47,99,108,97,105,109,47,99,117,116,46,112,121]) 350)]),#[]⟩
noncomputable def ob73 (P:Params):Obj:=⟨(.type PySem.W.SL.s7174869446012820540x8),none,(.func { name:=(S [95,114,101,97,100,95,99,104,97,114]),qualname:=(S [95,110,101,116,114,99,108,101,120,46,95,114,101,97,100,95,99,104,97,114]),params:=fnP (clsS 8 1),body:=.stmts (fnB (clsS 8 1)),scope:=fnS (clsS 8 1),globals:=3,closure:=[],defaults:=.none,kwdefaults:=.none,doc:=.none,pyModule:=(.str (S [99,112,121,51,49,51,46,110,101,116,114,99]) 322),annotations:=none,code:=(.ref 72),closureTuple:=.none,builtins:=0 }),#[]⟩
noncomputable def ob79 (P:Params):Obj:=⟨(.type PySem.W.SL.s5856160107412720595x4),none,(.fields #[(.str (S [103,101,116,95,116,111,107,101,110]) 352),(.str (S [95,110,101,116,114,99,108,101,120,46,103,101,116,95,116,111,107,101,110]) 353),(.str (S [47,99,108,97,105,109,47,99,117,116,46,112,121]) 354),(.int 79 0),(.int 1 0),(.int 0 0),(.int 0 0),(.int 3 0),(.ref 74),(.bool true),(.int 276 0),(.ref 75),.none,(.ref 76),(.ref 77),(.ref 78),(.int 359 0),(.int 79 0),(.str (S [47,99,108,97,105,109,47,99,117,116,46,112,121]) 360)]),#[]⟩
noncomputable def ob80 (P:Params):Obj:=⟨(.type PySem.W.SL.s7174869446012820540x8),none,(.func { name:=(S [103,101,116,95,116,111,107,101,110]),qualname:=(S [95,110,101,116,114,99,108,101,120,46,103,101,116,95,116,111,107,101,110]),params:=fnP (clsS 8 2),body:=.stmts (fnB (clsS 8 2)),scope:=fnS (clsS 8 2),globals:=3,closure:=[],defaults:=.none,kwdefaults:=.none,doc:=.none,pyModule:=(.str (S [99,112,121,51,49,51,46,110,101,116,114,99]) 322),annotations:=none,code:=(.ref 79),closureTuple:=.none,builtins:=0 }),#[]⟩
noncomputable def ob86 (P:Params):Obj:=⟨(.type PySem.W.SL.s5856160107412720595x4),none,(.fields #[(.str (S [112,117,115,104,95,116,111,107,101,110]) 362),(.str (S [95,110,101,116,114,99,108,101,120,46,112,117,115,104,95,116,111,107,101,110]) 363),(.str (S [47,99,108,97,105,109,47,99,117,116,46,112,121]) 364),(.int 106 0),(.int 2 0),(.int 0 0),(.int 0 0),(.int 3 0),(.ref 81),(.bool true),(.int 276 0),(.ref 82),.none,(.ref 83),(.ref 84),(.ref 85),(.int 367 0),(.int 106 0),(.str (S [47,99,108,97,105,109,47,99,117,116,46,112,121]) 368)]),#[]⟩
noncomputable def ob87 (P:Params):Obj:=⟨(.type PySem.W.SL.s7174869446012820540x8),none,(.func { name:=(S [112,117,115,104,95,116,111,107,101,110]),qualname:=(S [95,110,101,116,114,99,108,101,120,46,112,117,115,104,95,116,111,107,101,110]),params:=fnP (clsS 8 3),body:=.stmts (fnB (clsS 8 3)),scope:=fnS (clsS 8 3),globals:=3,closure:=[],defaults:=.none,kwdefaults:=.none,doc:=.none,pyModule:=(.str (S [99,112,121,51,49,51,46,110,101,116,114,99]) 322),annotations:=none,code:=(.ref 86),closureTuple:=.none,builtins:=0 }),#[]⟩
noncomputable def ob89 (P:Params):Obj:=⟨(.type PySem.W.SL.s14018661285674007319x4),none,(.dict #[en P (S [95,95,109,111,100,117,108,101,95,95]) 331 (.str (S [99,112,121,51,49,51,46,110,101,116,114,99]) 322),en P (S [95,95,102,105,114,115,116,108,105,110,101,110,111,95,95]) 335 (.int 65 334),en P (S [95,95,105,110,105,116,95,95]) 343 (.ref 66),en P (S [95,114,101,97,100,95,99,104,97,114]) 351 (.ref 73),en P (S [103,101,116,95,116,111,107,101,110]) 361 (.ref 80),en P (S [112,117,115,104,95,116,111,107,101,110]) 369 (.ref 87),en P (S [95,95,115,116,97,116,105,99,95,97,116,116,114,105,98,117,116,101,115,95,95]) 374 (.ref 88),en P (S [95,95,100,105,99,116,95,95]) 376 (.ref 91),en P (S [95,95,119,101,97,107,114,101,102,95,95]) 378 (.ref 92),en P (S [95,95,100,111,99,95,95]) 379 .none] 4),#[]⟩
noncomputable def ob90 (P:Params):Obj:=⟨(.type PySem.W.SL.s17162191345867700912x4),none,(.cls { name:=(S [95,110,101,116,114,99,108,101,120]),bases:=[(.type PySem.W.SL.s2742458400755230247x6)],mro:=[(.ref 90),(.type PySem.W.SL.s2742458400755230247x6)],ns:=89,qualname:=(S [95,110,101,116,114,99,108,101,120]),hasDict:=true,slotNames:=[],subclasses:=[],abstract:=false,collection:=none,hasDel:=false }),#[none,none,(some (.str (S [95,110,101,116,114,99,108,101,120]) 324)),(some (.str (S [95,110,101,116,114,99,108,101,120]) 332)),(some (.builtin PySem.W.SL.s11443829558043349243x14)),(some (.bool true))]⟩
noncomputable def ob98 (P:Params):Obj:=⟨(.type PySem.W.SL.s2766695959194262286x5),none,(.seq #[(.int 14 0),(.int 4 0),(.int 0 0),(.int 1 0),(.int 1 0),(.int 6 0),(.int 1 0),(.int 16 0),(.int 46 0),(.int 1 0)] 0),#[]⟩
noncomputable def ob99 (P:Params):Obj:=⟨(.type PySem.W.SL.s12171344214640291687x10),none,(.fields #[(.str (S [40,63,109,41,94,92,46]) 385),(.int 40 398),(.int 0 0),.none,.none,(.ref 98),(.int 0 0)]),#[]⟩
noncomputable def ob103 (P:Params):Obj:=⟨(.type PySem.W.SL.s2766695959194262286x5),none,(.seq #[(.int 14 0),(.int 9 0),(.int 4 0),(.int 1 0),(.int 2 0),(.int 16 0),(.int 10 0),(.int 16 0),(.int 13 0),(.int 0 0),(.int 7 0),(.int 7 0),(.int 16 0),(.int 13 0),(.int 16 0),(.int 10 0),(.int 15 0),(.int 18 0),(.int 5 0),(.int 16 0),(.int 10 0),(.int 15 0),(.int 13 0),(.int 11 0),(.int 16 0),(.int 13 0),(.int 5 0),(.int 5 0),(.int 0 0),(.int 16 0),(.int 10 0),(.int 1 0),(.int 15 0),(.int 2 0),(.int 0 0),(.int 1 0)] 0),#[]⟩
noncomputable def ob104 (P:Params):Obj:=⟨(.type PySem.W.SL.s12171344214640291687x10),none,(.fields #[(.str (S [40,63,58,92,114,92,110,124,92,110,124,92,114,40,63,33,92,110,41,41]) 401),(.int 32 440),(.int 0 0),.none,.none,(.ref 103),(.int 0 0)]),#[]⟩
noncomputable def ob110 (P:Params):Obj:=⟨(.type PySem.W.SL.s5856160107412720595x4),none,(.fields #[(.str (S [113,117,111,116,101,100,97,116,97]) 444),(.str (S [113,117,111,116,101,100,97,116,97]) 445),(.str (S [47,99,108,97,105,109,47,99,117,116,46,112,121]) 446),(.int 112 0),(.int 1 0),(.int 0 0),(.int 0 0),(.int 3 0),(.ref 105),(.bool true),(.int 276 0),(.ref 106),.none,(.ref 107),(.ref 108),(.ref 109),(.int 448 0),(.int 112 0),(.str (S [47,99,108,97,105,109,47,99,117,116,46,112,121]) 449)]),#[]⟩
noncomputable def ob111 (P:Params):Obj:=⟨(.type PySem.W.SL.s7174869446012820540x8),none,(.func { name:=(S [113,117,111,116,101,100,97,116,97]),qualname:=(S [113,117,111,116,101,100,97,116,97]),params:=fnP (topS 13),body:=.stmts (fnB (topS 13)),scope:=fnS (topS 13),globals:=3,closure:=[],defaults:=.none,kwdefaults:=.none,doc:=.none,pyModule:=(.str (S [99,112,121,51,49,51,46,115,109,116,112,108,105,98]) 382),annotations:=none,code:=(.ref 110),closureTuple:=.none,builtins:=0 }),#[]⟩
noncomputable def ob117 (P:Params):Obj:=⟨(.type PySem.W.SL.s5856160107412720595x4),none,(.fields #[(.str (S [95,108,97,119,95,108,101,120,101,114]) 453),(.str (S [95,108,97,119,95,108,101,120,101,114]) 454),(.str (S [47,99,108,97,105,109,47,99,117,116,46,112,121]) 455),(.int 115 0),(.int 1 0),(.int 0 0),(.int 0 0),(.int 3 0),(.ref 112),(.bool true),(.int 276 0),(.ref 113),.none,(.ref 114),(.ref 115),(.ref 116),(.int 459 0),(.int 115 0),(.str (S [47,99,108,97,105,109,47,99,117,116,46,112,121]) 460)]),#[]⟩
noncomputable def ob118 (P:Params):Obj:=⟨(.type PySem.W.SL.s7174869446012820540x8),none,(.func { name:=(S [95,108,97,119,95,108,101,120,101,114]),qualname:=(S [95,108,97,119,95,108,101,120,101,114]),params:=fnP (topS 15),body:=.stmts (fnB (topS 15)),scope:=fnS (topS 15),globals:=3,closure:=[],defaults:=.none,kwdefaults:=.none,doc:=.none,pyModule:=(.str (S [108,97,119,95,117,99,48,48,48,54,95,48,49]) 451),annotations:=none,code:=(.ref 117),closureTuple:=.none,builtins:=0 }),#[]⟩
noncomputable def ob122 (P:Params):Obj:=⟨(.type PySem.W.SL.s5856160107412720595x4),none,(.fields #[(.str (S [95,108,97,119,95,100,101,112,101,110,100,115]) 462),(.str (S [95,108,97,119,95,100,101,112,101,110,100,115]) 463),(.str (S [47,99,108,97,105,109,47,99,117,116,46,112,121]) 464),(.int 120 0),(.int 1 0),(.int 0 0),(.int 0 0),(.int 3 0),(.ref 119),(.bool true),(.int 276 0),(.ref 120),.none,.none,.none,(.ref 121),(.int 465 0),(.int 120 0),(.str (S [47,99,108,97,105,109,47,99,117,116,46,112,121]) 466)]),#[]⟩
noncomputable def ob123 (P:Params):Obj:=⟨(.type PySem.W.SL.s7174869446012820540x8),none,(.func { name:=(S [95,108,97,119,95,100,101,112,101,110,100,115]),qualname:=(S [95,108,97,119,95,100,101,112,101,110,100,115]),params:=fnP (topS 16),body:=.stmts (fnB (topS 16)),scope:=fnS (topS 16),globals:=3,closure:=[],defaults:=.none,kwdefaults:=.none,doc:=.none,pyModule:=(.str (S [108,97,119,95,117,99,48,48,48,54,95,48,49]) 451),annotations:=none,code:=(.ref 122),closureTuple:=.none,builtins:=0 }),#[]⟩
noncomputable def ob129 (P:Params):Obj:=⟨(.type PySem.W.SL.s5856160107412720595x4),none,(.fields #[(.str (S [95,108,97,119,95,99,104,97,110,103,101,100]) 468),(.str (S [95,108,97,119,95,99,104,97,110,103,101,100]) 469),(.str (S [47,99,108,97,105,109,47,99,117,116,46,112,121]) 470),(.int 129 0),(.int 3 0),(.int 0 0),(.int 0 0),(.int 3 0),(.ref 124),(.bool true),(.int 276 0),(.ref 125),.none,(.ref 126),(.ref 127),(.ref 128),(.int 480 0),(.int 129 0),(.str (S [47,99,108,97,105,109,47,99,117,116,46,112,121]) 481)]),#[]⟩
noncomputable def ob130 (P:Params):Obj:=⟨(.type PySem.W.SL.s7174869446012820540x8),none,(.func { name:=(S [95,108,97,119,95,99,104,97,110,103,101,100]),qualname:=(S [95,108,97,119,95,99,104,97,110,103,101,100]),params:=fnP (topS 17),body:=.stmts (fnB (topS 17)),scope:=fnS (topS 17),globals:=3,closure:=[],defaults:=.none,kwdefaults:=.none,doc:=.none,pyModule:=(.str (S [108,97,119,95,117,99,48,48,48,54,95,48,49]) 451),annotations:=none,code:=(.ref 129),closureTuple:=.none,builtins:=0 }),#[]⟩
noncomputable def ob134 (P:Params):Obj:=⟨(.type PySem.W.SL.s5856160107412720595x4),none,(.fields #[(.str (S [95,108,97,119,95,110,97,109,101,100]) 483),(.str (S [95,108,97,119,95,110,97,109,101,100]) 484),(.str (S [47,99,108,97,105,109,47,99,117,116,46,112,121]) 485),(.int 142 0),(.int 3 0),(.int 0 0),(.int 0 0),(.int 3 0),(.ref 131),(.bool true),(.int 276 0),(.ref 132),.none,.none,.none,(.ref 133),(.int 486 0),(.int 142 0),(.str (S [47,99,108,97,105,109,47,99,117,116,46,112,121]) 487)]),#[]⟩
noncomputable def ob135 (P:Params):Obj:=⟨(.type PySem.W.SL.s7174869446012820540x8),none,(.func { name:=(S [95,108,97,119,95,110,97,109,101,100]),qualname:=(S [95,108,97,119,95,110,97,109,101,100]),params:=fnP (topS 18),body:=.stmts (fnB (topS 18)),scope:=fnS (topS 18),globals:=3,closure:=[],defaults:=.none,kwdefaults:=.none,doc:=.none,pyModule:=(.str (S [108,97,119,95,117,99,48,48,48,54,95,48,49]) 451),annotations:=none,code:=(.ref 134),closureTuple:=.none,builtins:=0 }),#[]⟩
noncomputable def ob141 (P:Params):Obj:=⟨(.type PySem.W.SL.s5856160107412720595x4),none,(.fields #[(.str (S [95,108,97,119,95,114,111,119]) 489),(.str (S [95,108,97,119,95,114,111,119]) 490),(.str (S [47,99,108,97,105,109,47,99,117,116,46,112,121]) 491),(.int 170 0),(.int 2 0),(.int 0 0),(.int 0 0),(.int 3 0),(.ref 136),(.bool true),(.int 276 0),(.ref 137),.none,(.ref 138),(.ref 139),(.ref 140),(.int 497 0),(.int 170 0),(.str (S [47,99,108,97,105,109,47,99,117,116,46,112,121]) 498)]),#[]⟩
noncomputable def ob142 (P:Params):Obj:=⟨(.type PySem.W.SL.s7174869446012820540x8),none,(.func { name:=(S [95,108,97,119,95,114,111,119]),qualname:=(S [95,108,97,119,95,114,111,119]),params:=fnP (topS 19),body:=.stmts (fnB (topS 19)),scope:=fnS (topS 19),globals:=3,closure:=[],defaults:=.none,kwdefaults:=.none,doc:=.none,pyModule:=(.str (S [108,97,119,95,117,99,48,48,48,54,95,48,49]) 451),annotations:=none,code:=(.ref 141),closureTuple:=.none,builtins:=0 }),#[]⟩
noncomputable def ob146 (P:Params):Obj:=⟨(.type PySem.W.SL.s5856160107412720595x4),none,(.fields #[(.str (S [95,108,97,119,95,114,111,117,110,100,115]) 500),(.str (S [95,108,97,119,95,114,111,117,110,100,115]) 501),(.str (S [47,99,108,97,105,109,47,99,117,116,46,112,121]) 502),(.int 177 0),(.int 3 0),(.int 0 0),(.int 0 0),(.int 3 0),(.ref 143),(.bool true),(.int 276 0),(.ref 144),.none,.none,.none,(.ref 145),(.int 503 0),(.int 177 0),(.str (S [47,99,108,97,105,109,47,99,117,116,46,112,121]) 504)]),#[]⟩
noncomputable def ob147 (P:Params):Obj:=⟨(.type PySem.W.SL.s7174869446012820540x8),none,(.func { name:=(S [95,108,97,119,95,114,111,117,110,100,115]),qualname:=(S [95,108,97,119,95,114,111,117,110,100,115]),params:=fnP (topS 20),body:=.stmts (fnB (topS 20)),scope:=fnS (topS 20),globals:=3,closure:=[],defaults:=.none,kwdefaults:=.none,doc:=.none,pyModule:=(.str (S [108,97,119,95,117,99,48,48,48,54,95,48,49]) 451),annotations:=none,code:=(.ref 146),closureTuple:=.none,builtins:=0 }),#[]⟩
noncomputable def ob151 (P:Params):Obj:=⟨(.type PySem.W.SL.s5856160107412720595x4),none,(.fields #[(.str (S [95,108,97,119,95,104,101,105,103,104,116,115]) 506),(.str (S [95,108,97,119,95,104,101,105,103,104,116,115]) 507),(.str (S [47,99,108,97,105,109,47,99,117,116,46,112,121]) 508),(.int 199 0),(.int 3 0),(.int 0 0),(.int 0 0),(.int 3 0),(.ref 148),(.bool true),(.int 276 0),(.ref 149),.none,.none,.none,(.ref 150),(.int 509 0),(.int 199 0),(.str (S [47,99,108,97,105,109,47,99,117,116,46,112,121]) 510)]),#[]⟩
noncomputable def ob152 (P:Params):Obj:=⟨(.type PySem.W.SL.s7174869446012820540x8),none,(.func { name:=(S [95,108,97,119,95,104,101,105,103,104,116,115]),qualname:=(S [95,108,97,119,95,104,101,105,103,104,116,115]),params:=fnP (topS 21),body:=.stmts (fnB (topS 21)),scope:=fnS (topS 21),globals:=3,closure:=[],defaults:=.none,kwdefaults:=.none,doc:=.none,pyModule:=(.str (S [108,97,119,95,117,99,48,48,48,54,95,48,49]) 451),annotations:=none,code:=(.ref 151),closureTuple:=.none,builtins:=0 }),#[]⟩
noncomputable def ob158 (P:Params):Obj:=⟨(.type PySem.W.SL.s5856160107412720595x4),none,(.fields #[(.str (S [95,108,97,119,95,100,114,101,115,115,101,100]) 512),(.str (S [95,108,97,119,95,100,114,101,115,115,101,100]) 513),(.str (S [47,99,108,97,105,109,47,99,117,116,46,112,121]) 514),(.int 214 0),(.int 4 0),(.int 0 0),(.int 0 0),(.int 3 0),(.ref 153),(.bool true),(.int 276 0),(.ref 154),.none,(.ref 155),(.ref 156),(.ref 157),(.int 524 0),(.int 214 0),(.str (S [47,99,108,97,105,109,47,99,117,116,46,112,121]) 525)]),#[]⟩
noncomputable def ob159 (P:Params):Obj:=⟨(.type PySem.W.SL.s7174869446012820540x8),none,(.func { name:=(S [95,108,97,119,95,100,114,101,115,115,101,100]),qualname:=(S [95,108,97,119,95,100,114,101,115,115,101,100]),params:=fnP (topS 22),body:=.stmts (fnB (topS 22)),scope:=fnS (topS 22),globals:=3,closure:=[],defaults:=.none,kwdefaults:=.none,doc:=.none,pyModule:=(.str (S [108,97,119,95,117,99,48,48,48,54,95,48,49]) 451),annotations:=none,code:=(.ref 158),closureTuple:=.none,builtins:=0 }),#[]⟩
noncomputable def ob163 (P:Params):Obj:=⟨(.type PySem.W.SL.s5856160107412720595x4),none,(.fields #[(.str (S [108,97,119]) 527),(.str (S [108,97,119]) 528),(.str (S [47,99,108,97,105,109,47,99,117,116,46,112,121]) 529),(.int 234 0),(.int 1 0),(.int 0 0),(.int 0 0),(.int 3 0),(.ref 160),(.bool true),(.int 276 0),(.ref 161),.none,.none,.none,(.ref 162),(.int 530 0),(.int 234 0),(.str (S [47,99,108,97,105,109,47,99,117,116,46,112,121]) 531)]),#[]⟩
noncomputable def ob164 (P:Params):Obj:=⟨(.type PySem.W.SL.s7174869446012820540x8),none,(.func { name:=(S [108,97,119]),qualname:=(S [108,97,119]),params:=fnP (topS 23),body:=.stmts (fnB (topS 23)),scope:=fnS (topS 23),globals:=3,closure:=[],defaults:=.none,kwdefaults:=.none,doc:=.none,pyModule:=(.str (S [108,97,119,95,117,99,48,48,48,54,95,48,49]) 451),annotations:=none,code:=(.ref 163),closureTuple:=.none,builtins:=0 }),#[]⟩
noncomputable def ktT (P:Params):KT:=.node (some (ob0 P)) (.node none (.node (some (ob3 P)) (.node none (.node none (.node none .nil (.node none (.node (some (ob159 P)) .nil .nil) .nil)) (.node none (.node (some (ob79 P)) .nil .nil) (.node (some (ob111 P)) .nil .nil))) (.node none (.node none (.node none (.node (some (ob135 P)) .nil .nil) .nil) (.node (some (ob103 P)) .nil .nil)) (.node none (.node (some (ob87 P)) (.node (some (ob151 P)) .nil .nil) .nil) .nil))) (.node none (.node none (.node none .nil (.node (some (ob99 P)) (.node (some (ob163 P)) .nil .nil) .nil)) (.node (some (ob51 P)) (.node none (.node (some (ob147 P)) .nil .nil) .nil) .nil)) (.node none .nil (.node none .nil (.node (some (ob123 P)) .nil .nil))))) (.node none (.node none (.node none (.node none (.node (some (ob65 P)) (.node (some (ob129 P)) .nil .nil) .nil) .nil) .nil) (.node none (.node none (.node (some (ob73 P)) .nil .nil) .nil) (.node none (.node (some (ob89 P)) .nil .nil) .nil))) (.node none (.node none (.node (some (ob37 P)) .nil .nil) (.node none .nil (.node (some (ob117 P)) .nil .nil))) (.node none (.node (some (ob45 P)) (.node none (.node (some (ob141 P)) .nil .nil) .nil) .nil) .nil)))) (.node (some (ob2 P)) (.node (some (ob4 P)) (.node none (.node none .nil (.node none (.node (some (ob80 P)) .nil .nil) .nil)) (.node none (.node none (.node (some (ob72 P)) .nil .nil) (.node (some (ob104 P)) .nil .nil)) (.node none (.node none (.node (some (ob152 P)) .nil .nil) .nil) .nil))) (.node none (.node none (.node none .nil (.node none (.node (some (ob164 P)) .nil .nil) .nil)) (.node (some (ob52 P)) .nil .nil)) (.node none (.node (some (ob44 P)) .nil .nil) .nil))) (.node none (.node none (.node none (.node none (.node (some (ob66 P)) (.node (some (ob130 P)) .nil .nil) .nil) (.node (some (ob98 P)) .nil .nil)) (.node none (.node none (.node (some (ob146 P)) .nil .nil) .nil) .nil)) (.node none .nil (.node none (.node (some (ob90 P)) .nil .nil) (.node (some (ob122 P)) .nil .nil)))) (.node none (.node none (.node (some (ob38 P)) (.node none (.node (some (ob134 P)) .nil .nil) .nil) .nil) (.node none (.node (some (ob86 P)) .nil .nil) (.node (some (ob118 P)) .nil .nil))) (.node none (.node none (.node none (.node (some (ob142 P)) .nil .nil) .nil) (.node (some (ob110 P)) .nil .nil)) (.node none (.node none (.node (some (ob158 P)) .nil .nil) .nil) .nil)))))
noncomputable def ktL (P:Params):Frag:=[(0,ob0 P),(2,ob2 P),(3,ob3 P),(4,ob4 P),(37,ob37 P),(38,ob38 P),(44,ob44 P),(45,ob45 P),(51,ob51 P),(52,ob52 P),(65,ob65 P),(66,ob66 P),(72,ob72 P),(73,ob73 P),(79,ob79 P),(80,ob80 P),(86,ob86 P),(87,ob87 P),(89,ob89 P),(90,ob90 P),(98,ob98 P),(99,ob99 P),(103,ob103 P),(104,ob104 P),(110,ob110 P),(111,ob111 P),(117,ob117 P),(118,ob118 P),(122,ob122 P),(123,ob123 P),(129,ob129 P),(130,ob130 P),(134,ob134 P),(135,ob135 P),(141,ob141 P),(142,ob142 P),(146,ob146 P),(147,ob147 P),(151,ob151 P),(152,ob152 P),(158,ob158 P),(159,ob159 P),(163,ob163 P),(164,ob164 P)]
theorem ktT_of (P:Params):KT.of (ktL P)=ktT P:=by kernel_rfl
noncomputable abbrev KTX (w:World):KT:=ktT w.params
noncomputable def ktLow:KT→Nat→Nat→Nat→Bool
  | .nil,_,_,_=>true
  | .node v l r,s,b,N=>match v with
    | some _=>Nat.blt b N && (ktLow l (2*s) (s+b) N && ktLow r (2*s) (2*s+b) N)
    | none=>ktLow l (2*s) (s+b) N && ktLow r (2*s) (2*s+b) N
theorem ktLow_ok (N:Nat):∀ (t:KT) (s b:Nat),ktLow t s b N=true→∀ j,N≤s*j+b→t.get j=none
  | .nil,_,_,_,_,_=>rfl
  | .node v l r,s,b,h,j,hj=>by
    have hh:ktLow l (2*s) (s+b) N=true∧ktLow r (2*s) (2*s+b) N=true:=by
      unfold ktLow at h
      split at h <;> simp only [Bool.and_eq_true] at h
      · exact h.2
      · exact h
    rw [KT.get_node]
    by_cases h0:j=0
    · rw [if_pos h0]
      subst h0
      rw [Nat.mul_zero,Nat.zero_add] at hj
      cases v with
      | none=>rfl
      | some o=>
        unfold ktLow at h
        simp only [Bool.and_eq_true] at h
        have:b<N:=Nat.le_of_ble_eq_true h.1
        omega
    · rw [if_neg h0]
      by_cases p:j % 2=1
      · rw [if_pos p]
        refine ktLow_ok N l _ _ hh.1 _ ?_
        have:2*s*(j / 2)+(s+b)=s*j+b:=by
          have hj:j=2*(j / 2)+1:=by omega
          generalize j / 2=q at hj
          subst hj
          rw [Nat.mul_add,Nat.mul_one,← Nat.mul_assoc,Nat.mul_comm s 2]; omega
        rw [this]; exact hj
      · rw [if_neg p]
        refine ktLow_ok N r _ _ hh.2 _ ?_
        have:2*s*(j / 2-1)+(2*s+b)=s*j+b:=by
          have hj:j=2*(j / 2-1)+2:=by omega
          generalize j / 2-1=q at hj
          subst hj
          rw [Nat.mul_add,← Nat.mul_assoc,Nat.mul_comm s 2]; omega
        rw [this]; exact hj
theorem ktx_bound (w:World):∀ a,165≤a→(KTX w).get a=none:=fun a ha=>
  ktLow_ok 165 (KTX w) 1 0 (by kernel_rfl) a (by omega)
theorem ktx_stat (w:World):((KTX w).get cStatics).isSome=true:=by kernel_rfl
theorem ktx_113 (w:World):(KTX w).get 113=none:=by kernel_rfl
noncomputable abbrev lst (xs:Array Value) (e:Nat:=0):Obj:=⟨.type "list",none,.seq xs e,#[]⟩
noncomputable abbrev M (w:World):Model:=model PR w
noncomputable abbrev Ok (w:World) (D:Nat) (s:Sm):Prop:=SmOk PR w (KTX w) D s
noncomputable def AllOk (w:World) (D:Nat):Its→Prop
  | .nil=>True
  | .cons it rest=>Ok w D it.s∧∀ v,AllOk w D (rest v)
  | .swap t₀ t₁ rest=>(∀ V:VS,SwapOk V t₀ t₁)∧AllOk w D rest
theorem allOk_its {w:World} {V:VS} {D:Nat} (h1:V.prog=PR) (h2:V.w=w) (h3:V.kt=KTX w) (h4:V.D=D):∀ {l:Its},AllOk w D l→ItsOk V l
  | .nil,_=>trivial
  | .swap _ _ rest,h=>⟨h.1 V,allOk_its h1 h2 h3 h4 h.2⟩
  | .cons it rest,h=>⟨by rw [h1,h2,h3,h4]; exact h.1,fun v=>allOk_its h1 h2 h3 h4 (h.2 v)⟩
noncomputable def resOf (t:Sem Fin):Option Result:=match t with
  | .pure f=>match f with
    | .done f=>some (.ok f)
    | .again _=>none
  | .raise e=>some (.error e)
  | _=>none
noncomputable def againAt (t:Sem Fin):Option Code:=match t with
  | .pure f=>match f with
    | .again c=>some c
    | .done _=>none
  | _=>none
noncomputable def leafT:Result→Sem Fin
  | .ok f=>.pure (.done f)
  | .error e=>.raise e
theorem resOf_eq {t:Sem Fin} {r:Result} (h:resOf t=some r):t=leafT r:=by
  unfold resOf at h
  split at h
  · split at h
    · cases h; rfl
    · cases h
  · cases h; rfl
  · cases h
theorem again_eq {t:Sem Fin} {c:Code} (h:againAt t=some c):t=.pure (.again c):=by
  unfold againAt at h
  split at h
  · split at h
    · cases h; rfl
    · cases h
  · cases h
theorem map_eq {α:Type}:∀ (l:List (α × α)),l.map (·.1)=l.map (·.2)→∀ p∈l,p.1=p.2
  | [],_,_,h=>nomatch h
  | x::l,e,p,h=>by
    rw [List.map_cons,List.map_cons] at e
    injection e with e1 e2
    rcases List.mem_cons.mp h with rfl | h
    · exact e1
    · exact map_eq l e2 p h
noncomputable def newL (k:Nat) (S:Led) (T:BT) (n:Nat):List Nat→Option Led
  | []=>some []
  | q::l=>match Nat.beq (q % 2) 0 with
    | true=>match T.get (q / 2) with
      | some o=>match newL k S T n l with
        | some r=>some ((n+q / 2,o)::r)
        | none=>none
      | none=>none
    | false=>match Nat.ble k (q / 2) with
      | true=>match nth S (q / 2) with
        | some x=>match newL k S T n l with
          | some r=>some (x::r)
          | none=>none
        | none=>none
      | false=>none
section
variable {V:VS} {n:Nat} {G:List Led} {h:Heap} {S:Led} {T:BT} {m:Nat}
theorem nth_drop {S:Led} {k j:Nat} {x:Addr × Obj} (e:nth S j=some x) (h:k≤j):x∈S.drop k:=by
  induction S generalizing k j with
  | nil=>cases e
  | cons y S ih=>
    cases k with
    | zero=>exact nth_mem _ _ _ e
    | succ k=>
      cases j with
      | zero=>exact absurd h (by omega)
      | succ j=>exact ih (k:=k) e (by omega)
theorem beq_mod {q:Nat} (h:Nat.beq (q % 2) 0=true):q=2*(q / 2):=by have:=Nat.eq_of_beq_eq_true h; omega
theorem nbeq_mod {q:Nat} (h:Nat.beq (q % 2) 0=false):q=2*(q / 2)+1:=by have:=Nat.ne_of_beq_eq_false h; omega
theorem newL_mem (D:Rep V n G h S T m) {k:Nat} (hk:V.O.length=k):∀ (l:List Nat) (L:Led),l.Nodup→newL k S T n l=some L →
    (∀ x∈L,h.get? x.1=some x.2∧V.n₁≤x.1∧∃ q∈l,(Nat.beq (q % 2) 0=true∧x.1=n+q / 2) ∨ (Nat.beq (q % 2) 0=false∧nth S (q / 2)=some x))∧(L.map (·.1)).Nodup
  | [],L,_,e=>by cases e; exact ⟨fun _ h=>(nomatch h),List.nodup_nil⟩
  | q::l,L,nd,e=>by
    rw [List.nodup_cons] at nd
    have ext:∀ x∈S.drop k,V.n₁≤x.1:=fun x hx=>by
      obtain ⟨E,hE,hl⟩:=D.keys
      have:(S.drop k).map (·.1)=E:=by
        rw [List.map_drop,hE,← hk,List.drop_append_of_le_length (by simp),List.drop_of_length_le (by simp),List.nil_append]
      exact hl _ (this ▸ List.mem_map_of_mem hx)
    have inj:∀ {q':Nat} {x y:Addr × Obj},((Nat.beq (q % 2) 0=true∧x.1=n+q / 2) ∨ (Nat.beq (q % 2) 0=false∧nth S (q / 2)=some x))→((Nat.beq (q' % 2) 0=true∧y.1=n+q' / 2) ∨ (Nat.beq (q' % 2) 0=false∧nth S (q' / 2)=some y))→x.1=y.1→q=q':=fun {q' x y} h1 h2 e=>by
      rcases h1 with ⟨a,b⟩ | ⟨a,b⟩ <;> rcases h2 with ⟨a',b'⟩ | ⟨a',b'⟩
      · have:=beq_mod a; have:=beq_mod a'
        have:q / 2=q' / 2:=Nat.add_left_cancel (b.symm.trans (e.trans b'))
        omega
      · have:=D.low _ (List.mem_map_of_mem (f:=(·.1)) (nth_mem _ _ _ b'))
        rw [← e,b] at this
        exact absurd this (Nat.not_lt.mpr (Nat.le_add_right ..))
      · have:=D.low _ (List.mem_map_of_mem (f:=(·.1)) (nth_mem _ _ _ b))
        rw [e,b'] at this
        exact absurd this (Nat.not_lt.mpr (Nat.le_add_right ..))
      · have a1:=nth_at _ _ _ b
        have a2:=nth_at _ _ _ b'
        rw [← e] at a2
        have pw:=List.pairwise_iff_getElem.mp D.nodup
        obtain ⟨l1,g1⟩:=List.getElem?_eq_some_iff.mp a1
        obtain ⟨l2,g2⟩:=List.getElem?_eq_some_iff.mp a2
        have ee:=g1.trans g2.symm
        have o1:=nbeq_mod a
        have o2:=nbeq_mod a'
        rcases Nat.lt_trichotomy (q / 2) (q' / 2) with hlt | heq | hgt
        · exact absurd ee (pw _ _ l1 l2 hlt)
        · omega
        · exact absurd ee.symm (pw _ _ l2 l1 hgt)
    have fin:∀ x r,newL k S T n l=some r→L=x::r→h.get? x.1=some x.2→V.n₁≤x.1→((Nat.beq (q % 2) 0=true∧x.1=n+q / 2) ∨ (Nat.beq (q % 2) 0=false∧nth S (q / 2)=some x)) →
        (∀ x∈L,h.get? x.1=some x.2∧V.n₁≤x.1∧∃ q'∈q::l,(Nat.beq (q' % 2) 0=true∧x.1=n+q' / 2) ∨ (Nat.beq (q' % 2) 0=false∧nth S (q' / 2)=some x))∧(L.map (·.1)).Nodup:=fun x r er eL g1 g2 g3=>by
      obtain ⟨A,N⟩:=newL_mem D hk l r nd.2 er
      subst eL
      refine ⟨fun y hy=>?_,?_⟩
      · rcases List.mem_cons.mp hy with rfl | hy
        · exact ⟨g1,g2,q,.head _,g3⟩
        · obtain ⟨a,b,q',hq',c⟩:=A y hy
          exact ⟨a,b,q',.tail _ hq',c⟩
      · rw [List.map_cons,List.nodup_cons]
        refine ⟨fun hm=>?_,N⟩
        obtain ⟨y,hy,ey⟩:=List.mem_map.mp hm
        obtain ⟨_,_,q',hq',c⟩:=A y hy
        exact nd.1 (inj g3 c ey.symm ▸ hq')
    unfold newL at e
    split at e
    · rename_i hq
      split at e
      · rename_i o eo
        split at e
        · rename_i r er
          cases e
          exact fin _ r er rfl (D.own _ _ eo).2 (Nat.le_trans D.le (Nat.le_add_right ..)) (.inl ⟨hq,rfl⟩)
        · cases e
      · cases e
    · rename_i hq
      split at e
      · rename_i hb
        split at e
        · rename_i x ex
          split at e
          · rename_i r er
            cases e
            exact fin x r er rfl (D.olds _ (nth_mem _ _ _ ex)) (ext x (nth_drop ex (Nat.le_of_ble_eq_true hb))) (.inr ⟨hq,ex⟩)
          · cases e
        · cases e
      · cases e
end
noncomputable def allGe (k:Nat):List Nat→Bool
  | []=>true
  | j::l=>match Nat.ble k j with
    | true=>allGe k l
    | false=>false
theorem allGe_of {k:Nat}:∀ {l:List Nat},allGe k l=true→∀ j∈l,k≤j
  | [],_,_,h=>nomatch h
  | i::l,e,j,h=>by
    unfold allGe at e
    split at e
    · rename_i hb
      rcases List.mem_cons.mp h with rfl | h
      · exact Nat.le_of_ble_eq_true hb
      · exact allGe_of e j h
    · cases e
noncomputable def newG (k:Nat) (G:List Led) (l:List Nat):Option Led:=match allGe k l with
  | true=>gpick G l
  | false=>none
theorem newG_pick {k:Nat} {G:List Led} {l:List Nat} {P:Led} (e:newG k G l=some P):gpick G l=some P∧∀ j∈l,k≤j:=by
  unfold newG at e
  split at e
  · rename_i h
    exact ⟨e,allGe_of h⟩
  · cases e
noncomputable def both (a b:Option Led):Option Led:=match a with
  | some a=>match b with
    | some b=>some (apL a b)
    | none=>none
  | none=>none
structure EndV where
  ok:Bool
  tr:List Nat
  eq:List EV
  md:Option (List Frame)
  κ:Kont
  res:Option Result
  old:Led
  news:Option Led
  size:Nat × Nat
  gl:List GenState
noncomputable def endL (r:St) (k:Nat) (ix:List Nat) (gk:Nat) (gx:List Nat):EndV:=match r with
  | ⟨ok,_,md,κ,t,S,T,m,i,gl,_,tr,eq,n,tk,G⟩=>⟨ok,tr.map (·.1),eq.map (·.1),md,κ,resOf t,takeL k S,both (newL k S T n ix) (newG gk G gx),(n+m,tk+i),gl⟩
noncomputable def endR (r:St) (s:Sm) (r1:Led) (v:Nv):EndV:=match r with
  | ⟨_,_,_,_,_,_,_,_,_,_,_,tr,eq,_,_,_⟩=>⟨true,tr.map (·.2),eq.map (·.2),none,.base,some (s.res v),apL (s.post v) r1,some (s.news v),(v.a 0,v.a 1),s.gens⟩
noncomputable abbrev VG (w:World) (D:Nat) (d:Nat) (fr:Option (List Env)) (gs:Option (List Code)) (u:Nat) (R:Result→Shared→Prop) (st:Shared) (n:Nat) (L:Led) (g:List Led):VS:=⟨PR,w,KTX w,st.heap,n,L,st.gens,st.gens.size,⟨none,d,fr,gs,u⟩,R,st.drawn,st.toks,st.os,D,g⟩
noncomputable abbrev VN (w:World) (D:Nat) (d:Nat) (fr:Option (List Env)) (gs:Option (List Code)) (u:Nat) (R:Result→Shared→Prop) (st:Shared) (n:Nat) (L:Led):VS:=VG w D d fr gs u R st n L []
theorem vg_ok {w:World} {D d u:Nat} {fr:Option (List Env)} {gs:Option (List Code)} {R:Result→Shared→Prop} {st:Shared} {s:Sm} {r1:Led} {g:List Led} (hD:D≤780) (hg:s.rpre=r1++g.flatten) (B:Base (KTX w) st.heap) (K:aT (KTX w) st.heap (s.mpre++s.rpre)) (cd:2*d≤D+780) (cu:u≤2*D) :
    (VG w (D+60) d fr gs u R st st.heap.objs.size (s.mpre++r1) g).Ok:=by
  rw [hg,← List.append_assoc] at K
  have nd:=K.nodup
  rw [List.map_append,List.nodup_append] at nd
  exact ⟨rfl,B.holds,fun x hx=>K.olds x (List.mem_append_left _ hx),nd.1,fun x hx=>K.apart x (List.mem_append_left _ hx),B.lim,B.stat,by show d+150<1000; omega,by show u+300<cLine; unfold cLine; omega,rfl,B.bound,B.low,by show 2*d+60≤D+60+780; omega,by show u+120≤2*(D+60); omega,
    fun x hx=>⟨K.olds x (List.mem_append_right _ hx),fun hm=>nd.2.2 _ hm _ (List.mem_map_of_mem hx) rfl,K.apart x (List.mem_append_right _ hx)⟩,nd.2.1⟩
theorem left_of {w:World} {D d u n tk:Nat} {fr:Option (List Env)} {gs:Option (List Code)} {R:Result→Shared→Prop} {st:Shared} {n₀:Nat} {s:Sm} {r1:Led} {g G:List Led} {h:Heap} {S:Led} {T:BT} {m i:Nat} {v:Nv}
    (hg:s.rpre=r1++g.flatten) (X:Rep (VG w D d fr gs u R st n₀ (s.mpre++r1) g) n G h S T m) (hn:st.heap.objs.size=n₀) {ix gx:List Nat} (hx:ix.Nodup) (hgx:gx.Nodup)
    (e1:takeL (s.mpre++r1).length S=apL (s.post v) r1) (e2:both (newL (s.mpre++r1).length S T n ix) (newG g.length G gx)=some (s.news v)) (e3:(n+m,tk+i)=(v.a 0,v.a 1)) (K:aT (KTX w) st.heap (s.mpre++s.rpre)) :
    Left (KTX w) st (sh (VG w D d fr gs u R st n₀ (s.mpre++r1) g) tk h s.gens i) s v:=by
  rw [takeL_eq,apL_eq] at e1
  injection e3 with e3 e4
  have hold:∀ x∈s.post v++r1,h.get? x.1=some x.2:=fun x hx=>X.olds x (List.mem_of_mem_take (e1 ▸ hx))
  obtain ⟨E,hE,hEl⟩:=X.gkeys
  have hgG:∀ x∈g.flatten,x∈G.flatten:=fun x hx=>by rw [hE,List.flatten_append]; exact List.mem_append_left _ hx
  unfold both at e2
  split at e2
  · rename_i A eA
    split at e2
    · rename_i C eC
      injection e2 with e2
      rw [apL_eq] at e2
      obtain ⟨N1,N2⟩:=newL_mem X rfl ix _ hx eA
      obtain ⟨P1,P2⟩:=newG_pick eC
      have N3:∀ x∈C,x∈G.flatten∧n₀≤x.1:=fun x hxc=>by
        obtain ⟨j,hj,L,hL,hxL⟩:=gpick_mem P1 hxc
        refine ⟨gpick_flat P1 hxc,hEl x ?_⟩
        have hj':=P2 j hj
        rw [hE,List.getElem?_append_right hj'] at hL
        exact List.mem_flatten.mpr ⟨L,List.mem_of_getElem? hL,hxL⟩
      refine ⟨⟨fun b o e q=>?_,?_,rfl,rfl⟩,?_,?_,rfl,fun x hx=>hold x (List.mem_append_left _ hx),fun x hx=>?_,?_⟩
      · show h.get? b=some o
        by_cases hb:b∈r1.map (·.1)
        · obtain ⟨x,hx,rfl⟩:=List.mem_map.mp hb
          have:=K.olds x (List.mem_append_right _ (by rw [hg]; exact List.mem_append_left _ hx))
          rw [this] at e
          cases e
          exact hold x (List.mem_append_right _ hx)
        · exact X.keep b o e (by rw [List.map_append,List.mem_append]; exact fun z=>z.elim q hb)
      · show st.heap.objs.size≤h.objs.size
        rw [X.size,hn]; exact Nat.le_trans X.le (Nat.le_add_right ..)
      · show h.objs.size=v.a 0
        rw [X.size]; exact e3
      · exact e4
      · rw [← e2] at hx
        rcases List.mem_append.mp hx with hx | hx
        · exact ⟨(N1 x hx).1,by rw [hn]; exact (N1 x hx).2.1⟩
        · exact ⟨(X.gh x (N3 x hx).1).1,by rw [hn]; exact (N3 x hx).2⟩
      · rw [← e2,List.map_append,List.nodup_append]
        refine ⟨N2,gpick_nodup X.gn hgx P1,fun a ha b hb=>?_⟩
        obtain ⟨x,hx,rfl⟩:=List.mem_map.mp ha
        obtain ⟨y,hy,rfl⟩:=List.mem_map.mp hb
        have gy:=X.gh y (N3 y hy).1
        obtain ⟨_,_,q,_,hq⟩:=N1 x hx
        rcases hq with ⟨_,hq⟩ | ⟨_,hq⟩
        · rw [hq]; exact Nat.ne_of_gt (Nat.lt_of_lt_of_le gy.2.1 (Nat.le_add_right ..))
        · exact fun z=>gy.2.2.1 (z ▸ List.mem_map_of_mem (f:=(·.1)) (nth_mem _ _ _ hq))
    · cases e2
  · cases e2
theorem proveG {w:World} {D:Nat} {s:Sm} (hD:D≤780) (hp:∀ v,(s.post v).map (·.1)=s.mpre.map (·.1)) (r1:Led) (g:List Led) (hg:s.rpre=r1++g.flatten) (its:Nat→Nat→Its) (hs:∀ n t,AllOk w (D+60) (its n t)) (N:Nat) (ora ix:List Nat) (hx:ix.Nodup) (gx:List Nat) (hgx:gx.Nodup) (η:Nat→Nat→(Nat→Om)→Nv)
    (H:∀ d fr gs u R st n₀ ω,endL (run (VG w (D+60) d fr gs u R st n₀ (s.mpre++r1) g) N s.c none .base (bh s.c) ⟨n₀,st.toks,its n₀ st.toks,ω,g⟩ (s.mpre++r1) .nil 0 0 [] ora [] []) (s.mpre++r1).length ix g.length gx =
      endR (run (VG w (D+60) d fr gs u R st n₀ (s.mpre++r1) g) N s.c none .base (bh s.c) ⟨n₀,st.toks,its n₀ st.toks,ω,g⟩ (s.mpre++r1) .nil 0 0 [] ora [] []) s r1 (η n₀ st.toks ω)):Ok w D s:=by
  refine ⟨hp,fun A st R C B K _ F=>?_⟩
  have e:=C.1
  obtain ⟨Ah,d,fr,gs,u⟩:=A
  subst e
  have O:=vg_ok (fr:=fr) (gs:=gs) (R:=R) (w:=w) hD hg B K C.depth C.units
  refine y_code _ _ _ _ _ _ ?_
  have z:=(run_sound O N s.c none .base (bh s.c) st.heap.objs.size st.toks (its _ _) g (s.mpre++r1) .nil 0 0 [] ora [] [] (allOk_its rfl rfl rfl rfl (hs _ _)) fun ω=>by
    have hh:=H d fr gs u R st st.heap.objs.size ω
    generalize run (VG w (D+60) d fr gs u R st st.heap.objs.size (s.mpre++r1) g) N s.c none .base (bh s.c) ⟨st.heap.objs.size,st.toks,its st.heap.objs.size st.toks,ω,g⟩ (s.mpre++r1) .nil 0 0 [] ora [] []=r at hh
    obtain ⟨ok,rc,rmd,rκ,rt,rS,rT,rm,ri,rgl,rora,rtr,req,rn,rtk,rG⟩:=r
    unfold endL endR at hh
    dsimp only at hh
    injection hh with h1 h2 h3 h4 h5 h6 h7 h8 h9 h10
    refine ⟨h1,map_eq _ h2,map_eq _ h3,fun h X=>?_⟩
    have ht:=resOf_eq h6
    subst h4 h5 h10 ht
    have L:=left_of hg X rfl hx hgx h7 h8 h9 K
    have zz:=F _ _ L
    dsimp only
    cases hr:s.res (η st.heap.objs.size st.toks ω) with
    | ok f=>rw [hr] at zz; exact y_pure _ _ _ _ _ _ _ _ _ (y_done _ _ _ _ _ _ zz)
    | error er=>rw [hr] at zz; exact y_raise _ _ _ _ _ _ _ _ _ (y_err _ _ _ zz)).2.2 st.heap (Rep.start O)
  have e:sh (VG w (D+60) d fr gs u R st st.heap.objs.size (s.mpre++r1) g) st.toks st.heap [] 0=st:=by
    unfold sh
    show (⟨st.heap,st.gens++#[],st.drawn,st.toks+0,st.os⟩:Shared)=st
    simp
  rw [e] at z
  rw [denF_eq]
  exact z
theorem prove {w:World} {D:Nat} {s:Sm} (hD:D≤780) (hp:∀ v,(s.post v).map (·.1)=s.mpre.map (·.1)) (its:Nat→Nat→Its) (hs:∀ n t,AllOk w (D+60) (its n t)) (N:Nat) (ora ix:List Nat) (hx:ix.Nodup) (η:Nat→Nat→(Nat→Om)→Nv)
    (H:∀ d fr gs u R st n₀ ω,endL (run (VN w (D+60) d fr gs u R st n₀ (s.mpre++s.rpre)) N s.c none .base (bh s.c) ⟨n₀,st.toks,its n₀ st.toks,ω,[]⟩ (s.mpre++s.rpre) .nil 0 0 [] ora [] []) (s.mpre++s.rpre).length ix 0 [] =
      endR (run (VN w (D+60) d fr gs u R st n₀ (s.mpre++s.rpre)) N s.c none .base (bh s.c) ⟨n₀,st.toks,its n₀ st.toks,ω,[]⟩ (s.mpre++s.rpre) .nil 0 0 [] ora [] []) s s.rpre (η n₀ st.toks ω)):Ok w D s:=
  proveG hD hp s.rpre [] (by simp) its hs N ora ix hx [] List.nodup_nil η H
structure EndT where
  ok:Bool
  tr:List Nat
  eq:List EV
  md:Option (List Frame)
  κ:Kont
  c:Option Code
  fit:Bool
  m:Option Led
  r:Option Led
  res:Result
  old:Led
  news:Option Led
  size:Nat × Nat
  gl:List GenState
noncomputable def tailL (it:It) (v':Nv) (r:St) (k:Nat) (ix:List Nat) (gk:Nat) (gx:List Nat):EndT:=match r with
  | ⟨ok,_,md,κ,t,S,T,_,_,gl,_,tr,eq,n,_,G⟩=>⟨ok,tr.map (·.1),eq.map (·.1),md,κ,againAt t,Bool.and (quietK it.s.c) (Bool.and (Bool.and (nodupN it.keep) (nodupN it.gx)) (nodupN (it.mx++it.rx))),nthAll (apL S (keepL n T it.keep)) it.mx,askL (apL S (keepL n T it.keep)) G it,
      it.s.res v',takeL k (behindS S n T it v'),both (newL k (behindS S n T it v') .nil 0 ix) (newG gk (behindG G it v') gx),(v'.a 0,v'.a 1),gl++it.s.gens⟩
noncomputable def tailR (it:It) (r:St) (s:Sm) (r1:Led) (v:Nv):EndT:=match r with
  | ⟨_,_,_,_,_,_,_,_,_,_,_,tr,eq,_,_,_⟩=>⟨true,tr.map (·.2),eq.map (·.2),none,.base,some it.s.c,true,some it.s.mpre,some it.s.rpre,s.res v,apL (s.post v) r1,some (s.news v),(v.a 0,v.a 1),s.gens⟩
theorem newL_nil {n:Nat} {S:Led} {k:Nat}:∀ (l:List Nat),newL k S .nil 0 l=newL k S .nil n l
  | []=>rfl
  | q::l=>by
    unfold newL
    rw [newL_nil (n:=n) l]
    cases Nat.beq (q % 2) 0 <;> rfl
theorem proveTG {w:World} {D:Nat} {s:Sm} (hD:D≤780) (hp:∀ v,(s.post v).map (·.1)=s.mpre.map (·.1)) (r1:Led) (g:List Led) (hg:s.rpre=r1++g.flatten) (its:Nat→Nat→Its) (hs:∀ n t,AllOk w (D+60) (its n t)) (it:Nat→Nat→(Nat→Om)→It) (hit:∀ n t ω,Ok w D (it n t ω).s) (N:Nat) (ora ix:List Nat) (hx:ix.Nodup) (gx:List Nat) (hgx:gx.Nodup) (η:Nat→Nat→(Nat→Om)→Nv→Nv)
    (H:∀ d fr gs u R st n₀ ω v',tailL (it n₀ st.toks ω) v' (run (VG w (D+60) d fr gs u R st n₀ (s.mpre++r1) g) N s.c none .base (bh s.c) ⟨n₀,st.toks,its n₀ st.toks,ω,g⟩ (s.mpre++r1) .nil 0 0 [] ora [] []) (s.mpre++r1).length ix g.length gx =
      tailR (it n₀ st.toks ω) (run (VG w (D+60) d fr gs u R st n₀ (s.mpre++r1) g) N s.c none .base (bh s.c) ⟨n₀,st.toks,its n₀ st.toks,ω,g⟩ (s.mpre++r1) .nil 0 0 [] ora [] []) s r1 (η n₀ st.toks ω v'))
    (hz:∀ n t ω,(it n t ω).s.sz=none:=by intros; rfl):Ok w D s:=by
  refine ⟨hp,fun A st R C B K _ F=>?_⟩
  have e:=C.1
  obtain ⟨Ah,d,fr,gs,u⟩:=A
  subst e
  have cd:2*d≤D+780:=C.depth
  have cu:u≤2*D:=C.units
  have O:=vg_ok (fr:=fr) (gs:=gs) (R:=R) (w:=w) hD hg B K cd cu
  refine y_code _ _ _ _ _ _ ?_
  have z:=(run_sound O N s.c none .base (bh s.c) st.heap.objs.size st.toks (its _ _) g (s.mpre++r1) .nil 0 0 [] ora [] [] (allOk_its rfl rfl rfl rfl (hs _ _)) fun ω=>by
    have hh:=H d fr gs u R st st.heap.objs.size ω
    generalize run (VG w (D+60) d fr gs u R st st.heap.objs.size (s.mpre++r1) g) N s.c none .base (bh s.c) ⟨st.heap.objs.size,st.toks,its st.heap.objs.size st.toks,ω,g⟩ (s.mpre++r1) .nil 0 0 [] ora [] []=r at hh
    obtain ⟨ok,rc,rmd,rκ,rt,rS,rT,rm,ri,rgl,rora,rtr,req,rn,rtk,rG⟩:=r
    unfold tailL tailR at hh
    dsimp only at hh
    have h0:=hh v0
    injection h0 with h1 h2 h3 h4 h5 h6 h7 h8 h9 _ _ _ _ h14
    refine ⟨h1,map_eq _ h2,map_eq _ h3,fun h X=>?_⟩
    have ht:=again_eq h6
    rw [Bool.and_eq_true,Bool.and_eq_true,Bool.and_eq_true] at h7
    subst h4 h5 ht
    refine y_pure _ _ _ _ _ _ _ _ _ (y_again _ _ _ _ _ _ (quietK_ok h7.1) ?_)
    refine (hit _ _ _).2 _ _ _ ⟨rfl,cd,cu⟩ (rep_base O X) (ask_led O X (aW h7.2.1.1) (aW h7.2.1.2) (aW h7.2.2) (by rw [← apL_eq]; exact h8) (by rw [← apL_eq]; exact h9)) (fun k e=>by rw [hz] at e; cases e) fun st' v' F'=>?_
    have Z:=behind_rep O X (aW h7.2.1.1) (by rw [← apL_eq]; exact h8) ((hit _ _ _).1 v') rfl rfl F'
    have hv:=hh v'
    injection hv with _ _ _ _ _ _ _ _ _ h10 h11 h12 h13 _
    have L:=left_of (tk:=v'.a 1) (i:=0) hg Z rfl hx hgx h11 (by rw [← newL_nil ix]; exact h12) h13 K
    have zz:=F _ _ L
    rw [← h10] at zz
    have e:sh (VG w (D+60) d fr gs u R st st.heap.objs.size (s.mpre++r1) g) (v'.a 1) st'.heap s.gens 0=st':=by
      have f:=F'.after
      obtain ⟨sh',sg,sd,st1,so⟩:=st'
      have h1:sg=st.gens++rgl.toArray++(it st.heap.objs.size st.toks ω).s.gens.toArray:=F'.gens
      have h2:sd=st.drawn:=f.drawn
      have h3:so=st.os:=f.os
      have h4:st1=v'.a 1:=F'.toks
      subst h1 h2 h3 h4
      rw [← h14]
      unfold sh
      congr 1
      apply Array.ext'
      simp
    rw [e] at zz
    exact zz).2.2 st.heap (Rep.start O)
  have e:sh (VG w (D+60) d fr gs u R st st.heap.objs.size (s.mpre++r1) g) st.toks st.heap [] 0=st:=by
    unfold sh
    show (⟨st.heap,st.gens++#[],st.drawn,st.toks+0,st.os⟩:Shared)=st
    simp
  rw [e] at z
  rw [denF_eq]
  exact z
theorem proveT {w:World} {D:Nat} {s:Sm} (hD:D≤780) (hp:∀ v,(s.post v).map (·.1)=s.mpre.map (·.1)) (its:Nat→Nat→Its) (hs:∀ n t,AllOk w (D+60) (its n t)) (it:Nat→Nat→(Nat→Om)→It) (hit:∀ n t ω,Ok w D (it n t ω).s) (N:Nat) (ora ix:List Nat) (hx:ix.Nodup) (η:Nat→Nat→(Nat→Om)→Nv→Nv)
    (H:∀ d fr gs u R st n₀ ω v',tailL (it n₀ st.toks ω) v' (run (VN w (D+60) d fr gs u R st n₀ (s.mpre++s.rpre)) N s.c none .base (bh s.c) ⟨n₀,st.toks,its n₀ st.toks,ω,[]⟩ (s.mpre++s.rpre) .nil 0 0 [] ora [] []) (s.mpre++s.rpre).length ix 0 [] =
      tailR (it n₀ st.toks ω) (run (VN w (D+60) d fr gs u R st n₀ (s.mpre++s.rpre)) N s.c none .base (bh s.c) ⟨n₀,st.toks,its n₀ st.toks,ω,[]⟩ (s.mpre++s.rpre) .nil 0 0 [] ora [] []) s s.rpre (η n₀ st.toks ω v'))
    (hz:∀ n t ω,(it n t ω).s.sz=none:=by intros; rfl):Ok w D s:=
  proveTG hD hp s.rpre [] (by simp) its hs it hit N ora ix hx [] List.nodup_nil η H hz
noncomputable def nuA (l:List Nat) (f:Nat→Nat) (k:Nat):Nat:=match l with
  | []=>f k
  | x::l=>match k with
    | 0=>x
    | k+1=>nuA l f k
noncomputable def nuO (l:List Obj) (k:Nat):Obj:=match l with
  | []=>⟨.none,none,.plain,#[]⟩
  | x::l=>match k with
    | 0=>x
    | k+1=>nuO l k
noncomputable def nuX (l:List Value) (k:Nat):Value:=match l with
  | []=>.none
  | x::l=>match k with
    | 0=>x
    | k+1=>nuX l k
noncomputable def nu (l:List Nat) (os:List Obj:=[]) (xs:List Value:=[]) (f:Nat→Nat:=fun _=>0) (g:Nat→Nat→Nat:=fun _ _=>0):Nv:=⟨nuA l f,nuO os,nuX xs,g⟩
noncomputable abbrev it5 (q:Nat) (keep mx rx:List Nat) (s:Sm):It:=⟨q,keep,mx,rx,s,[],none⟩
structure Sw where
  t₀:Sem Fin
  t₁:Sem Fin
noncomputable def envF (k fa cd:Nat) (qual:Str) (L:Addr) (cells:List (Str × Addr)):Env:=
  { scope:=fnS (topS k),locals:=L,globals:=3,cells:=cells,qual:=qual,func:=some fa,code:=.ref cd,frame:=some L,builtins:=0 }
noncomputable def forC (st:Stmt) (it:Value) (env:Env):Code:=match st with
  | .For t _ b o _=>.forLoop t it b o env
  | _=>.func [] env
noncomputable abbrev fnb (k:Nat):List Stmt:=fnB (topS k)
noncomputable abbrev sto (k j:Nat):Stmt:=nthS (fnB (topS k)) j
noncomputable def frm (es:Array DictEntry) (n:Nat):Obj:=⟨.type "frame",none,.dict es n,#[]⟩
noncomputable def lit (l:Addr) (k:Int):Obj:=⟨.type "list_iterator",none,.fields #[.ref l,.int k 0],#[]⟩
theorem upto6 {α:Type} {P:List α→Prop} (h0:P []) (h1:∀ a,P [a]) (h2:∀ a b,P [a,b]) (h3:∀ a b c,P [a,b,c]) (h4:∀ a b c d,P [a,b,c,d]) (h5:∀ a b c d e,P [a,b,c,d,e]) (h6:∀ a b c d e f,P [a,b,c,d,e,f]) :
    ∀ l:List α,l.length≤6→P l
  | [],_=>h0
  | [a],_=>h1 a
  | [a,b],_=>h2 a b
  | [a,b,c],_=>h3 a b c
  | [a,b,c,d],_=>h4 a b c d
  | [a,b,c,d,e],_=>h5 a b c d e
  | [a,b,c,d,e,f],_=>h6 a b c d e f
  | _::_::_::_::_::_::_::_,h=>by simp at h
structure Gn where
  s:Sm
  l:List GenState
noncomputable def OkG (w:World) (D:Nat) (s:Sm) (gb:Nat) (gl0:List GenState):Prop:=
  (∀ v,(s.post v).map (·.1)=s.mpre.map (·.1))∧∀ A st R g₀,Calm A D (2*D)→Base (KTX w) st.heap→aT (KTX w) st.heap (s.mpre++s.rpre)→st.gens=g₀++gl0.toArray→g₀.size=gb →
    (∀ st' v,Left (KTX w) { st with gens:=g₀ } st' s v→R (s.res v) st')→codeAny (model PR w) A s.c R st
noncomputable abbrev VH (w:World) (D:Nat) (d:Nat) (fr:Option (List Env)) (gs:Option (List Code)) (u:Nat) (R:Result→Shared→Prop) (st:Shared) (n:Nat) (L:Led) (gb:Nat):VS:=⟨PR,w,KTX w,st.heap,n,L,st.gens,gb,⟨none,d,fr,gs,u⟩,R,st.drawn,st.toks,st.os,D,[]⟩
theorem proveH {w:World} {D:Nat} {s:Sm} {gb:Nat} {gl0:List GenState} (hD:D≤780) (hp:∀ v,(s.post v).map (·.1)=s.mpre.map (·.1)) (its:Nat→Nat→Its) (hs:∀ n t,AllOk w (D+60) (its n t)) (N:Nat) (ora ix:List Nat) (hx:ix.Nodup) (η:Nat→Nat→(Nat→Om)→Nv)
    (H:∀ d fr gs u R st n₀ ω,endL (run (VH w (D+60) d fr gs u R st n₀ (s.mpre++s.rpre) gb) N s.c none .base (bh s.c) ⟨n₀,st.toks,its n₀ st.toks,ω,[]⟩ (s.mpre++s.rpre) .nil 0 0 gl0 ora [] []) (s.mpre++s.rpre).length ix 0 [] =
      endR (run (VH w (D+60) d fr gs u R st n₀ (s.mpre++s.rpre) gb) N s.c none .base (bh s.c) ⟨n₀,st.toks,its n₀ st.toks,ω,[]⟩ (s.mpre++s.rpre) .nil 0 0 gl0 ora [] []) s s.rpre (η n₀ st.toks ω)):OkG w D s gb gl0:=by
  refine ⟨hp,fun A stt R g₀ C B K hg0 hgb F=>?_⟩
  have e:=C.1
  obtain ⟨Ah,d,fr,gs,u⟩:=A
  subst e hgb
  obtain ⟨hp₀,gens,dr,tk₀,os⟩:=stt
  have hg0:gens=g₀++gl0.toArray:=hg0
  subst hg0
  let st:Shared:=⟨hp₀,g₀,dr,tk₀,os⟩
  have O:=vg_ok (fr:=fr) (gs:=gs) (R:=R) (w:=w) (st:=st) (r1:=s.rpre) (g:=[]) hD (by simp) B K C.depth C.units
  refine y_code _ _ _ _ _ _ ?_
  have z:=(run_sound O N s.c none .base (bh s.c) st.heap.objs.size st.toks (its _ _) [] (s.mpre++s.rpre) .nil 0 0 gl0 ora [] [] (allOk_its rfl rfl rfl rfl (hs _ _)) fun ω=>by
    have hh:=H d fr gs u R st st.heap.objs.size ω
    generalize run (VG w (D+60) d fr gs u R st st.heap.objs.size (s.mpre++s.rpre) []) N s.c none .base (bh s.c) ⟨st.heap.objs.size,st.toks,its st.heap.objs.size st.toks,ω,[]⟩ (s.mpre++s.rpre) .nil 0 0 gl0 ora [] []=r at hh
    obtain ⟨ok,rc,rmd,rκ,rt,rS,rT,rm,ri,rgl,rora,rtr,req,rn,rtk,rG⟩:=r
    unfold endL endR at hh
    dsimp only at hh
    injection hh with h1 h2 h3 h4 h5 h6 h7 h8 h9 h10
    refine ⟨h1,map_eq _ h2,map_eq _ h3,fun h X=>?_⟩
    have ht:=resOf_eq h6
    subst h4 h5 h10 ht
    have L:=left_of (r1:=s.rpre) (g:=[]) (by simp) X rfl hx List.nodup_nil h7 h8 h9 K
    have zz:=F _ _ L
    dsimp only
    cases hr:s.res (η st.heap.objs.size st.toks ω) with
    | ok f=>rw [hr] at zz; exact y_pure _ _ _ _ _ _ _ _ _ (y_done _ _ _ _ _ _ zz)
    | error er=>rw [hr] at zz; exact y_raise _ _ _ _ _ _ _ _ _ (y_err _ _ _ zz)).2.2 st.heap (Rep.start O)
  have e:sh (VG w (D+60) d fr gs u R st st.heap.objs.size (s.mpre++s.rpre) []) st.toks st.heap gl0 0=(⟨hp₀,g₀++gl0.toArray,dr,tk₀,os⟩:Shared):=rfl
  rw [e] at z
  rw [denF_eq]
  exact z
noncomputable def tailHL (it:It) (v':Nv) (r:St) (k:Nat) (ix:List Nat):EndT × List GenState:=match tailL it v' r k ix 0 [] with
  | ⟨a,b,c,d,e,f,g,h,i,j,k,l,m,_⟩=>(⟨a,b,c,d,e,f,g,h,i,j,k,l,m,it.s.gens⟩,r.gl)
noncomputable def tailHR (it:It) (gl1:List GenState) (r:St) (s:Sm) (v:Nv):EndT × List GenState:=(tailR it r s s.rpre v,gl1)
theorem proveTH {w:World} {D:Nat} {s:Sm} {gb:Nat} {gl0:List GenState} (hD:D≤780) (hp:∀ v,(s.post v).map (·.1)=s.mpre.map (·.1)) (its:Nat→Nat→Its) (hs:∀ n t,AllOk w (D+60) (its n t)) (it:Nat→Nat→(Nat→Om)→It) (gl1:Nat→Nat→(Nat→Om)→List GenState) (hit:∀ n t ω,OkG w D (it n t ω).s gb (gl1 n t ω)) (N:Nat) (ora ix:List Nat) (hx:ix.Nodup) (η:Nat→Nat→(Nat→Om)→Nv→Nv)
    (H:∀ d fr gs u R st n₀ ω v',tailHL (it n₀ st.toks ω) v' (run (VH w (D+60) d fr gs u R st n₀ (s.mpre++s.rpre) gb) N s.c none .base (bh s.c) ⟨n₀,st.toks,its n₀ st.toks,ω,[]⟩ (s.mpre++s.rpre) .nil 0 0 gl0 ora [] []) (s.mpre++s.rpre).length ix =
      tailHR (it n₀ st.toks ω) (gl1 n₀ st.toks ω) (run (VH w (D+60) d fr gs u R st n₀ (s.mpre++s.rpre) gb) N s.c none .base (bh s.c) ⟨n₀,st.toks,its n₀ st.toks,ω,[]⟩ (s.mpre++s.rpre) .nil 0 0 gl0 ora [] []) s (η n₀ st.toks ω v')):OkG w D s gb gl0:=by
  refine ⟨hp,fun A stt R g₀ C B K hg0 hgb F=>?_⟩
  have e:=C.1
  obtain ⟨Ah,d,fr,gs,u⟩:=A
  subst e hgb
  obtain ⟨hp₀,gens,dr,tk₀,os⟩:=stt
  have hg0:gens=g₀++gl0.toArray:=hg0
  subst hg0
  have cd:2*d≤D+780:=C.depth
  have cu:u≤2*D:=C.units
  let st:Shared:=⟨hp₀,g₀,dr,tk₀,os⟩
  have O:=vg_ok (fr:=fr) (gs:=gs) (R:=R) (w:=w) (st:=st) (r1:=s.rpre) (g:=[]) hD (by simp) B K C.depth C.units
  refine y_code _ _ _ _ _ _ ?_
  have z:=(run_sound O N s.c none .base (bh s.c) st.heap.objs.size st.toks (its _ _) [] (s.mpre++s.rpre) .nil 0 0 gl0 ora [] [] (allOk_its rfl rfl rfl rfl (hs _ _)) fun ω=>by
    have hh:=H d fr gs u R st st.heap.objs.size ω
    generalize run (VG w (D+60) d fr gs u R st st.heap.objs.size (s.mpre++s.rpre) []) N s.c none .base (bh s.c) ⟨st.heap.objs.size,st.toks,its st.heap.objs.size st.toks,ω,[]⟩ (s.mpre++s.rpre) .nil 0 0 gl0 ora [] []=r at hh
    obtain ⟨ok,rc,rmd,rκ,rt,rS,rT,rm,ri,rgl,rora,rtr,req,rn,rtk,rG⟩:=r
    unfold tailHL tailHR tailL tailR at hh
    dsimp only at hh
    have h0:=hh v0
    have hgl:rgl=gl1 st.heap.objs.size st.toks ω:=(Prod.mk.inj h0).2
    have h0:=(Prod.mk.inj h0).1
    injection h0 with h1 h2 h3 h4 h5 h6 h7 h8 h9 _ _ _ _ h14
    refine ⟨h1,map_eq _ h2,map_eq _ h3,fun h X=>?_⟩
    have ht:=again_eq h6
    rw [Bool.and_eq_true,Bool.and_eq_true,Bool.and_eq_true] at h7
    subst h4 h5 ht
    refine y_pure _ _ _ _ _ _ _ _ _ (y_again _ _ _ _ _ _ (quietK_ok h7.1) ?_)
    refine (hit _ _ _).2 _ _ _ g₀ ⟨rfl,cd,cu⟩ (rep_base O X) (ask_led O X (aW h7.2.1.1) (aW h7.2.1.2) (aW h7.2.2) (by rw [← apL_eq]; exact h8) (by rw [← apL_eq]; exact h9)) (by rw [← hgl]; rfl) rfl fun st' v' F'=>?_
    have eF:({ sh (VG w (D+60) d fr gs u R st st.heap.objs.size (s.mpre++s.rpre) []) rtk h rgl ri with gens:=g₀ }:Shared)=sh (VG w (D+60) d fr gs u R st st.heap.objs.size (s.mpre++s.rpre) []) rtk h [] ri:=by
      unfold sh
      show (⟨h,g₀,dr,rtk+ri,os⟩:Shared)=⟨h,g₀++#[],dr,rtk+ri,os⟩
      simp
    have F'':Left (KTX w) (sh (VG w (D+60) d fr gs u R st st.heap.objs.size (s.mpre++s.rpre) []) rtk h [] ri) st' (it st.heap.objs.size st.toks ω).s v':=eF ▸ F'
    have Z:=behind_rep O X (aW h7.2.1.1) (by rw [← apL_eq]; exact h8) ((hit _ _ _).1 v') rfl rfl F''
    have hv:=(Prod.mk.inj (hh v')).1
    injection hv with _ _ _ _ _ _ _ _ _ h10 h11 h12 h13 _
    have L:=left_of (tk:=v'.a 1) (i:=0) (r1:=s.rpre) (g:=[]) (by simp) Z rfl hx List.nodup_nil h11 (by rw [← newL_nil ix]; exact h12) h13 K
    have zz:=F _ _ L
    rw [← h10] at zz
    have e:sh (VG w (D+60) d fr gs u R st st.heap.objs.size (s.mpre++s.rpre) []) (v'.a 1) st'.heap s.gens 0=st':=by
      have f:=F''.after
      have hg:=F'.gens
      obtain ⟨sh',sg,sd,st1,so⟩:=st'
      have h1:sg=g₀++(it st.heap.objs.size st.toks ω).s.gens.toArray:=hg
      have h2:sd=st.drawn:=f.drawn
      have h3:so=st.os:=f.os
      have h4:st1=v'.a 1:=F''.toks
      subst h1 h2 h3 h4
      rw [← h14]
      rfl
    rw [e] at zz
    exact zz).2.2 st.heap (Rep.start O)
  have e:sh (VG w (D+60) d fr gs u R st st.heap.objs.size (s.mpre++s.rpre) []) st.toks st.heap gl0 0=(⟨hp₀,g₀++gl0.toArray,dr,tk₀,os⟩:Shared):=rfl
  rw [e] at z
  rw [denF_eq]
  exact z
structure MidV where
  ok:Bool
  md:Option (List Frame)
  κ:Kont
  c:Option Code
  fit:Bool
  m:Option Led
  r:Option Led
  gl:List GenState
noncomputable def callAt (t:Sem Fin):Option Code:=match t with
  | .call c' hd _ _ _=>match hd with
    | none=>some c'
    | some _=>none
  | _=>none
noncomputable def contT (t:Sem Fin) (r:Result):Sem Fin:=match t with
  | .call _ _ _ _ k=>k r
  | _=>.unsupported ""
noncomputable def midL (V:VS) (it:It) (r:St):MidV:=match r with
  | ⟨ok,c,md,κ,t,S,T,_,_,gl,_,_,_,n,_,G⟩=>⟨ok,md,κ,callAt t,Bool.and (calm V none .base c) (Bool.and (Bool.and (nodupN it.keep) (nodupN it.gx)) (nodupN (it.mx++it.rx))),nthAll (apL S (keepL n T it.keep)) it.mx,askL (apL S (keepL n T it.keep)) G it,gl⟩
noncomputable def midR (it:It) (gl0:List GenState):MidV:=⟨true,none,.base,some it.s.c,true,some it.s.mpre,some it.s.rpre,gl0⟩
noncomputable def phase2 (V:VS) (it:It) (v:Nv) (N:Nat) (its:Its) (ω:Nat→Om) (ora:List Nat) (r:St):St:=match r with
  | ⟨_,c,_,_,t,S,T,_,_,_,_,tr,eq,n,_,G⟩=>run V N c none .base (contT t (it.s.res v)) ⟨v.a 0,v.a 1,its,ω,behindG G it v⟩ (behindS S n T it v) .nil 0 0 it.s.gens ora tr eq
theorem callAt_eq {t:Sem Fin} {c:Code} (h:callAt t=some c):∃ g l k,t=.call c none g l k:=by
  unfold callAt at h
  split at h
  · split at h
    · cases h; exact ⟨_,_,_,rfl⟩
    · cases h
  · cases h
theorem prove2 {w:World} {D:Nat} {s:Sm} (hD:D≤780) (hp:∀ v,(s.post v).map (·.1)=s.mpre.map (·.1)) (its1:Nat→Nat→Nat→Its) (hs1:∀ n t g,AllOk w (D+60) (its1 n t g)) (N1:Nat) (ora1:List Nat)
    (mid:Nat→Nat→Nat→(Nat→Om)→It) (gl0:Nat→Nat→Nat→(Nat→Om)→List GenState) (hmid:∀ n t g ω,OkG w (D+60) (mid n t g ω).s g (gl0 n t g ω))
    (its2:Nat→Nat→Nat→(Nat→Om)→Nv→Its) (hs2:∀ n t g ω v,AllOk w (D+60) (its2 n t g ω v)) (N2:Nat) (ora2 ix:List Nat) (hx:ix.Nodup) (η:Nat→Nat→(Nat→Om)→Nv→(Nat→Om)→Nv)
    (H1:∀ d fr gs u R st n₀ ω,midL (VN w (D+60) d fr gs u R st n₀ (s.mpre++s.rpre)) (mid n₀ st.toks st.gens.size ω) (run (VN w (D+60) d fr gs u R st n₀ (s.mpre++s.rpre)) N1 s.c none .base (bh s.c) ⟨n₀,st.toks,its1 n₀ st.toks st.gens.size,ω,[]⟩ (s.mpre++s.rpre) .nil 0 0 [] ora1 [] [])=midR (mid n₀ st.toks st.gens.size ω) (gl0 n₀ st.toks st.gens.size ω))
    (H2:∀ d fr gs u R st n₀ ω v ω2,endL (phase2 (VN w (D+60) d fr gs u R st n₀ (s.mpre++s.rpre)) (mid n₀ st.toks st.gens.size ω) v N2 (its2 n₀ st.toks st.gens.size ω v) ω2 ora2 (run (VN w (D+60) d fr gs u R st n₀ (s.mpre++s.rpre)) N1 s.c none .base (bh s.c) ⟨n₀,st.toks,its1 n₀ st.toks st.gens.size,ω,[]⟩ (s.mpre++s.rpre) .nil 0 0 [] ora1 [] [])) (s.mpre++s.rpre).length ix 0 [] =
      endR (phase2 (VN w (D+60) d fr gs u R st n₀ (s.mpre++s.rpre)) (mid n₀ st.toks st.gens.size ω) v N2 (its2 n₀ st.toks st.gens.size ω v) ω2 ora2 (run (VN w (D+60) d fr gs u R st n₀ (s.mpre++s.rpre)) N1 s.c none .base (bh s.c) ⟨n₀,st.toks,its1 n₀ st.toks st.gens.size,ω,[]⟩ (s.mpre++s.rpre) .nil 0 0 [] ora1 [] [])) s s.rpre (η n₀ st.toks ω v ω2)):Ok w D s:=by
  refine ⟨hp,fun A st R C B K _ F=>?_⟩
  have e:=C.1
  obtain ⟨Ah,d,fr,gs,u⟩:=A
  subst e
  have O:=vg_ok (fr:=fr) (gs:=gs) (R:=R) (w:=w) (st:=st) (r1:=s.rpre) (g:=[]) hD (by simp) B K C.depth C.units
  refine y_code _ _ _ _ _ _ ?_
  have z:=(run_sound O N1 s.c none .base (bh s.c) st.heap.objs.size st.toks (its1 _ _ st.gens.size) [] (s.mpre++s.rpre) .nil 0 0 [] ora1 [] [] (allOk_its rfl rfl rfl rfl (hs1 _ _ _)) fun ω=>by
    have g1:=H1 d fr gs u R st st.heap.objs.size ω
    have g2:=H2 d fr gs u R st st.heap.objs.size ω
    generalize run (VG w (D+60) d fr gs u R st st.heap.objs.size (s.mpre++s.rpre) []) N1 s.c none .base (bh s.c) ⟨st.heap.objs.size,st.toks,its1 st.heap.objs.size st.toks st.gens.size,ω,[]⟩ (s.mpre++s.rpre) .nil 0 0 [] ora1 [] []=r at g1 g2
    obtain ⟨ok,rc,rmd,rκ,rt,rS,rT,rm,ri,rgl,rora,rtr,req,rn,rtk,rG⟩:=r
    have hm:=hmid st.heap.objs.size st.toks st.gens.size ω
    have hz2:=hs2 st.heap.objs.size st.toks st.gens.size ω
    generalize mid st.heap.objs.size st.toks st.gens.size ω=it at *
    generalize gl0 st.heap.objs.size st.toks st.gens.size ω=gm at *
    generalize its2 st.heap.objs.size st.toks st.gens.size ω=js at *
    unfold midL midR at g1
    dsimp only at g1
    injection g1 with h1 h2 h3 h4 h5 h6 h7 h8
    rw [Bool.and_eq_true,Bool.and_eq_true,Bool.and_eq_true] at h5
    subst h2 h3 h8
    have key:∀ v:Nv,AllT rtr∧AllE req∧Fine (VG w (D+60) d fr gs u R st st.heap.objs.size (s.mpre++s.rpre) []) (v.a 0) (v.a 1) (behindG rG it v) rc none .base (contT rt (it.s.res v)) (behindS rS rn rT it v) .nil 0 0 it.s.gens:=fun v=>
      run_sound O N2 _ _ _ _ _ _ (js v) _ _ _ _ _ _ ora2 _ _ (allOk_its rfl rfl rfl rfl (hz2 v)) fun ω2=>by
        have hh:=g2 v ω2
        unfold phase2 at hh
        dsimp only at hh
        generalize run (VG w (D+60) d fr gs u R st st.heap.objs.size (s.mpre++s.rpre) []) N2 rc none .base (contT rt (it.s.res v)) ⟨v.a 0,v.a 1,js v,ω2,behindG rG it v⟩ (behindS rS rn rT it v) .nil 0 0 it.s.gens ora2 rtr req=r at hh
        obtain ⟨ok',rc',rmd',rκ',rt',rS',rT',rm',ri',rgl',rora',rtr',req',rn',rtk',rG'⟩:=r
        unfold endL endR at hh
        dsimp only at hh
        injection hh with h1 h2 h3 h4 h5 h6 h7 h8 h9 h10
        refine ⟨h1,map_eq _ h2,map_eq _ h3,fun h X=>?_⟩
        have ht:=resOf_eq h6
        subst h4 h5 h10 ht
        have L:=left_of (r1:=s.rpre) (g:=[]) (by simp) X rfl hx List.nodup_nil h7 h8 h9 K
        have zz:=F _ _ L
        dsimp only
        cases hr:s.res (η st.heap.objs.size st.toks ω v ω2) with
        | ok f=>rw [hr] at zz; exact y_pure _ _ _ _ _ _ _ _ _ (y_done _ _ _ _ _ _ zz)
        | error er=>rw [hr] at zz; exact y_raise _ _ _ _ _ _ _ _ _ (y_err _ _ _ zz)
    refine ⟨h1,(key v0).1,(key v0).2.1,fun h X=>?_⟩
    obtain ⟨g,l,k,ht⟩:=callAt_eq h4
    dsimp only at X ⊢
    subst ht
    refine y_call _ _ _ _ _ _ _ _ _ _ _ _ _ (by intro q; cases q) ?_
    refine hm.2 _ _ _ st.gens (calm_ok (md:=none) (κ:=.base) (c:=rc) O h5.1) (rep_base O X) (ask_led O X (aW h5.2.1.1) (aW h5.2.1.2) (aW h5.2.2) (by rw [← apL_eq]; exact h6) (by rw [← apL_eq]; exact h7)) rfl rfl fun st' v F'=>?_
    have eF:({ sh (VG w (D+60) d fr gs u R st st.heap.objs.size (s.mpre++s.rpre) []) rtk h rgl ri with gens:=st.gens }:Shared)=sh (VG w (D+60) d fr gs u R st st.heap.objs.size (s.mpre++s.rpre) []) rtk h [] ri:=by
      unfold sh
      show (⟨h,st.gens,st.drawn,rtk+ri,st.os⟩:Shared)=⟨h,st.gens++#[],st.drawn,rtk+ri,st.os⟩
      simp
    have F'':Left (KTX w) (sh (VG w (D+60) d fr gs u R st st.heap.objs.size (s.mpre++s.rpre) []) rtk h [] ri) st' it.s v:=eF ▸ F'
    have Z:=behind_rep O X (aW h5.2.1.1) (by rw [← apL_eq]; exact h6) (hm.1 v) rfl rfl F''
    have zz:=(key v).2.2 _ Z
    have e:sh (VG w (D+60) d fr gs u R st st.heap.objs.size (s.mpre++s.rpre) []) (v.a 1) st'.heap it.s.gens 0=st':=by
      have f:=F''.after
      have hg:=F'.gens
      obtain ⟨sh',sg,sd,st1,so⟩:=st'
      have h1:sg=st.gens++it.s.gens.toArray:=hg
      have h2:sd=st.drawn:=f.drawn
      have h3:so=st.os:=f.os
      have h4:st1=v.a 1:=F''.toks
      subst h1 h2 h3 h4
      rfl
    rw [e] at zz
    exact zz).2.2 st.heap (Rep.start O)
  have e:sh (VG w (D+60) d fr gs u R st st.heap.objs.size (s.mpre++s.rpre) []) st.toks st.heap [] 0=st:=by
    unfold sh
    show (⟨st.heap,st.gens++#[],st.drawn,st.toks+0,st.os⟩:Shared)=st
    simp
  rw [e] at z
  rw [denF_eq]
  exact z
noncomputable abbrev yd (q:Nat) (keep mx rx:List Nat) (s:Sm) (f:Nv→Its):Its:=.cons (it5 q keep mx rx s) f
noncomputable abbrev yc (rx:List Nat) (s:Sm) (f:Nv→Its):Its:=.cons (it5 0 [] [] rx s) f
theorem xd {w:World} {D q:Nat} {k m r:List Nat} {s:Sm} {f:Nv→Its} (h:Ok w D s) (g:∀ v,AllOk w D (f v)):AllOk w D (yd q k m r s f):=⟨h,g⟩
theorem xc {w:World} {D:Nat} {r:List Nat} {s:Sm} {f:Nv→Its} (h:Ok w D s) (g:∀ v,AllOk w D (f v)):AllOk w D (yc r s f):=⟨h,g⟩
noncomputable def yvL (w:World) (D:Nat) (s:Sm) (its:Nat→Nat→Its) (N:Nat) (ora:List Nat) (ix:List Nat):=fun (d:Nat) (fr:Option (List Env)) (gs:Option (List Code)) (u:Nat) (R:Result→Shared→Prop) (st:Shared) (n₀:Nat) (ω:Nat→Om)=>endL (run (VN w (D+60) d fr gs u R st n₀ (s.mpre++s.rpre)) N s.c none .base (bh s.c) ⟨n₀,st.toks,its n₀ st.toks,ω,[]⟩ (s.mpre++s.rpre) .nil 0 0 [] ora [] []) (s.mpre++s.rpre).length ix 0 []
noncomputable def yvR (w:World) (D:Nat) (s:Sm) (its:Nat→Nat→Its) (N:Nat) (ora:List Nat) (ix:List Nat) (η:Nat→Nat→(Nat→Om)→Nv):=fun (d:Nat) (fr:Option (List Env)) (gs:Option (List Code)) (u:Nat) (R:Result→Shared→Prop) (st:Shared) (n₀:Nat) (ω:Nat→Om)=>endR (run (VN w (D+60) d fr gs u R st n₀ (s.mpre++s.rpre)) N s.c none .base (bh s.c) ⟨n₀,st.toks,its n₀ st.toks,ω,[]⟩ (s.mpre++s.rpre) .nil 0 0 [] ora [] []) s s.rpre (η n₀ st.toks ω)
theorem yv {w:World} {D:Nat} {s:Sm} (its:Nat→Nat→Its) (hs:∀ n t,AllOk w (D+60) (its n t)) (N:Nat) (ora:List Nat) (η:Nat→Nat→(Nat→Om)→Nv) (ix:List Nat:=[]) (hD:D≤780:=by omega) (hp:∀ v,(s.post v).map (·.1)=s.mpre.map (·.1):=by intro _; rfl) (hx:ix.Nodup:=by decide) (H:yvL w D s its N ora ix=yvR w D s its N ora ix η:=by kernel_rfl)  : Ok w D s:=prove hD hp its hs N ora ix hx η (fun d fr gs u R st n₀ ω=>(congrArg (fun f=>f d fr gs u R st n₀ ω) H :))
noncomputable def ytL (w:World) (D:Nat) (s:Sm) (its:Nat→Nat→Its) (it:Nat→Nat→(Nat→Om)→It) (N:Nat) (ora:List Nat) (ix:List Nat):=fun (d:Nat) (fr:Option (List Env)) (gs:Option (List Code)) (u:Nat) (R:Result→Shared→Prop) (st:Shared) (n₀:Nat) (ω:Nat→Om) (v':Nv)=>tailL (it n₀ st.toks ω) v' (run (VN w (D+60) d fr gs u R st n₀ (s.mpre++s.rpre)) N s.c none .base (bh s.c) ⟨n₀,st.toks,its n₀ st.toks,ω,[]⟩ (s.mpre++s.rpre) .nil 0 0 [] ora [] []) (s.mpre++s.rpre).length ix 0 []
noncomputable def ytR (w:World) (D:Nat) (s:Sm) (its:Nat→Nat→Its) (it:Nat→Nat→(Nat→Om)→It) (N:Nat) (ora:List Nat) (ix:List Nat) (η:Nat→Nat→(Nat→Om)→Nv→Nv):=fun (d:Nat) (fr:Option (List Env)) (gs:Option (List Code)) (u:Nat) (R:Result→Shared→Prop) (st:Shared) (n₀:Nat) (ω:Nat→Om) (v':Nv)=>tailR (it n₀ st.toks ω) (run (VN w (D+60) d fr gs u R st n₀ (s.mpre++s.rpre)) N s.c none .base (bh s.c) ⟨n₀,st.toks,its n₀ st.toks,ω,[]⟩ (s.mpre++s.rpre) .nil 0 0 [] ora [] []) s s.rpre (η n₀ st.toks ω v')
theorem yt {w:World} {D:Nat} {s:Sm} (its:Nat→Nat→Its) (hs:∀ n t,AllOk w (D+60) (its n t)) (it:Nat→Nat→(Nat→Om)→It) (hit:∀ n t ω,Ok w D (it n t ω).s) (N:Nat) (ora:List Nat) (η:Nat→Nat→(Nat→Om)→Nv→Nv:=fun _ _ _ v=>v) (ix:List Nat:=[]) (hD:D≤780:=by omega) (hp:∀ v,(s.post v).map (·.1)=s.mpre.map (·.1):=by intro _; rfl) (hx:ix.Nodup:=by decide) (H:ytL w D s its it N ora ix=ytR w D s its it N ora ix η:=by kernel_rfl) (hz:∀ n t ω,(it n t ω).s.sz=none:=by intros; rfl):Ok w D s:=proveT hD hp its hs it hit N ora ix hx η (fun d fr gs u R st n₀ ω v'=>(congrArg (fun f=>f d fr gs u R st n₀ ω v') H :)) hz
noncomputable def ygL (w:World) (D:Nat) (s:Sm) (r1:Led) (g:List Led) (its:Nat→Nat→Its) (N:Nat) (ora:List Nat) (gx:List Nat) (ix:List Nat):=fun (d:Nat) (fr:Option (List Env)) (gs:Option (List Code)) (u:Nat) (R:Result→Shared→Prop) (st:Shared) (n₀:Nat) (ω:Nat→Om)=>endL (run (VG w (D+60) d fr gs u R st n₀ (s.mpre++r1) g) N s.c none .base (bh s.c) ⟨n₀,st.toks,its n₀ st.toks,ω,g⟩ (s.mpre++r1) .nil 0 0 [] ora [] []) (s.mpre++r1).length ix g.length gx
noncomputable def ygR (w:World) (D:Nat) (s:Sm) (r1:Led) (g:List Led) (its:Nat→Nat→Its) (N:Nat) (ora:List Nat) (gx:List Nat) (ix:List Nat) (η:Nat→Nat→(Nat→Om)→Nv):=fun (d:Nat) (fr:Option (List Env)) (gs:Option (List Code)) (u:Nat) (R:Result→Shared→Prop) (st:Shared) (n₀:Nat) (ω:Nat→Om)=>endR (run (VG w (D+60) d fr gs u R st n₀ (s.mpre++r1) g) N s.c none .base (bh s.c) ⟨n₀,st.toks,its n₀ st.toks,ω,g⟩ (s.mpre++r1) .nil 0 0 [] ora [] []) s r1 (η n₀ st.toks ω)
theorem yg {w:World} {D:Nat} {s:Sm} (r1:Led) (g:List Led) (hg:s.rpre=r1++g.flatten) (its:Nat→Nat→Its) (hs:∀ n t,AllOk w (D+60) (its n t)) (N:Nat) (ora:List Nat) (gx:List Nat) (η:Nat→Nat→(Nat→Om)→Nv) (ix:List Nat:=[]) (hD:D≤780:=by omega) (hp:∀ v,(s.post v).map (·.1)=s.mpre.map (·.1):=by intro _; rfl) (hx:ix.Nodup:=by decide) (hgx:gx.Nodup:=by decide) (H:ygL w D s r1 g its N ora gx ix=ygR w D s r1 g its N ora gx ix η:=by kernel_rfl)  : Ok w D s:=proveG hD hp r1 g hg its hs N ora ix hx gx hgx η (fun d fr gs u R st n₀ ω=>(congrArg (fun f=>f d fr gs u R st n₀ ω) H :))
noncomputable def ytgL (w:World) (D:Nat) (s:Sm) (r1:Led) (g:List Led) (its:Nat→Nat→Its) (it:Nat→Nat→(Nat→Om)→It) (N:Nat) (ora:List Nat) (gx:List Nat) (ix:List Nat):=fun (d:Nat) (fr:Option (List Env)) (gs:Option (List Code)) (u:Nat) (R:Result→Shared→Prop) (st:Shared) (n₀:Nat) (ω:Nat→Om) (v':Nv)=>tailL (it n₀ st.toks ω) v' (run (VG w (D+60) d fr gs u R st n₀ (s.mpre++r1) g) N s.c none .base (bh s.c) ⟨n₀,st.toks,its n₀ st.toks,ω,g⟩ (s.mpre++r1) .nil 0 0 [] ora [] []) (s.mpre++r1).length ix g.length gx
noncomputable def ytgR (w:World) (D:Nat) (s:Sm) (r1:Led) (g:List Led) (its:Nat→Nat→Its) (it:Nat→Nat→(Nat→Om)→It) (N:Nat) (ora:List Nat) (gx:List Nat) (ix:List Nat) (η:Nat→Nat→(Nat→Om)→Nv→Nv):=fun (d:Nat) (fr:Option (List Env)) (gs:Option (List Code)) (u:Nat) (R:Result→Shared→Prop) (st:Shared) (n₀:Nat) (ω:Nat→Om) (v':Nv)=>tailR (it n₀ st.toks ω) (run (VG w (D+60) d fr gs u R st n₀ (s.mpre++r1) g) N s.c none .base (bh s.c) ⟨n₀,st.toks,its n₀ st.toks,ω,g⟩ (s.mpre++r1) .nil 0 0 [] ora [] []) s r1 (η n₀ st.toks ω v')
theorem ytg {w:World} {D:Nat} {s:Sm} (r1:Led) (g:List Led) (hg:s.rpre=r1++g.flatten) (its:Nat→Nat→Its) (hs:∀ n t,AllOk w (D+60) (its n t)) (it:Nat→Nat→(Nat→Om)→It) (hit:∀ n t ω,Ok w D (it n t ω).s) (N:Nat) (ora:List Nat) (gx:List Nat) (η:Nat→Nat→(Nat→Om)→Nv→Nv:=fun _ _ _ v=>v) (ix:List Nat:=[]) (hD:D≤780:=by omega) (hp:∀ v,(s.post v).map (·.1)=s.mpre.map (·.1):=by intro _; rfl) (hx:ix.Nodup:=by decide) (hgx:gx.Nodup:=by decide) (H:ytgL w D s r1 g its it N ora gx ix=ytgR w D s r1 g its it N ora gx ix η:=by kernel_rfl) (hz:∀ n t ω,(it n t ω).s.sz=none:=by intros; rfl):Ok w D s:=proveTG hD hp r1 g hg its hs it hit N ora ix hx gx hgx η (fun d fr gs u R st n₀ ω v'=>(congrArg (fun f=>f d fr gs u R st n₀ ω v') H :)) hz
noncomputable def yhL (w:World) (D:Nat) (s:Sm) (gb:Nat) (gl0:List GenState) (its:Nat→Nat→Its) (N:Nat) (ora:List Nat) (ix:List Nat):=fun (d:Nat) (fr:Option (List Env)) (gs:Option (List Code)) (u:Nat) (R:Result→Shared→Prop) (st:Shared) (n₀:Nat) (ω:Nat→Om)=>endL (run (VH w (D+60) d fr gs u R st n₀ (s.mpre++s.rpre) gb) N s.c none .base (bh s.c) ⟨n₀,st.toks,its n₀ st.toks,ω,[]⟩ (s.mpre++s.rpre) .nil 0 0 gl0 ora [] []) (s.mpre++s.rpre).length ix 0 []
noncomputable def yhR (w:World) (D:Nat) (s:Sm) (gb:Nat) (gl0:List GenState) (its:Nat→Nat→Its) (N:Nat) (ora:List Nat) (ix:List Nat) (η:Nat→Nat→(Nat→Om)→Nv):=fun (d:Nat) (fr:Option (List Env)) (gs:Option (List Code)) (u:Nat) (R:Result→Shared→Prop) (st:Shared) (n₀:Nat) (ω:Nat→Om)=>endR (run (VH w (D+60) d fr gs u R st n₀ (s.mpre++s.rpre) gb) N s.c none .base (bh s.c) ⟨n₀,st.toks,its n₀ st.toks,ω,[]⟩ (s.mpre++s.rpre) .nil 0 0 gl0 ora [] []) s s.rpre (η n₀ st.toks ω)
theorem yh {w:World} {D:Nat} {s:Sm} {gb:Nat} {gl0:List GenState} (its:Nat→Nat→Its) (hs:∀ n t,AllOk w (D+60) (its n t)) (N:Nat) (ora:List Nat) (η:Nat→Nat→(Nat→Om)→Nv) (ix:List Nat:=[]) (hD:D≤780:=by omega) (hp:∀ v,(s.post v).map (·.1)=s.mpre.map (·.1):=by intro _; rfl) (hx:ix.Nodup:=by decide) (H:yhL w D s gb gl0 its N ora ix=yhR w D s gb gl0 its N ora ix η:=by kernel_rfl)  : OkG w D s gb gl0:=proveH hD hp its hs N ora ix hx η (fun d fr gs u R st n₀ ω=>(congrArg (fun f=>f d fr gs u R st n₀ ω) H :))
noncomputable def ythL (w:World) (D:Nat) (s:Sm) (gb:Nat) (gl0:List GenState) (its:Nat→Nat→Its) (it:Nat→Nat→(Nat→Om)→It) (gl1:Nat→Nat→(Nat→Om)→List GenState) (N:Nat) (ora:List Nat) (ix:List Nat):=fun (d:Nat) (fr:Option (List Env)) (gs:Option (List Code)) (u:Nat) (R:Result→Shared→Prop) (st:Shared) (n₀:Nat) (ω:Nat→Om) (v':Nv)=>tailHL (it n₀ st.toks ω) v' (run (VH w (D+60) d fr gs u R st n₀ (s.mpre++s.rpre) gb) N s.c none .base (bh s.c) ⟨n₀,st.toks,its n₀ st.toks,ω,[]⟩ (s.mpre++s.rpre) .nil 0 0 gl0 ora [] []) (s.mpre++s.rpre).length ix
noncomputable def ythR (w:World) (D:Nat) (s:Sm) (gb:Nat) (gl0:List GenState) (its:Nat→Nat→Its) (it:Nat→Nat→(Nat→Om)→It) (gl1:Nat→Nat→(Nat→Om)→List GenState) (N:Nat) (ora:List Nat) (ix:List Nat) (η:Nat→Nat→(Nat→Om)→Nv→Nv):=fun (d:Nat) (fr:Option (List Env)) (gs:Option (List Code)) (u:Nat) (R:Result→Shared→Prop) (st:Shared) (n₀:Nat) (ω:Nat→Om) (v':Nv)=>tailHR (it n₀ st.toks ω) (gl1 n₀ st.toks ω) (run (VH w (D+60) d fr gs u R st n₀ (s.mpre++s.rpre) gb) N s.c none .base (bh s.c) ⟨n₀,st.toks,its n₀ st.toks,ω,[]⟩ (s.mpre++s.rpre) .nil 0 0 gl0 ora [] []) s (η n₀ st.toks ω v')
theorem yth {w:World} {D:Nat} {s:Sm} {gb:Nat} {gl0:List GenState} (its:Nat→Nat→Its) (hs:∀ n t,AllOk w (D+60) (its n t)) (it:Nat→Nat→(Nat→Om)→It) (gl1:Nat→Nat→(Nat→Om)→List GenState) (hit:∀ n t ω,OkG w D (it n t ω).s gb (gl1 n t ω)) (N:Nat) (ora:List Nat) (η:Nat→Nat→(Nat→Om)→Nv→Nv:=fun _ _ _ v=>v) (ix:List Nat:=[]) (hD:D≤780:=by omega) (hp:∀ v,(s.post v).map (·.1)=s.mpre.map (·.1):=by intro _; rfl) (hx:ix.Nodup:=by decide) (H:ythL w D s gb gl0 its it gl1 N ora ix=ythR w D s gb gl0 its it gl1 N ora ix η:=by kernel_rfl)  : OkG w D s gb gl0:=proveTH hD hp its hs it gl1 hit N ora ix hx η (fun d fr gs u R st n₀ ω v'=>(congrArg (fun f=>f d fr gs u R st n₀ ω v') H :))
theorem dA {d a b:Nat} (h:d≤a) (k:Nat.ble a b=true):d≤b:=Nat.le_trans h (Nat.le_of_ble_eq_true k)
theorem dB {d a b c:Nat} (h:d≤a) (k:Nat.ble (a+c) b=true):d+c≤b:=Nat.le_trans (Nat.add_le_add_right h c) (Nat.le_of_ble_eq_true k)
theorem dC {d a b c e:Nat} (h:d≤a) (k:Nat.ble (a+c+e) b=true):d+c+e≤b:=Nat.le_trans (Nat.add_le_add_right (Nat.add_le_add_right h c) e) (Nat.le_of_ble_eq_true k)
local macro_rules | `(tactic|omega)=>`(tactic|first|exact dB (by assumption) (by rfl)|exact dA (by assumption) (by rfl)|exact dC (by assumption) (by rfl))
noncomputable def dep (x:Int):Bool:=(x.fdiv 80).fmod 2==1
noncomputable def dependsS (l:Addr) (x0 x1 x2 x3 x4 x5:Int) (t0 t1 t2 t3 t4 t5:Tok) (e:Nat):Sm where
  c:=.call (.ref 123) ⟨[.ref l],[]⟩
  mpre:=[]
  rpre:=[(l,lst #[.int x0 t0,.int x1 t1,.int x2 t2,.int x3 t3,.int x4 t4,.int x5 t5] e)]
  post _:=[]
  news v:=[(v.a 2,lst #[.ref (v.a 3),.ref (v.a 4),.ref (v.a 5),.ref (v.a 6)] 4),(v.a 3,lst #[.bool true,.bool (dep x0),.bool (dep x1),.bool (dep x2)] 4),(v.a 4,lst #[.bool (dep x0),.bool true,.bool (dep x3),.bool (dep x4)] 4),
        (v.a 5,lst #[.bool (dep x1),.bool (dep x3),.bool true,.bool (dep x5)] 4),(v.a 6,lst #[.bool (dep x2),.bool (dep x4),.bool (dep x5),.bool true] 4)]
  res v:=.ok (.ret (.ref (v.a 2)))
theorem depends_ok {w:World} {D:Nat} (hD:D≤780) {l:Addr} {x0 x1 x2 x3 x4 x5:Int} {t0 t1 t2 t3 t4 t5:Tok} {e:Nat}:Ok w D (dependsS l x0 x1 x2 x3 x4 x5 t0 t1 t2 t3 t4 t5 e):=
  by refine prove (by omega) (fun _=>rfl) (fun n t=>.nil) (fun n t=>trivial) 2308 [0,0,0,1,1,1,0,0,3,3,3,3,3,3,1,0,0,3,3,3,3,5,2,0,10,5,5,1,0,0,5,5,5,5,5,5,5,5,5,5,5,11,11,0,0,13,13,13,13,13,13,1,0,0,13,13,13,13,15,2,0,10,15,15,1,0,0,15,15,15,15,15,15,15,15,15,15,15,0,19,19,11,19,1,0,0,17,17,17,17,15,15,15,15,15,15,15,15,15,0,19,19,11,19,1,0,0,17,17,17,17,15,15,15,15,15,15,15,15,15,0,19,19,11,19,1,0,0,17,17,17,17,15,15,15,15,15,15,15,15,15,0,19,19,11,19,1,0,0,17,17,17,17,15,15,15,15,15,23,19,19,19,7,7,7,7,5,5,5,5,5,5,5,5,5,11,11,0,0,25,25,25,25,25,25,1,0,0,25,25,25,25,27,2,0,10,27,27,1,0,0,27,27,27,27,27,27,27,27,27,27,27,0,31,31,11,31,1,0,0,29,29,29,29,27,27,27,27,27,27,27,27,27,0,31,31,11,31,1,0,0,29,29,29,29,27,27,27,27,27,27,27,27,27,0,31,31,11,31,1,0,0,29,29,29,29,27,27,27,27,27,27,27,27,27,0,31,31,11,31,1,0,0,29,29,29,29,27,27,27,27,27,35,31,31,31,7,7,7,7,5,5,5,5,5,5,5,5,5,11,11,0,0,37,37,37,37,37,37,1,0,0,37,37,37,37,39,2,0,10,39,39,1,0,0,39,39,39,39,39,39,39,39,39,39,39,0,43,43,11,43,1,0,0,41,41,41,41,39,39,39,39,39,39,39,39,39,0,43,43,11,43,1,0,0,41,41,41,41,39,39,39,39,39,39,39,39,39,0,43,43,11,43,1,0,0,41,41,41,41,39,39,39,39,39,39,39,39,39,0,43,43,11,43,1,0,0,41,41,41,41,39,39,39,39,39,47,43,43,43,7,7,7,7,5,5,5,5,5,5,5,5,5,11,11,0,0,49,49,49,49,49,49,1,0,0,49,49,49,49,51,2,0,10,51,51,1,0,0,51,51,51,51,51,51,51,51,51,51,51,0,55,55,11,55,1,0,0,53,53,53,53,51,51,51,51,51,51,51,51,51,0,55,55,11,55,1,0,0,53,53,53,53,51,51,51,51,51,51,51,51,51,0,55,55,11,55,1,0,0,53,53,53,53,51,51,51,51,51,51,51,51,51,0,55,55,11,55,1,0,0,53,53,53,53,51,51,51,51,51,59,55,55,55,7,7,7,7,5,5,5,5,5,63,0,1,1,0,1,1,0,0,65,65,65,65,65,65,1,0,0,65,65,65,65,67,67,67,67,67,67,67,67,67,67,0,1,1,0,0,1,69,69,69,69,69,69,1,0,0,69,69,69,69,71,71,71,71,71,71,71,71,71,71,0,1,1,1,1,2,2,2,2,2,1,0,0,1,1,7,7,7,7,7,1,17,17,17,17,17,17,1,1,7,7,7,7,7,1,17,17,17,17,17,1,1,7,7,7,7,7,1,29,29,29,29,29,29,1,0,1,1,71,71,71,71,71,71,71,71,71,0,1,1,1,1,2,2,2,2,2,1,0,0,1,1,7,7,7,7,7,1,17,17,17,17,17,17,1,1,7,7,7,7,7,1,17,17,17,17,17,1,1,7,7,7,7,7,1,41,41,41,41,41,41,1,0,1,1,71,71,71,71,71,71,71,71,71,0,1,1,1,1,2,2,2,2,2,1,0,0,1,1,7,7,7,7,7,1,17,17,17,17,17,17,1,1,7,7,7,7,7,1,17,17,17,17,17,1,1,7,7,7,7,7,1,53,53,53,53,53,53,1,0,1,1,71,71,71,71,71,75,67,67,67,67,67,67,67,67,67,0,1,1,0,0,1,77,77,77,77,77,77,1,0,0,77,77,77,77,79,79,79,79,79,79,79,79,79,79,0,1,1,1,1,2,2,2,2,2,1,0,0,1,1,7,7,7,7,7,1,29,29,29,29,29,29,1,1,7,7,7,7,7,1,29,29,29,29,29,1,1,7,7,7,7,7,1,41,41,41,41,41,41,1,0,1,1,79,79,79,79,79,79,79,79,79,0,1,1,1,1,2,2,2,2,2,1,0,0,1,1,7,7,7,7,7,1,29,29,29,29,29,29,1,1,7,7,7,7,7,1,29,29,29,29,29,1,1,7,7,7,7,7,1,53,53,53,53,53,53,1,0,1,1,79,79,79,79,79,83,67,67,67,67,67,67,67,67,67,0,1,1,0,0,1,85,85,85,85,85,85,1,0,0,85,85,85,85,87,87,87,87,87,87,87,87,87,87,0,1,1,1,1,2,2,2,2,2,1,0,0,1,1,7,7,7,7,7,1,41,41,41,41,41,41,1,1,7,7,7,7,7,1,41,41,41,41,41,1,1,7,7,7,7,7,1,53,53,53,53,53,53,1,0,1,1,87,87,87,87,87,91,67,67,67,67,67,67,67,67,67,0,1,1,0,0,1,93,93,93,93,93,93,1,0,0,93,93,93,93,95,95,95,95,95,95,99,67,67,67,67,67,103,1] [6,16,28,40,52] (by decide) (fun n t ω=>nu [(n+52),(t+142),n+3,n+8,n+14,n+20,n+26] [] []) fun d fr gs u R st n ω=>by kernel_rfl
noncomputable abbrev bi (x:String) (as:List Value):Code:=.call (.builtin x) ⟨as,[]⟩
noncomputable def ag (l:Addr) (xs:List Value) (e:Nat) (i:Int) (t:Tok) (r:Value):Sm where
  c:=bi "list.__getitem__" [.ref l,.int i t]
  mpre:=[]
  rpre:=[(l,lst ⟨xs⟩ e)]
  post _:=[]
  news _:=[]
  res _:=.ok (.ret r)
noncomputable def setS (l:Addr) (xs:List Value) (e:Nat) (i:Int) (t:Tok) (r:Value) (ys:List Value):Sm where
  c:=bi "list.__setitem__" [.ref l,.int i t,r]
  mpre:=[(l,lst ⟨xs⟩ e)]
  rpre:=[]
  post _:=[(l,lst ⟨ys⟩ e)]
  news _:=[]
  res _:=.ok (.ret .none)
noncomputable def aK (it l:Addr) (k:Int) (xs:List Value) (e:Nat) (r:Value):Sm where
  c:=bi "list_iterator.__next__" [.ref it]
  mpre:=[(it,lit l k)]
  rpre:=[(l,lst ⟨xs⟩ e)]
  post _:=[(it,lit l (k+1))]
  news _:=[]
  res _:=.ok (.ret r)
noncomputable def eqIS (x y:Int) (t u:Tok) (b:Bool):Sm where
  c:=bi "int.__eq__" [.int x t,.int y u]
  mpre:=[]
  rpre:=[]
  post _:=[]
  news _:=[]
  res _:=.ok (.ret (.bool b))
noncomputable def neIS (x y:Int) (t u:Tok) (b:Bool):Sm where
  c:=bi "int.__ne__" [.int x t,.int y u]
  mpre:=[]
  rpre:=[]
  post _:=[]
  news _:=[]
  res _:=.ok (.ret (.bool b))
theorem toN {i:Int} {n:Nat} (h:0≤i) (e:i.toNat=n):i=n:=by omega
section
variable {w:World} {D:Nat} {l:Addr} {e:Nat} {i:Int} {t:Tok} {r:Value}
theorem ab {xs:List Value} (hD:D≤780) (h0:0≤i) (h:xs[i.toNat]?=some r) (hl:xs.length≤6:=by simp):Ok w D (ag l xs e i t r):=by
  generalize hj:i.toNat=j at h
  obtain rfl:=toN h0 hj
  refine upto6 (P:=fun xs=>∀ j:Nat,xs[j]?=some r→Ok w D (ag l xs e j t r)) ?_ ?_ ?_ ?_ ?_ ?_ ?_ xs hl j h
  all_goals intros
  all_goals rename_i j h
  all_goals
    repeat (first | (cases h; done) | (rcases j with _ | j; · (cases h; exact prove hD (fun _=>rfl) (fun _ _=>.nil) (fun _ _=>trivial) 3 [2,2] [] (by decide) (fun n t _=>nu [n,t]) fun d fr gs u R st n ω=>by kernel_rfl)))
theorem setS_ok {xs:List Value} (hD:D≤780) (h0:0≤i) (h:i.toNat<xs.length) (hl:xs.length≤6:=by simp):Ok w D (setS l xs e i t r (xs.set i.toNat r)):=by
  generalize hj:i.toNat=j at h
  obtain rfl:=toN h0 hj
  refine upto6 (P:=fun xs=>∀ j:Nat,j<xs.length→Ok w D (setS l xs e j t r (xs.set j r))) ?_ ?_ ?_ ?_ ?_ ?_ ?_ xs hl j h
  all_goals intros
  all_goals rename_i j h
  all_goals
    repeat (first | (exact absurd h (by simp only [List.length_cons,List.length_nil]; omega)) | (rcases j with _ | j; · exact prove hD (fun _=>rfl) (fun _ _=>.nil) (fun _ _=>trivial) 5 [2,2,2,2] [] (by decide) (fun n t _=>nu [n,t]) fun d fr gs u R st n ω=>by kernel_rfl))
theorem aj {it:Addr} {xs:List Value} (hD:D≤780) (h0:0≤i) (h:xs[i.toNat]?=some r) (hl:xs.length≤6:=by simp):Ok w D (aK it l i xs e r):=by
  generalize hj:i.toNat=j at h
  obtain rfl:=toN h0 hj
  refine upto6 (P:=fun xs=>∀ j:Nat,xs[j]?=some r→Ok w D (aK it l j xs e r)) ?_ ?_ ?_ ?_ ?_ ?_ ?_ xs hl j h
  all_goals intros
  all_goals rename_i j h
  all_goals
    repeat (first | (cases h; done) | (rcases j with _ | j; · (cases h; exact prove hD (fun _=>rfl) (fun _ _=>.nil) (fun _ _=>trivial) 7 [2,2,2,4,2,2] [] (by decide) (fun n t _=>nu [n,t]) fun d fr gs u R st n ω=>by kernel_rfl)))
theorem ax {x y:Int} {t u:Tok} {b:Bool} (hD:D≤780) (h:(x==y)=b):Ok w D (eqIS x y t u b):=by
  subst h
  exact prove hD (fun _=>rfl) (fun _ _=>.nil) (fun _ _=>trivial) 1 [] [] (by decide) (fun n t _=>nu [n,t]) fun d fr gs u R st n ω=>by kernel_rfl
theorem bc {x y:Int} {t u:Tok} {b:Bool} (hD:D≤780) (h:(x != y)=b):Ok w D (neIS x y t u b):=by
  subst h
  exact prove hD (fun _=>rfl) (fun _ _=>.nil) (fun _ _=>trivial) 1 [] [] (by decide) (fun n t _=>nu [n,t]) fun d fr gs u R st n ω=>by kernel_rfl
end
noncomputable def sel6 {α:Type} (a b c d e f:α) (i:Int):α:=match i.toNat with
  | 0=>a | 1=>b | 2=>c | 3=>d | 4=>e | _=>f
noncomputable def sel4 {α:Type} (a b c d:α) (i:Int):α:=match i.toNat with
  | 0=>a | 1=>b | 2=>c | _=>d
noncomputable def putI {α:Type} (i j:Int) (x y:α):α:=if i=j then x else y
theorem six {i:Int} (h0:0≤i) (h:i<6):i=0 ∨ i=1 ∨ i=2 ∨ i=3 ∨ i=4 ∨ i=5:=by omega
theorem four {i:Int} (h0:0≤i) (h:i<4):i=0 ∨ i=1 ∨ i=2 ∨ i=3:=by omega
structure V6 (α:Type) where
  a:α
  b:α
  c:α
  d:α
  e:α
  f:α
noncomputable def V6.at {α:Type} (v:V6 α) (i:Int):α:=sel6 v.a v.b v.c v.d v.e v.f i
noncomputable def V6.put {α:Type} (v:V6 α) (i:Int) (x:α):V6 α:=⟨putI i 0 x v.a,putI i 1 x v.b,putI i 2 x v.c,putI i 3 x v.d,putI i 4 x v.e,putI i 5 x v.f⟩
noncomputable abbrev vi6 (v:V6 Int) (u:V6 Tok):List Value:=[.int v.a u.a,.int v.b u.b,.int v.c u.c,.int v.d u.d,.int v.e u.e,.int v.f u.f]
noncomputable abbrev li6 (v:V6 Int) (u:V6 Tok) (e:Nat):Obj:=lst ⟨vi6 v u⟩ e
theorem aI {v:V6 Int} {u:V6 Tok} {i:Int} (h0:0≤i) (h:i<6):(vi6 v u)[i.toNat]?=some (.int (v.at i) (u.at i)):=by
  rcases six h0 h with rfl | rfl | rfl | rfl | rfl | rfl <;> rfl
theorem vi6_set {v:V6 Int} {u:V6 Tok} {i x:Int} {t:Tok} (h0:0≤i) (h:i<6):(vi6 v u).set i.toNat (.int x t)=vi6 (v.put i x) (u.put i t):=by
  rcases six h0 h with rfl | rfl | rfl | rfl | rfl | rfl <;> rfl
structure Dp where
  d01:Bool
  d02:Bool
  d03:Bool
  d12:Bool
  d13:Bool
  d23:Bool
noncomputable def Dp.m (D:Dp) (x y:Int):Bool:=sel4 (sel4 true D.d01 D.d02 D.d03 x) (sel4 D.d01 true D.d12 D.d13 x) (sel4 D.d02 D.d12 true D.d23 x) (sel4 D.d03 D.d13 D.d23 true x) y
structure R4 where
  m:Addr
  a:Addr
  b:Addr
  c:Addr
  d:Addr
noncomputable def R4.at (r:R4) (x:Int):Addr:=sel4 r.a r.b r.c r.d x
noncomputable abbrev R4.rows (r:R4):List Value:=[.ref r.a,.ref r.b,.ref r.c,.ref r.d]
noncomputable abbrev R4.led (r:R4) (D:Dp):Led:=[(r.m,lst ⟨r.rows⟩ 4),(r.a,lst #[.bool true,.bool D.d01,.bool D.d02,.bool D.d03] 4),(r.b,lst #[.bool D.d01,.bool true,.bool D.d12,.bool D.d13] 4),
  (r.c,lst #[.bool D.d02,.bool D.d12,.bool true,.bool D.d23] 4),(r.d,lst #[.bool D.d03,.bool D.d13,.bool D.d23,.bool true] 4)]
theorem am {r:R4} {i:Int} (h0:0≤i) (h:i<4):r.rows[i.toNat]?=some (.ref (r.at i)):=by
  rcases four h0 h with rfl | rfl | rfl | rfl <;> rfl
noncomputable abbrev Dp.rowL (D:Dp) (p:Int):List Value:=[.bool (D.m p 0),.bool (D.m p 1),.bool (D.m p 2),.bool (D.m p 3)]
theorem ap {D:Dp} {p q:Int} {b:Bool} (hq:0≤q∧q<4) (h:D.m p q=b):(D.rowL p)[q.toNat]?=some (.bool b):=by
  subst h
  rcases four hq.1 hq.2 with rfl | rfl | rfl | rfl <;> rfl
noncomputable abbrev ak (r:R4) (D:Dp) (p:Int):Led:=[(r.m,lst ⟨r.rows⟩ 4),(r.at p,lst ⟨D.rowL p⟩ 4),(r.at (sel4 1 0 0 0 p),lst ⟨D.rowL (sel4 1 0 0 0 p)⟩ 4),(r.at (sel4 2 2 1 1 p),lst ⟨D.rowL (sel4 2 2 1 1 p)⟩ 4),(r.at (sel4 3 3 3 2 p),lst ⟨D.rowL (sel4 3 3 3 2 p)⟩ 4)]
theorem ai {r:R4} {D:Dp} {p:Int} (h:0≤p∧p<4):(r.led D).Perm (ak r D p):=by
  rcases four h.1 h.2 with rfl | rfl | rfl | rfl
  · exact .refl _
  · exact .cons _ (.swap _ _ _)
  · exact .cons _ ((List.Perm.cons _ (.swap _ _ _)).trans (.swap _ _ _))
  · exact .cons _ ((List.Perm.cons _ ((List.Perm.cons _ (.swap _ _ _)).trans (.swap _ _ _))).trans (.swap _ _ _))
theorem aT.perm {kt:KT} {h:Heap} {L L':Led} (K:aT kt h L) (p:L.Perm L'):aT kt h L':=
  ⟨fun x hx=>K.olds x (p.mem_iff.mpr hx),(p.map _).nodup_iff.mp K.nodup,fun x hx=>K.apart x (p.mem_iff.mpr hx)⟩
theorem ao {w:World} {d:Nat} {s:Sm} {L:Led} (h:Ok w d s) (p:L.Perm s.rpre):Ok w d { s with rpre:=L }:=
  ⟨h.1,fun A st R C B K Z H=>h.2 A st R C B (K.perm (.append_left _ p)) Z fun st' v F=>H st' v ⟨F.after,F.size,F.toks,F.gens,F.post,F.news,F.nodup⟩⟩
noncomputable abbrev chgE (L:Addr):Env:=envF 17 130 129 (S [95,108,97,119,95,99,104,97,110,103,101,100,46,60,108,111,99,97,108,115,62,46]) L []
noncomputable def frC0 (w:World) (k0 k1 k2 k3 k4:Tok) (lw ln ld c:Addr) (fair:Bool):Obj:=
  frm #[en w.params (S [119,111,114,100]) k0 (.ref lw),en w.params (S [110,117,109,98,101,114,115]) k1 (.ref ln),en w.params (S [100,101,112,101,110,100,115]) k2 (.ref ld),en w.params (S [99,104,97,110,103,101,100]) k3 (.ref c),en w.params (S [102,97,105,114]) k4 (.bool fair)] 5
noncomputable def frC (w:World) (k0 k1 k2 k3 k4 k5 k6 k7 k8:Tok) (lw ln ld c:Addr) (fair:Bool) (z1 z2 z3 z4:Value):Obj:=
  frm #[en w.params (S [119,111,114,100]) k0 (.ref lw),en w.params (S [110,117,109,98,101,114,115]) k1 (.ref ln),en w.params (S [100,101,112,101,110,100,115]) k2 (.ref ld),en w.params (S [99,104,97,110,103,101,100]) k3 (.ref c),en w.params (S [102,97,105,114]) k4 (.bool fair),
    en w.params (S [110,117,109,98,101,114]) k5 z1,en w.params (S [97,116]) k6 z2,en w.params (S [120]) k7 z3,en w.params (S [121]) k8 z4] 9
structure Chg where
  v:V6 Int
  fair:Bool
noncomputable def chgF (D:Dp) (x:Int) (s:Chg):Chg:=
  let a:=(x.fdiv 4).fmod 5
  let p:=s.v.at a
  let q:=s.v.at (a+1)
  if !(D.m p q) || (x.fdiv 20).fmod 4==0 then ⟨(s.v.put a q).put (a+1) p,if p != q && D.m p q then false else s.fair⟩ else s
noncomputable def chgS (w:World) (lw ln c it L rm:Addr) (X:V6 Int) (TX:V6 Tok) (e:Nat) (rows:Led) (fr:Obj) (u:V6 Tok) (k:Int) (v:V6 Int) (s':Chg):Sm where
  c:=forC (sto 17 2) (.ref it) (chgE L)
  mpre:=[(L,fr),(c,li6 v u 1),(it,lit ln k)]
  rpre:=(ln,li6 X TX e)::rows
  post o:=[(L,frC w (o.a 8) (o.a 9) (o.a 10) (o.a 11) (o.a 12) (o.a 13) (o.a 14) (o.a 15) (o.a 16) lw ln rm c s'.fair (o.x 0) (o.x 1) (o.x 2) (o.x 3)),(c,li6 s'.v ⟨o.a 2,o.a 3,o.a 4,o.a 5,o.a 6,o.a 7⟩ 1),(it,o.o 0)]
  news _:=[]
  res _:=.ok .next
theorem fmod5 (x:Int):0≤x.fmod 5∧x.fmod 5<5:=by
  rw [Int.fmod_eq_emod_of_nonneg x (by decide)]
  exact ⟨Int.emod_nonneg x (by decide),Int.emod_lt_of_pos x (by decide)⟩
section
variable {w:World} {d:Nat} {lw ln c it L:Addr} {r:R4} {D:Dp} {X:V6 Int} {TX:V6 Tok} {e:Nat} {u:V6 Tok} {k:Int} {v:V6 Int} {s':Chg} {k0 k1 k2 k3 k4 k5 k6 k7 k8:Tok} {fair:Bool} {z1 z2 z3 z4:Value}
theorem setI_ok {i x:Int} {t t':Tok} (hD:d≤780) (h0:0≤i) (h:i<6):Ok w d (setS c (vi6 v u) 1 i t' (.int x t) (vi6 (v.put i x) (u.put i t))):=by
  rw [← vi6_set h0 h]
  exact setS_ok hD h0 (by show i.toNat<6; omega)
theorem chg_turn (hD:d≤700) (hk0:0≤k) (hk:k<6) (hv:∀ i,0≤v.at i∧v.at i<4)
    (H:∀ z1 z2 z3 z4 u' fair' v',chgF D (X.at k) ⟨v,fair⟩=⟨v',fair'⟩→Ok w d (chgS w lw ln c it L r.m X TX e (r.led D) (frC w k0 k1 k2 k3 k4 k5 k6 k7 k8 lw ln r.m c fair' z1 z2 z3 z4) u' (k+1) v' s')) :
    Ok w d (chgS w lw ln c it L r.m X TX e (r.led D) (frC w k0 k1 k2 k3 k4 k5 k6 k7 k8 lw ln r.m c fair z1 z2 z3 z4) u k v s'):=by
  have ha:=fmod5 ((X.at k).fdiv 4)
  generalize hx:X.at k=x at *
  generalize hA:(x.fdiv 4).fmod 5=a at *
  have hg:=aI (v:=X) (u:=TX) hk0 hk
  rw [hx] at hg
  have hp:=hv a
  have hq:=hv (a+1)
  generalize hP:v.at a=p at *
  generalize hQ:v.at (a+1)=q at *
  have gp:=aI (v:=v) (u:=u) (i:=a) (by omega) (by omega)
  have gq:=aI (v:=v) (u:=u) (i:=a+1) (by omega) (by omega)
  rw [hP] at gp
  rw [hQ] at gq
  generalize TX.at k=tx at hg
  generalize u.at a=tp at gp
  generalize u.at (a+1)=tq at gq
  subst hA
  have H':∀ z1 z2 z3 z4 u' fair' v',chgF D x ⟨v,fair⟩=⟨v',fair'⟩→Ok w d (chgS w lw ln c it L r.m X TX e (ak r D p) (frC w k0 k1 k2 k3 k4 k5 k6 k7 k8 lw ln r.m c fair' z1 z2 z3 z4) u' (k+1) v' s'):=fun z1 z2 z3 z4 u' fair' v' h=>
    ao (H z1 z2 z3 z4 u' fair' v' h) (.cons _ (ai hp).symm)
  refine ao (s:=chgS w lw ln c it L r.m X TX e (ak r D p) (frC w k0 k1 k2 k3 k4 k5 k6 k7 k8 lw ln r.m c fair z1 z2 z3 z4) u k v s') ?_ (.cons _ (ai hp))
  clear H
  cases hb:D.m p q with
  | true=>
    cases hz:((x.fdiv 20).fmod 4==0) with
    | false=>
      refine yt (fun n t=>yd 0 [] [2] [3] (aK it ln k (vi6 X TX) e (.int x tx)) fun v1=>yd 2 [] [] [1] (ag c (vi6 v u) 1 ((x.fdiv 4).fmod 5) (v1.a 1+4) (.int p tp)) fun v2=>yd 1 [] [] [1] (ag c (vi6 v u) 1 ((x.fdiv 4).fmod 5+1) (v2.a 1+2) (.int q tq)) fun v3=>yc [4] (ag r.m r.rows 4 p tp (.ref (r.at p))) fun v4=>yc [5] (ag (r.at p) (D.rowL p) 4 q tq (.bool true)) fun v5=>yd 3 [] [] [] (eqIS ((x.fdiv 20).fmod 4) 0 (v5.a 1+3) (v5.a 1+4) false) fun v6=>.nil) (fun n t=>xd (aj (by omega) hk0 hg) fun _=>xd (ab (by omega) (by omega) gp) fun _=>xd (ab (by omega) (by omega) gq) fun _=>xc (ab (by omega) (by omega) (am hp.1 hp.2)) fun _=>xc (ab (by omega) (by omega) (ap hq hb)) fun _=>xd (ax (by omega) hz) fun _=>trivial) (fun n t ω=>(it5 0 [] [0,1,2] [3,4,5,6,7,8] (chgS w lw ln c it L r.m X TX e (ak r D p) (frC w k0 k1 k2 k3 k4 k5 k6 k7 k8 lw ln r.m c fair (.int x tx) (.int ((x.fdiv 4).fmod 5) ((ω 0).v.a 1+4)) (.int p tp) (.int q tq)) u (k+1) v s'))) (fun n t ω=>H' _ _ _ _ _ _ _ (by simp [chgF,hP,hQ,hb,hz])) 110 [6,0,2,2,2,0,2,2,2,2,4,4,4,0,2,2,2,2,4,4,4,0,2,2,2,2,10,10,10,2,12,12,12,2,1,0,0]
    | true=>
      cases hne:(p != q) with
      | false=>
        refine yt (fun n t=>yd 0 [] [2] [3] (aK it ln k (vi6 X TX) e (.int x tx)) fun v1=>yd 2 [] [] [1] (ag c (vi6 v u) 1 ((x.fdiv 4).fmod 5) (v1.a 1+4) (.int p tp)) fun v2=>yd 1 [] [] [1] (ag c (vi6 v u) 1 ((x.fdiv 4).fmod 5+1) (v2.a 1+2) (.int q tq)) fun v3=>yc [4] (ag r.m r.rows 4 p tp (.ref (r.at p))) fun v4=>yc [5] (ag (r.at p) (D.rowL p) 4 q tq (.bool true)) fun v5=>yd 3 [] [] [] (eqIS ((x.fdiv 20).fmod 4) 0 (v5.a 1+3) (v5.a 1+4) true) fun v6=>yd 0 [] [1] [] (setS c (vi6 v u) 1 ((x.fdiv 4).fmod 5) (v1.a 1+4) (.int q tq) (vi6 (v.put ((x.fdiv 4).fmod 5) q) (u.put ((x.fdiv 4).fmod 5) tq))) fun v7=>yd 1 [] [1] [] (setS c (vi6 (v.put ((x.fdiv 4).fmod 5) q) (u.put ((x.fdiv 4).fmod 5) tq)) 1 (((x.fdiv 4).fmod 5)+1) (v7.a 1+1) (.int p tp) (vi6 ((v.put ((x.fdiv 4).fmod 5) q).put (((x.fdiv 4).fmod 5)+1) p) ((u.put ((x.fdiv 4).fmod 5) tq).put (((x.fdiv 4).fmod 5)+1) tp))) fun v8=>yc [] (neIS p q tp tq false) fun v9=>.nil) (fun n t=>xd (aj (by omega) hk0 hg) fun _=>xd (ab (by omega) (by omega) gp) fun _=>xd (ab (by omega) (by omega) gq) fun _=>xc (ab (by omega) (by omega) (am hp.1 hp.2)) fun _=>xc (ab (by omega) (by omega) (ap hq hb)) fun _=>xd (ax (by omega) hz) fun _=>xd (setI_ok (by omega) (by omega) (by omega)) fun _=>xd (setI_ok (by omega) (by omega) (by omega)) fun _=>xc (bc (by omega) hne) fun _=>trivial) (fun n t ω=>(it5 0 [] [0,1,2] [3,4,5,6,7,8] (chgS w lw ln c it L r.m X TX e (ak r D p) (frC w k0 k1 k2 k3 k4 k5 k6 k7 k8 lw ln r.m c fair (.int x tx) (.int ((x.fdiv 4).fmod 5) ((ω 0).v.a 1+4)) (.int p tp) (.int q tq)) ((u.put ((x.fdiv 4).fmod 5) tq).put (((x.fdiv 4).fmod 5)+1) tp) (k+1) ((v.put ((x.fdiv 4).fmod 5) q).put (((x.fdiv 4).fmod 5)+1) p) s'))) (fun n t ω=>H' _ _ _ _ _ _ _ (by simp [chgF,hP,hQ,hb,hz,hne])) 146 [6,0,2,2,2,0,2,2,2,2,4,4,4,0,2,2,2,2,4,4,4,0,2,2,2,2,10,10,10,2,12,12,12,2,1,0,0,2,2,2,4,4,2,2,2,4,4,2,2,1,0,0]
      | true=>
        refine yt (fun n t=>yd 0 [] [2] [3] (aK it ln k (vi6 X TX) e (.int x tx)) fun v1=>yd 2 [] [] [1] (ag c (vi6 v u) 1 ((x.fdiv 4).fmod 5) (v1.a 1+4) (.int p tp)) fun v2=>yd 1 [] [] [1] (ag c (vi6 v u) 1 ((x.fdiv 4).fmod 5+1) (v2.a 1+2) (.int q tq)) fun v3=>yc [4] (ag r.m r.rows 4 p tp (.ref (r.at p))) fun v4=>yc [5] (ag (r.at p) (D.rowL p) 4 q tq (.bool true)) fun v5=>yd 3 [] [] [] (eqIS ((x.fdiv 20).fmod 4) 0 (v5.a 1+3) (v5.a 1+4) true) fun v6=>yd 0 [] [1] [] (setS c (vi6 v u) 1 ((x.fdiv 4).fmod 5) (v1.a 1+4) (.int q tq) (vi6 (v.put ((x.fdiv 4).fmod 5) q) (u.put ((x.fdiv 4).fmod 5) tq))) fun v7=>yd 1 [] [1] [] (setS c (vi6 (v.put ((x.fdiv 4).fmod 5) q) (u.put ((x.fdiv 4).fmod 5) tq)) 1 (((x.fdiv 4).fmod 5)+1) (v7.a 1+1) (.int p tp) (vi6 ((v.put ((x.fdiv 4).fmod 5) q).put (((x.fdiv 4).fmod 5)+1) p) ((u.put ((x.fdiv 4).fmod 5) tq).put (((x.fdiv 4).fmod 5)+1) tp))) fun v8=>yc [] (neIS p q tp tq true) fun v9=>yc [4] (ag r.m r.rows 4 p tp (.ref (r.at p))) fun v10=>yc [5] (ag (r.at p) (D.rowL p) 4 q tq (.bool true)) fun v11=>.nil) (fun n t=>xd (aj (by omega) hk0 hg) fun _=>xd (ab (by omega) (by omega) gp) fun _=>xd (ab (by omega) (by omega) gq) fun _=>xc (ab (by omega) (by omega) (am hp.1 hp.2)) fun _=>xc (ab (by omega) (by omega) (ap hq hb)) fun _=>xd (ax (by omega) hz) fun _=>xd (setI_ok (by omega) (by omega) (by omega)) fun _=>xd (setI_ok (by omega) (by omega) (by omega)) fun _=>xc (bc (by omega) hne) fun _=>xc (ab (by omega) (by omega) (am hp.1 hp.2)) fun _=>xc (ab (by omega) (by omega) (ap hq hb)) fun _=>trivial) (fun n t ω=>(it5 0 [] [0,1,2] [3,4,5,6,7,8] (chgS w lw ln c it L r.m X TX e (ak r D p) (frC w k0 k1 k2 k3 k4 k5 k6 k7 k8 lw ln r.m c false (.int x tx) (.int ((x.fdiv 4).fmod 5) ((ω 0).v.a 1+4)) (.int p tp) (.int q tq)) ((u.put ((x.fdiv 4).fmod 5) tq).put (((x.fdiv 4).fmod 5)+1) tp) (k+1) ((v.put ((x.fdiv 4).fmod 5) q).put (((x.fdiv 4).fmod 5)+1) p) s'))) (fun n t ω=>H' _ _ _ _ _ _ _ (by simp [chgF,hP,hQ,hb,hz,hne])) 173 [6,0,2,2,2,0,2,2,2,2,4,4,4,0,2,2,2,2,4,4,4,0,2,2,2,2,10,10,10,2,12,12,12,2,1,0,0,2,2,2,4,4,2,2,2,4,4,2,2,1,0,0,2,2,10,10,10,2,12,12,12,0,2,2]
  | false=>
    cases hne:(p != q) with
    | false=>
      refine yt (fun n t=>yd 0 [] [2] [3] (aK it ln k (vi6 X TX) e (.int x tx)) fun v1=>yd 2 [] [] [1] (ag c (vi6 v u) 1 ((x.fdiv 4).fmod 5) (v1.a 1+4) (.int p tp)) fun v2=>yd 1 [] [] [1] (ag c (vi6 v u) 1 ((x.fdiv 4).fmod 5+1) (v2.a 1+2) (.int q tq)) fun v3=>yc [4] (ag r.m r.rows 4 p tp (.ref (r.at p))) fun v4=>yc [5] (ag (r.at p) (D.rowL p) 4 q tq (.bool false)) fun v5=>yd 1 [] [1] [] (setS c (vi6 v u) 1 ((x.fdiv 4).fmod 5) (v1.a 1+4) (.int q tq) (vi6 (v.put ((x.fdiv 4).fmod 5) q) (u.put ((x.fdiv 4).fmod 5) tq))) fun v6=>yd 1 [] [1] [] (setS c (vi6 (v.put ((x.fdiv 4).fmod 5) q) (u.put ((x.fdiv 4).fmod 5) tq)) 1 (((x.fdiv 4).fmod 5)+1) (v6.a 1+1) (.int p tp) (vi6 ((v.put ((x.fdiv 4).fmod 5) q).put (((x.fdiv 4).fmod 5)+1) p) ((u.put ((x.fdiv 4).fmod 5) tq).put (((x.fdiv 4).fmod 5)+1) tp))) fun v7=>yc [] (neIS p q tp tq false) fun v8=>.nil) (fun n t=>xd (aj (by omega) hk0 hg) fun _=>xd (ab (by omega) (by omega) gp) fun _=>xd (ab (by omega) (by omega) gq) fun _=>xc (ab (by omega) (by omega) (am hp.1 hp.2)) fun _=>xc (ab (by omega) (by omega) (ap hq hb)) fun _=>xd (setI_ok (by omega) (by omega) (by omega)) fun _=>xd (setI_ok (by omega) (by omega) (by omega)) fun _=>xc (bc (by omega) hne) fun _=>trivial) (fun n t ω=>(it5 0 [] [0,1,2] [3,4,5,6,7,8] (chgS w lw ln c it L r.m X TX e (ak r D p) (frC w k0 k1 k2 k3 k4 k5 k6 k7 k8 lw ln r.m c fair (.int x tx) (.int ((x.fdiv 4).fmod 5) ((ω 0).v.a 1+4)) (.int p tp) (.int q tq)) ((u.put ((x.fdiv 4).fmod 5) tq).put (((x.fdiv 4).fmod 5)+1) tp) (k+1) ((v.put ((x.fdiv 4).fmod 5) q).put (((x.fdiv 4).fmod 5)+1) p) s'))) (fun n t ω=>H' _ _ _ _ _ _ _ (by simp [chgF,hP,hQ,hb,hne])) 128 [6,0,2,2,2,0,2,2,2,2,4,4,4,0,2,2,2,2,4,4,4,0,2,2,2,2,10,10,10,2,12,12,12,2,2,2,4,4,2,2,2,4,4,2,2,1,0,0]
    | true=>
      refine yt (fun n t=>yd 0 [] [2] [3] (aK it ln k (vi6 X TX) e (.int x tx)) fun v1=>yd 2 [] [] [1] (ag c (vi6 v u) 1 ((x.fdiv 4).fmod 5) (v1.a 1+4) (.int p tp)) fun v2=>yd 1 [] [] [1] (ag c (vi6 v u) 1 ((x.fdiv 4).fmod 5+1) (v2.a 1+2) (.int q tq)) fun v3=>yc [4] (ag r.m r.rows 4 p tp (.ref (r.at p))) fun v4=>yc [5] (ag (r.at p) (D.rowL p) 4 q tq (.bool false)) fun v5=>yd 1 [] [1] [] (setS c (vi6 v u) 1 ((x.fdiv 4).fmod 5) (v1.a 1+4) (.int q tq) (vi6 (v.put ((x.fdiv 4).fmod 5) q) (u.put ((x.fdiv 4).fmod 5) tq))) fun v6=>yd 1 [] [1] [] (setS c (vi6 (v.put ((x.fdiv 4).fmod 5) q) (u.put ((x.fdiv 4).fmod 5) tq)) 1 (((x.fdiv 4).fmod 5)+1) (v6.a 1+1) (.int p tp) (vi6 ((v.put ((x.fdiv 4).fmod 5) q).put (((x.fdiv 4).fmod 5)+1) p) ((u.put ((x.fdiv 4).fmod 5) tq).put (((x.fdiv 4).fmod 5)+1) tp))) fun v7=>yc [] (neIS p q tp tq true) fun v8=>yc [4] (ag r.m r.rows 4 p tp (.ref (r.at p))) fun v9=>yc [5] (ag (r.at p) (D.rowL p) 4 q tq (.bool false)) fun v10=>.nil) (fun n t=>xd (aj (by omega) hk0 hg) fun _=>xd (ab (by omega) (by omega) gp) fun _=>xd (ab (by omega) (by omega) gq) fun _=>xc (ab (by omega) (by omega) (am hp.1 hp.2)) fun _=>xc (ab (by omega) (by omega) (ap hq hb)) fun _=>xd (setI_ok (by omega) (by omega) (by omega)) fun _=>xd (setI_ok (by omega) (by omega) (by omega)) fun _=>xc (bc (by omega) hne) fun _=>xc (ab (by omega) (by omega) (am hp.1 hp.2)) fun _=>xc (ab (by omega) (by omega) (ap hq hb)) fun _=>trivial) (fun n t ω=>(it5 0 [] [0,1,2] [3,4,5,6,7,8] (chgS w lw ln c it L r.m X TX e (ak r D p) (frC w k0 k1 k2 k3 k4 k5 k6 k7 k8 lw ln r.m c fair (.int x tx) (.int ((x.fdiv 4).fmod 5) ((ω 0).v.a 1+4)) (.int p tp) (.int q tq)) ((u.put ((x.fdiv 4).fmod 5) tq).put (((x.fdiv 4).fmod 5)+1) tp) (k+1) ((v.put ((x.fdiv 4).fmod 5) q).put (((x.fdiv 4).fmod 5)+1) p) s'))) (fun n t ω=>H' _ _ _ _ _ _ _ (by simp [chgF,hP,hQ,hb,hne])) 147 [6,0,2,2,2,0,2,2,2,2,4,4,4,0,2,2,2,2,4,4,4,0,2,2,2,2,10,10,10,2,12,12,12,2,2,2,4,4,2,2,2,4,4,2,2,1,0,0,2,2,10,10,10,2,12,12,12]
theorem chg_turn0 (hD:d≤700) (hk0:0≤k) (hk:k<6) (hv:∀ i,0≤v.at i∧v.at i<4)
    (H:∀ k5 k6 k7 k8 z1 z2 z3 z4 u' fair' v',chgF D (X.at k) ⟨v,fair⟩=⟨v',fair'⟩→Ok w d (chgS w lw ln c it L r.m X TX e (r.led D) (frC w k0 k1 k2 k3 k4 k5 k6 k7 k8 lw ln r.m c fair' z1 z2 z3 z4) u' (k+1) v' s')) :
    Ok w d (chgS w lw ln c it L r.m X TX e (r.led D) (frC0 w k0 k1 k2 k3 k4 lw ln r.m c fair) u k v s'):=by
  have ha:=fmod5 ((X.at k).fdiv 4)
  generalize hx:X.at k=x at *
  generalize hA:(x.fdiv 4).fmod 5=a at *
  have hg:=aI (v:=X) (u:=TX) hk0 hk
  rw [hx] at hg
  have hp:=hv a
  have hq:=hv (a+1)
  generalize hP:v.at a=p at *
  generalize hQ:v.at (a+1)=q at *
  have gp:=aI (v:=v) (u:=u) (i:=a) (by omega) (by omega)
  have gq:=aI (v:=v) (u:=u) (i:=a+1) (by omega) (by omega)
  rw [hP] at gp
  rw [hQ] at gq
  generalize TX.at k=tx at hg
  generalize u.at a=tp at gp
  generalize u.at (a+1)=tq at gq
  subst hA
  have H':∀ k5 k6 k7 k8 z1 z2 z3 z4 u' fair' v',chgF D x ⟨v,fair⟩=⟨v',fair'⟩→Ok w d (chgS w lw ln c it L r.m X TX e (ak r D p) (frC w k0 k1 k2 k3 k4 k5 k6 k7 k8 lw ln r.m c fair' z1 z2 z3 z4) u' (k+1) v' s'):=fun k5 k6 k7 k8 z1 z2 z3 z4 u' fair' v' h=>
    ao (H k5 k6 k7 k8 z1 z2 z3 z4 u' fair' v' h) (.cons _ (ai hp).symm)
  refine ao (s:=chgS w lw ln c it L r.m X TX e (ak r D p) (frC0 w k0 k1 k2 k3 k4 lw ln r.m c fair) u k v s') ?_ (.cons _ (ai hp))
  clear H
  cases hb:D.m p q with
  | true=>
    cases hz:((x.fdiv 20).fmod 4==0) with
    | false=>
      refine yt (fun n t=>yd 0 [] [2] [3] (aK it ln k (vi6 X TX) e (.int x tx)) fun v1=>yd 2 [] [] [1] (ag c (vi6 v u) 1 ((x.fdiv 4).fmod 5) (v1.a 1+4) (.int p tp)) fun v2=>yd 1 [] [] [1] (ag c (vi6 v u) 1 ((x.fdiv 4).fmod 5+1) (v2.a 1+2) (.int q tq)) fun v3=>yc [4] (ag r.m r.rows 4 p tp (.ref (r.at p))) fun v4=>yc [5] (ag (r.at p) (D.rowL p) 4 q tq (.bool true)) fun v5=>yd 3 [] [] [] (eqIS ((x.fdiv 20).fmod 4) 0 (v5.a 1+3) (v5.a 1+4) false) fun v6=>.nil) (fun n t=>xd (aj (by omega) hk0 hg) fun _=>xd (ab (by omega) (by omega) gp) fun _=>xd (ab (by omega) (by omega) gq) fun _=>xc (ab (by omega) (by omega) (am hp.1 hp.2)) fun _=>xc (ab (by omega) (by omega) (ap hq hb)) fun _=>xd (ax (by omega) hz) fun _=>trivial) (fun n t ω=>((fun v1=>(it5 0 [] [0,1,2] [3,4,5,6,7,8] (chgS w lw ln c it L r.m X TX e (ak r D p) (frC w k0 k1 k2 k3 k4 (v1.a 1) (v1.a 1+5) ((ω 1).v.a 1) ((ω 2).v.a 1) lw ln r.m c fair (.int x tx) (.int ((x.fdiv 4).fmod 5) (v1.a 1+4)) (.int p tp) (.int q tq)) u (k+1) v s'))) (ω 0).v)) (fun n t ω=>H' _ _ _ _ _ _ _ _ _ _ _ (by simp [chgF,hP,hQ,hb,hz])) 110 [6,0,2,2,2,0,2,2,2,2,4,4,4,0,2,2,2,2,4,4,4,0,2,2,2,2,10,10,10,2,12,12,12,2,1,0,0]
    | true=>
      cases hne:(p != q) with
      | false=>
        refine yt (fun n t=>yd 0 [] [2] [3] (aK it ln k (vi6 X TX) e (.int x tx)) fun v1=>yd 2 [] [] [1] (ag c (vi6 v u) 1 ((x.fdiv 4).fmod 5) (v1.a 1+4) (.int p tp)) fun v2=>yd 1 [] [] [1] (ag c (vi6 v u) 1 ((x.fdiv 4).fmod 5+1) (v2.a 1+2) (.int q tq)) fun v3=>yc [4] (ag r.m r.rows 4 p tp (.ref (r.at p))) fun v4=>yc [5] (ag (r.at p) (D.rowL p) 4 q tq (.bool true)) fun v5=>yd 3 [] [] [] (eqIS ((x.fdiv 20).fmod 4) 0 (v5.a 1+3) (v5.a 1+4) true) fun v6=>yd 0 [] [1] [] (setS c (vi6 v u) 1 ((x.fdiv 4).fmod 5) (v1.a 1+4) (.int q tq) (vi6 (v.put ((x.fdiv 4).fmod 5) q) (u.put ((x.fdiv 4).fmod 5) tq))) fun v7=>yd 1 [] [1] [] (setS c (vi6 (v.put ((x.fdiv 4).fmod 5) q) (u.put ((x.fdiv 4).fmod 5) tq)) 1 (((x.fdiv 4).fmod 5)+1) (v7.a 1+1) (.int p tp) (vi6 ((v.put ((x.fdiv 4).fmod 5) q).put (((x.fdiv 4).fmod 5)+1) p) ((u.put ((x.fdiv 4).fmod 5) tq).put (((x.fdiv 4).fmod 5)+1) tp))) fun v8=>yc [] (neIS p q tp tq false) fun v9=>.nil) (fun n t=>xd (aj (by omega) hk0 hg) fun _=>xd (ab (by omega) (by omega) gp) fun _=>xd (ab (by omega) (by omega) gq) fun _=>xc (ab (by omega) (by omega) (am hp.1 hp.2)) fun _=>xc (ab (by omega) (by omega) (ap hq hb)) fun _=>xd (ax (by omega) hz) fun _=>xd (setI_ok (by omega) (by omega) (by omega)) fun _=>xd (setI_ok (by omega) (by omega) (by omega)) fun _=>xc (bc (by omega) hne) fun _=>trivial) (fun n t ω=>((fun v1=>(it5 0 [] [0,1,2] [3,4,5,6,7,8] (chgS w lw ln c it L r.m X TX e (ak r D p) (frC w k0 k1 k2 k3 k4 (v1.a 1) (v1.a 1+5) ((ω 1).v.a 1) ((ω 2).v.a 1) lw ln r.m c fair (.int x tx) (.int ((x.fdiv 4).fmod 5) (v1.a 1+4)) (.int p tp) (.int q tq)) ((u.put ((x.fdiv 4).fmod 5) tq).put (((x.fdiv 4).fmod 5)+1) tp) (k+1) ((v.put ((x.fdiv 4).fmod 5) q).put (((x.fdiv 4).fmod 5)+1) p) s'))) (ω 0).v)) (fun n t ω=>H' _ _ _ _ _ _ _ _ _ _ _ (by simp [chgF,hP,hQ,hb,hz,hne])) 146 [6,0,2,2,2,0,2,2,2,2,4,4,4,0,2,2,2,2,4,4,4,0,2,2,2,2,10,10,10,2,12,12,12,2,1,0,0,2,2,2,4,4,2,2,2,4,4,2,2,1,0,0]
      | true=>
        refine yt (fun n t=>yd 0 [] [2] [3] (aK it ln k (vi6 X TX) e (.int x tx)) fun v1=>yd 2 [] [] [1] (ag c (vi6 v u) 1 ((x.fdiv 4).fmod 5) (v1.a 1+4) (.int p tp)) fun v2=>yd 1 [] [] [1] (ag c (vi6 v u) 1 ((x.fdiv 4).fmod 5+1) (v2.a 1+2) (.int q tq)) fun v3=>yc [4] (ag r.m r.rows 4 p tp (.ref (r.at p))) fun v4=>yc [5] (ag (r.at p) (D.rowL p) 4 q tq (.bool true)) fun v5=>yd 3 [] [] [] (eqIS ((x.fdiv 20).fmod 4) 0 (v5.a 1+3) (v5.a 1+4) true) fun v6=>yd 0 [] [1] [] (setS c (vi6 v u) 1 ((x.fdiv 4).fmod 5) (v1.a 1+4) (.int q tq) (vi6 (v.put ((x.fdiv 4).fmod 5) q) (u.put ((x.fdiv 4).fmod 5) tq))) fun v7=>yd 1 [] [1] [] (setS c (vi6 (v.put ((x.fdiv 4).fmod 5) q) (u.put ((x.fdiv 4).fmod 5) tq)) 1 (((x.fdiv 4).fmod 5)+1) (v7.a 1+1) (.int p tp) (vi6 ((v.put ((x.fdiv 4).fmod 5) q).put (((x.fdiv 4).fmod 5)+1) p) ((u.put ((x.fdiv 4).fmod 5) tq).put (((x.fdiv 4).fmod 5)+1) tp))) fun v8=>yc [] (neIS p q tp tq true) fun v9=>yc [4] (ag r.m r.rows 4 p tp (.ref (r.at p))) fun v10=>yc [5] (ag (r.at p) (D.rowL p) 4 q tq (.bool true)) fun v11=>.nil) (fun n t=>xd (aj (by omega) hk0 hg) fun _=>xd (ab (by omega) (by omega) gp) fun _=>xd (ab (by omega) (by omega) gq) fun _=>xc (ab (by omega) (by omega) (am hp.1 hp.2)) fun _=>xc (ab (by omega) (by omega) (ap hq hb)) fun _=>xd (ax (by omega) hz) fun _=>xd (setI_ok (by omega) (by omega) (by omega)) fun _=>xd (setI_ok (by omega) (by omega) (by omega)) fun _=>xc (bc (by omega) hne) fun _=>xc (ab (by omega) (by omega) (am hp.1 hp.2)) fun _=>xc (ab (by omega) (by omega) (ap hq hb)) fun _=>trivial) (fun n t ω=>((fun v1=>(it5 0 [] [0,1,2] [3,4,5,6,7,8] (chgS w lw ln c it L r.m X TX e (ak r D p) (frC w k0 k1 k2 k3 k4 (v1.a 1) (v1.a 1+5) ((ω 1).v.a 1) ((ω 2).v.a 1) lw ln r.m c false (.int x tx) (.int ((x.fdiv 4).fmod 5) (v1.a 1+4)) (.int p tp) (.int q tq)) ((u.put ((x.fdiv 4).fmod 5) tq).put (((x.fdiv 4).fmod 5)+1) tp) (k+1) ((v.put ((x.fdiv 4).fmod 5) q).put (((x.fdiv 4).fmod 5)+1) p) s'))) (ω 0).v)) (fun n t ω=>H' _ _ _ _ _ _ _ _ _ _ _ (by simp [chgF,hP,hQ,hb,hz,hne])) 173 [6,0,2,2,2,0,2,2,2,2,4,4,4,0,2,2,2,2,4,4,4,0,2,2,2,2,10,10,10,2,12,12,12,2,1,0,0,2,2,2,4,4,2,2,2,4,4,2,2,1,0,0,2,2,10,10,10,2,12,12,12,0,2,2]
  | false=>
    cases hne:(p != q) with
    | false=>
      refine yt (fun n t=>yd 0 [] [2] [3] (aK it ln k (vi6 X TX) e (.int x tx)) fun v1=>yd 2 [] [] [1] (ag c (vi6 v u) 1 ((x.fdiv 4).fmod 5) (v1.a 1+4) (.int p tp)) fun v2=>yd 1 [] [] [1] (ag c (vi6 v u) 1 ((x.fdiv 4).fmod 5+1) (v2.a 1+2) (.int q tq)) fun v3=>yc [4] (ag r.m r.rows 4 p tp (.ref (r.at p))) fun v4=>yc [5] (ag (r.at p) (D.rowL p) 4 q tq (.bool false)) fun v5=>yd 1 [] [1] [] (setS c (vi6 v u) 1 ((x.fdiv 4).fmod 5) (v1.a 1+4) (.int q tq) (vi6 (v.put ((x.fdiv 4).fmod 5) q) (u.put ((x.fdiv 4).fmod 5) tq))) fun v6=>yd 1 [] [1] [] (setS c (vi6 (v.put ((x.fdiv 4).fmod 5) q) (u.put ((x.fdiv 4).fmod 5) tq)) 1 (((x.fdiv 4).fmod 5)+1) (v6.a 1+1) (.int p tp) (vi6 ((v.put ((x.fdiv 4).fmod 5) q).put (((x.fdiv 4).fmod 5)+1) p) ((u.put ((x.fdiv 4).fmod 5) tq).put (((x.fdiv 4).fmod 5)+1) tp))) fun v7=>yc [] (neIS p q tp tq false) fun v8=>.nil) (fun n t=>xd (aj (by omega) hk0 hg) fun _=>xd (ab (by omega) (by omega) gp) fun _=>xd (ab (by omega) (by omega) gq) fun _=>xc (ab (by omega) (by omega) (am hp.1 hp.2)) fun _=>xc (ab (by omega) (by omega) (ap hq hb)) fun _=>xd (setI_ok (by omega) (by omega) (by omega)) fun _=>xd (setI_ok (by omega) (by omega) (by omega)) fun _=>xc (bc (by omega) hne) fun _=>trivial) (fun n t ω=>((fun v1=>(it5 0 [] [0,1,2] [3,4,5,6,7,8] (chgS w lw ln c it L r.m X TX e (ak r D p) (frC w k0 k1 k2 k3 k4 (v1.a 1) (v1.a 1+5) ((ω 1).v.a 1) ((ω 2).v.a 1) lw ln r.m c fair (.int x tx) (.int ((x.fdiv 4).fmod 5) (v1.a 1+4)) (.int p tp) (.int q tq)) ((u.put ((x.fdiv 4).fmod 5) tq).put (((x.fdiv 4).fmod 5)+1) tp) (k+1) ((v.put ((x.fdiv 4).fmod 5) q).put (((x.fdiv 4).fmod 5)+1) p) s'))) (ω 0).v)) (fun n t ω=>H' _ _ _ _ _ _ _ _ _ _ _ (by simp [chgF,hP,hQ,hb,hne])) 128 [6,0,2,2,2,0,2,2,2,2,4,4,4,0,2,2,2,2,4,4,4,0,2,2,2,2,10,10,10,2,12,12,12,2,2,2,4,4,2,2,2,4,4,2,2,1,0,0]
    | true=>
      refine yt (fun n t=>yd 0 [] [2] [3] (aK it ln k (vi6 X TX) e (.int x tx)) fun v1=>yd 2 [] [] [1] (ag c (vi6 v u) 1 ((x.fdiv 4).fmod 5) (v1.a 1+4) (.int p tp)) fun v2=>yd 1 [] [] [1] (ag c (vi6 v u) 1 ((x.fdiv 4).fmod 5+1) (v2.a 1+2) (.int q tq)) fun v3=>yc [4] (ag r.m r.rows 4 p tp (.ref (r.at p))) fun v4=>yc [5] (ag (r.at p) (D.rowL p) 4 q tq (.bool false)) fun v5=>yd 1 [] [1] [] (setS c (vi6 v u) 1 ((x.fdiv 4).fmod 5) (v1.a 1+4) (.int q tq) (vi6 (v.put ((x.fdiv 4).fmod 5) q) (u.put ((x.fdiv 4).fmod 5) tq))) fun v6=>yd 1 [] [1] [] (setS c (vi6 (v.put ((x.fdiv 4).fmod 5) q) (u.put ((x.fdiv 4).fmod 5) tq)) 1 (((x.fdiv 4).fmod 5)+1) (v6.a 1+1) (.int p tp) (vi6 ((v.put ((x.fdiv 4).fmod 5) q).put (((x.fdiv 4).fmod 5)+1) p) ((u.put ((x.fdiv 4).fmod 5) tq).put (((x.fdiv 4).fmod 5)+1) tp))) fun v7=>yc [] (neIS p q tp tq true) fun v8=>yc [4] (ag r.m r.rows 4 p tp (.ref (r.at p))) fun v9=>yc [5] (ag (r.at p) (D.rowL p) 4 q tq (.bool false)) fun v10=>.nil) (fun n t=>xd (aj (by omega) hk0 hg) fun _=>xd (ab (by omega) (by omega) gp) fun _=>xd (ab (by omega) (by omega) gq) fun _=>xc (ab (by omega) (by omega) (am hp.1 hp.2)) fun _=>xc (ab (by omega) (by omega) (ap hq hb)) fun _=>xd (setI_ok (by omega) (by omega) (by omega)) fun _=>xd (setI_ok (by omega) (by omega) (by omega)) fun _=>xc (bc (by omega) hne) fun _=>xc (ab (by omega) (by omega) (am hp.1 hp.2)) fun _=>xc (ab (by omega) (by omega) (ap hq hb)) fun _=>trivial) (fun n t ω=>((fun v1=>(it5 0 [] [0,1,2] [3,4,5,6,7,8] (chgS w lw ln c it L r.m X TX e (ak r D p) (frC w k0 k1 k2 k3 k4 (v1.a 1) (v1.a 1+5) ((ω 1).v.a 1) ((ω 2).v.a 1) lw ln r.m c fair (.int x tx) (.int ((x.fdiv 4).fmod 5) (v1.a 1+4)) (.int p tp) (.int q tq)) ((u.put ((x.fdiv 4).fmod 5) tq).put (((x.fdiv 4).fmod 5)+1) tp) (k+1) ((v.put ((x.fdiv 4).fmod 5) q).put (((x.fdiv 4).fmod 5)+1) p) s'))) (ω 0).v)) (fun n t ω=>H' _ _ _ _ _ _ _ _ _ _ _ (by simp [chgF,hP,hQ,hb,hne])) 147 [6,0,2,2,2,0,2,2,2,2,4,4,4,0,2,2,2,2,4,4,4,0,2,2,2,2,10,10,10,2,12,12,12,2,2,2,4,4,2,2,2,4,4,2,2,1,0,0,2,2,10,10,10,2,12,12,12]
noncomputable def chgIt (D:Dp) (X:V6 Int):Nat→Int→Chg→Chg
  | 0,_,s=>s
  | j+1,k,s=>chgIt D X j (k+1) (chgF D (X.at k) s)
theorem chg_exit (hD:d≤700):Ok w d (chgS w lw ln c it L r.m X TX e (r.led D) (frC w k0 k1 k2 k3 k4 k5 k6 k7 k8 lw ln r.m c fair z1 z2 z3 z4) u 6 v ⟨v,fair⟩):=by
  refine yv (fun n t=>.nil) (fun n t=>trivial) 17 [6,6,6,6,8,6,6,3] (fun n t ω=>nu [(n+2),t,u.a,u.b,u.c,u.d,u.e,u.f,k0,k1,k2,k3,k4,k5,k6,k7,k8] [⟨(.type "list_iterator"),none,.fields #[.none,(.int 6 0)],#[]⟩] [z1,z2,z3,z4])
theorem put_in {P:Int→Prop} {v:V6 Int} {i x:Int} (h:∀ j,P (v.at j)) (hx:P x):∀ j,P ((v.put i x).at j):=by
  intro j
  have ha:=h 0
  have hb:=h 1
  have hc:=h 2
  have hd:=h 3
  have he:=h 4
  have hf:=h 5
  have g:∀ k y,P y→P (putI i k x y):=fun k y hy=>by unfold putI; split <;> assumption
  unfold V6.at sel6
  split
  · exact g 0 _ ha
  · exact g 1 _ hb
  · exact g 2 _ hc
  · exact g 3 _ hd
  · exact g 4 _ he
  · exact g 5 _ hf
theorem chgF_in {P:Int→Prop} {x:Int} {s:Chg} (h:∀ j,P (s.v.at j)):∀ j,P ((chgF D x s).v.at j):=by
  unfold chgF
  dsimp only
  split
  · exact put_in (put_in h (h _)) (h _)
  · exact h
theorem chg_loop (hD:d≤700):∀ (j:Nat) (k:Int) (s:Chg) (u:V6 Tok) (z1 z2 z3 z4:Value),k+j=6→0≤k→(∀ i,0≤s.v.at i∧s.v.at i<4)→s'=chgIt D X j k s →
    Ok w d (chgS w lw ln c it L r.m X TX e (r.led D) (frC w k0 k1 k2 k3 k4 k5 k6 k7 k8 lw ln r.m c s.fair z1 z2 z3 z4) u k s.v s')
  | 0,k,s,u,z1,z2,z3,z4,hk,h0,hv,hs=>by
    obtain rfl:k=6:=by omega
    subst hs
    exact chg_exit hD
  | j+1,k,s,u,z1,z2,z3,z4,hk,h0,hv,hs=>by
    refine chg_turn hD h0 (by omega) hv fun z1 z2 z3 z4 u' fair' v' h=>?_
    have e:s'=chgIt D X j (k+1) ⟨v',fair'⟩:=by rw [hs,← h]; rfl
    exact chg_loop hD j (k+1) ⟨v',fair'⟩ u' z1 z2 z3 z4 (by omega) (by omega) (by have z:=chgF_in (P:=fun i=>0≤i∧i<4) (D:=D) (x:=X.at k) hv; rw [h] at z; exact z) e
theorem chg_all (hD:d≤700) {s:Chg} (hv:∀ i,0≤s.v.at i∧s.v.at i<4) (hs:s'=chgIt D X 6 0 s) :
    Ok w d (chgS w lw ln c it L r.m X TX e (r.led D) (frC0 w k0 k1 k2 k3 k4 lw ln r.m c s.fair) u 0 s.v s'):=by
  refine chg_turn0 hD (by omega) (by omega) hv fun k5 k6 k7 k8 z1 z2 z3 z4 u' fair' v' h=>?_
  have e:s'=chgIt D X 5 (0+1) ⟨v',fair'⟩:=by rw [hs,← h]; rfl
  exact chg_loop hD 5 (0+1) ⟨v',fair'⟩ u' z1 z2 z3 z4 (by omega) (by omega) (by have z:=chgF_in (P:=fun i=>0≤i∧i<4) (D:=D) (x:=X.at 0) hv; rw [h] at z; exact z) e
end
noncomputable def initS (S it:Addr) (items:Array Value) (n:Nat):Sm where
  c:=bi "list.__init__" [.ref S,.ref it]
  mpre:=[(S,lst #[] 0)]
  rpre:=[(it,lst items n)]
  post _:=[(S,lst items (if items.size==0 then 0 else 1))]
  news _:=[]
  res _:=.ok (.ret .none)
theorem initS_ok {w:World} {d:Nat} {S it:Addr} {items:Array Value} {n:Nat} (hsz:items.size≤sizeLine):Ok w d (initS S it items n):=by
  refine ⟨fun _=>rfl,fun A s R C B K _ H=>?_⟩
  have hS:=K.head
  have ho:=K.tail.head
  have hne:it≠S:=fun e=>by
    have:=K.nodup
    exact (List.nodup_cons.mp this).1 (e ▸ .head _)
  have ft:=F.called_list
  refine codeAny_call_builtin ft.init.plain F.entry_list_init (ft.init.check _ _ _ _ _ _ _ _ ⟨_,hS,rfl⟩ (F.args_list_init_2 _ _) ?_)
  refine wpAny_list_init_seq (hsz:=hsz) S it (.inl rfl) hne hS ho rfl rfl ?_
  have hS₂:=Heap.get?_update_self (Obj.mapSeq (fun _=>(#[]:Array Value))) hS rfl
  have hS₃:=Heap.get?_update_self (Obj.mapSeq (·++items)) hS₂ rfl
  have keep:∀ b o,b≠S→s.heap.get? b=some o→((s.heap.update S (Obj.mapSeq (fun _=>(#[]:Array Value)))).update S (Obj.mapSeq (·++items))).get? b=some o:=fun b o hb e=>
    (Heap.get?_update_other _ _ (Ne.symm hb)).trans ((Heap.get?_update_other _ _ (Ne.symm hb)).trans e)
  have sz:((s.heap.update S (Obj.mapSeq (fun _=>(#[]:Array Value)))).update S (Obj.mapSeq (·++items))).objs.size=s.heap.objs.size:=by
    rw [(Heap.SameBut.update (a:=S) ..).1,(Heap.SameBut.update (a:=S) ..).1]
  refine H _ (nu [s.heap.objs.size,s.toks]) ⟨⟨fun b o e hb=>keep b o (by simpa [initS] using hb) e,Nat.le_of_eq sz.symm,rfl,rfl⟩,sz,rfl,by simp [initS],fun x hx=>?_,fun x hx=>(nomatch hx),List.nodup_nil⟩
  rcases List.mem_singleton.mp hx with rfl
  refine hS₃.trans ?_
  simp only [Obj.mapSeq]
  cases hz:items.size==0 <;> simp_all
noncomputable def changedS (lw ln:Addr) (r:R4) (D:Dp) (v:V6 Int) (u:V6 Tok) (e':Nat) (X:V6 Int) (TX:V6 Tok) (e:Nat) (s':Chg):Sm where
  c:=.call (.ref 130) ⟨[.ref lw,.ref ln,.ref r.m],[]⟩
  mpre:=[]
  rpre:=(lw,li6 v u e')::(ln,li6 X TX e)::r.led D
  post _:=[]
  news o:=[(o.a 2,⟨.type "tuple",none,.seq #[.ref (o.a 3),.bool s'.fair] 0,#[]⟩),(o.a 3,li6 s'.v ⟨o.a 4,o.a 5,o.a 6,o.a 7,o.a 8,o.a 9⟩ 1)]
  res o:=.ok (.ret (.ref (o.a 2)))
theorem changed_ok {w:World} {d:Nat} {lw ln:Addr} {r:R4} {D:Dp} {v:V6 Int} {u:V6 Tok} {e':Nat} {X:V6 Int} {TX:V6 Tok} {e:Nat} {s':Chg} (hD:d≤640) (hv:∀ i,0≤v.at i∧v.at i<4) (hs:s'=chgIt D X 6 0 ⟨v,true⟩) :
    Ok w d (changedS lw ln r D v u e' X TX e s'):=by
  refine yv (fun n t=>yd 2 [0,1] [8] [0] (initS (n+1) lw ⟨vi6 v u⟩ e') fun v1=>yd 1 [0] [7,8,9] [1,2,3,4,5,6] (chgS w lw ln (n+1) (v1.a 0) n r.m X TX e (r.led D) (frC0 w t (t+1) (t+2) (v1.a 1) (v1.a 1+1) lw ln r.m (n+1) true) u 0 v s') fun v2=>.nil) (fun n t=>xd (initS_ok (by show 6≤sizeLine; decide)) fun _=>xd (chg_all (s:=⟨v,true⟩) (by omega) hv hs) fun _=>trivial) 73 [0,0,0,1,1,0,1,1,0,1,1,1,0,0,1,0,3,3,0,16,16,0,16,16,16,4,4,1,0,0,4,1,16,16] (fun n t ω=>((fun v2=>nu [(v2.a 0+1),(v2.a 1),v2.a 0,n+1,v2.a 2,v2.a 3,v2.a 4,v2.a 5,v2.a 6,v2.a 7] [] []) (ω 4).v)) [0,17]
noncomputable def pureS (c:Code) (res:Nv→Result):Sm where
  c:=c
  mpre:=[]
  rpre:=[]
  post _:=[]
  news _:=[]
  res:=res
theorem left0 {kt:KT} {st:Shared} {c:Code} {res:Nv→Result} {tk:Nat} {l:List Nat} (hl:l.length=0 ∨ True):Left kt st ⟨st.heap,st.gens,st.drawn,tk,st.os⟩ (pureS c res) (nu (st.heap.objs.size::tk::l)):=
  ⟨⟨fun _ _ e _=>e,Nat.le_refl _,rfl,rfl⟩,rfl,rfl,by simp [pureS],fun _ h=>(nomatch h),fun _ h=>(nomatch h),List.nodup_nil⟩
section
variable {w:World} {D:Nat} {T id:String} {name:Str} {Bb:Builtin} {self:Value} {rest:List Value} {r:Value} {i:Int} {x:Str}
theorem ok_val (slot:Slot T name id) (hT:∀ s:Shared,s.TypeIs self T) (entry:entryFor table id=some Bb) (args:argsOk id ⟨self::rest,[]⟩) (g:Gives (Bb ⟨self::rest,[]⟩) (.val r)) :
    Ok w D (pureS (bi id (self::rest)) fun _=>.ok (.ret r)):=
  ⟨fun _=>rfl,fun A st R C B K _ H=>codeAny_call_builtin slot.plain entry (slot.check _ _ _ _ _ _ _ _ (hT st) args (g PR w A R st (H st (nu [st.heap.objs.size,st.toks]) (left0 (.inr trivial)))))⟩
theorem ok_int (slot:Slot T name id) (hT:∀ s:Shared,s.TypeIs self T) (entry:entryFor table id=some Bb) (args:argsOk id ⟨self::rest,[]⟩) (g:Gives (Bb ⟨self::rest,[]⟩) (.int i)) :
    Ok w D (pureS (bi id (self::rest)) fun v=>.ok (.ret (.int i (v.a 2)))):=
  ⟨fun _=>rfl,fun A st R C B K _ H=>codeAny_call_builtin slot.plain entry (slot.check _ _ _ _ _ _ _ _ (hT st) args (g PR w A R st (H _ (nu [st.heap.objs.size,st.toks+1,st.toks]) (left0 (.inr trivial)))))⟩
theorem ok_str (slot:Slot T name id) (hT:∀ s:Shared,s.TypeIs self T) (entry:entryFor table id=some Bb) (args:argsOk id ⟨self::rest,[]⟩) (g:Gives (Bb ⟨self::rest,[]⟩) (.str x)) (hx:x.length≤sizeLine) :
    Ok w D (pureS (bi id (self::rest)) fun v=>.ok (.ret (.str x (v.a 2)))):=
  ⟨fun _=>rfl,fun A st R C B K _ H=>codeAny_call_builtin slot.plain entry (slot.check _ _ _ _ _ _ _ _ (hT st) args (g PR w A R st ⟨hx,H _ (nu [st.heap.objs.size,st.toks+1,st.toks]) (left0 (.inr trivial))⟩))⟩
noncomputable def eqSS (x y:List Nat) (t u:Tok) (b:Bool):Sm:=pureS (bi "str.__eq__" [.str (S x) t,.str (S y) u]) fun _=>.ok (.ret (.bool b))
theorem aG {x y:List Nat} {t u:Tok} {b:Bool} (h:(x==y)=b):Ok w D (eqSS x y t u b):=by
  subst h
  exact ok_val (name:=(cmpInfo .Eq).2.1) F.slot_str_eq (fun _=>rfl) F.entry_str_eq (F.args_str_eq_2 _ _) (gives_str_eq _ _ _ _)
noncomputable def neSS (x y:List Nat) (t u:Tok) (b:Bool):Sm:=pureS (bi "str.__ne__" [.str (S x) t,.str (S y) u]) fun _=>.ok (.ret (.bool b))
theorem az {x y:List Nat} {t u:Tok} {b:Bool} (h:(x != y)=b):Ok w D (neSS x y t u b):=by
  subst h
  exact ok_val (name:=(cmpInfo .NotEq).2.1) F.slot_str_ne (fun _=>rfl) F.entry_str_ne (F.args_str_ne_2 _ _) (gives_str_ne _ _ _ _)
noncomputable def bd (x y:List Nat) (t u:Tok) (b:Bool):Sm:=pureS (bi "str.__contains__" [.str (S x) t,.str (S y) u]) fun _=>.ok (.ret (.bool b))
theorem aA {x y:List Nat} {t u:Tok} {b:Bool} (h:(!(Builtin.Str.occurrences (S x) (S y) 0 (S x).length 1).isEmpty)=b):Ok w D (bd x y t u b):=by
  subst h
  exact ok_val (name := "__contains__") F.slot_str_contains (fun _=>rfl) F.entry_str_contains (F.args_str_contains_2 _ _) (gives_str_contains _ _ _ _)
noncomputable def an (x y:List Nat) (t u:Tok):Sm:=pureS (bi "str.__add__" [.str (S x) t,.str (S y) u]) fun v=>.ok (.ret (.str (S (x++y)) (v.a 2)))
theorem app_S (x y:List Nat):S x++S y=S (x++y):=by
  show (⟨(S x).cps++(S y).cps⟩:Str)=⟨⟨x++y⟩⟩
  congr 1
  apply Array.ext'
  simp
theorem ad {x y:List Nat} {t u:Tok} (hx:x≠[]) (hy:y≠[]) (hl:(x++y).length≤1000):Ok w D (an x y t u):=by
  refine ok_str (name:=dunder "add") F.slot_str_add (fun _=>rfl) F.entry_str_add (F.args_str_add_2 _ _) (x:=S (x++y)) ?_ (by show (x++y).length≤sizeLine; exact Nat.le_trans hl (by decide))
  have z:=gives_str_add (S x) (S y) t u
  have h1:((S x).length==0)=false:=by
    cases x with
    | nil=>exact absurd rfl hx
    | cons=>rfl
  have h2:((S y).length==0)=false:=by
    cases y with
    | nil=>exact absurd rfl hy
    | cons=>rfl
  rw [h1,h2,app_S] at z
  exact z
noncomputable def ay (x:List Nat) (i:Int) (t u:Tok) (c:Nat):Sm:=pureS (bi "str.__getitem__" [.str (S x) t,.int i u]) fun v=>.ok (.ret (.str (S [c]) (v.a 2)))
theorem af {x:List Nat} {i:Int} {t u:Tok} {c:Nat} (h:(seqIndex? i x.length).bind (x[·]?)=some c) (hi:-1000<i∧i<1000):Ok w D (ay x i t u c):=by
  refine ok_str (name := "__getitem__") F.slot_str_getitem (fun _=>rfl) F.entry_str_getitem (F.args_str_getitem_2 _ _) (x:=S [c]) ?_ (by show 1≤sizeLine; decide)
  refine gives_str_getitem _ _ _ _ c ?_ ?_
  · simp only [Bool.or_eq_false_iff,decide_eq_false_iff_not]
    omega
  · rw [← h]
    have e:∀ j:Nat,(S x).cps[j]?=x[j]?:=fun j=>by show (⟨x⟩:Array Nat)[j]?=_; simp
    simp only [e]
    rfl
noncomputable def indexSS (x y:List Nat) (t u:Tok) (i:Nat):Sm:=pureS (bi "str.index" [.str (S x) t,.str (S y) u]) fun v=>.ok (.ret (.int i (v.a 2)))
theorem indexSS_ok {x y:List Nat} {t u:Tok} {i:Nat} {rest:List Nat} (h:Builtin.Str.occurrences (S x) (S y) 0 (S x).length 1=i::rest):Ok w D (indexSS x y t u i):=
  ok_int (name := "index") F.slot_str_index (fun _=>rfl) F.entry_str_index (F.args_str_index_2 _ _) (gives_str_index _ _ _ _ i rest h)
end
noncomputable def appS (l:Addr) (xs:List Value) (e:Nat) (v:Value):Sm where
  c:=bi "list.append" [.ref l,v]
  mpre:=[(l,lst ⟨xs⟩ e)]
  rpre:=[]
  post _:=[(l,lst ⟨xs++[v]⟩ (e+1))]
  news _:=[]
  res _:=.ok (.ret .none)
noncomputable def popS (l:Addr) (x:Value) (xs:List Value) (e:Nat) (t:Tok):Sm where
  c:=bi "list.pop" [.ref l,.int 0 t]
  mpre:=[(l,lst ⟨x::xs⟩ e)]
  rpre:=[]
  post _:=[(l,lst ⟨xs⟩ (e+1))]
  news _:=[]
  res _:=.ok (.ret x)
theorem left1 {kt:KT} {st:Shared} {s:Sm} {l:Addr} {o o':Obj} {f:Obj→Obj} {rest:List Nat} (hm:s.mpre=[(l,o)]) (hp:∀ v,s.post v=[(l,o')]) (hn:∀ v,s.news v=[]) (hg:s.gens=[]) (ho:st.heap.get? l=some o) (hf:f o=o') (hfr:o'.isFreed=false) :
    Left kt st { st with heap:=st.heap.update l f,toks:=st.toks } s (nu (st.heap.objs.size::st.toks::rest)):=by
  refine ⟨⟨fun b ob e hb=>?_,?_,rfl,rfl⟩,?_,rfl,by simp [hg],fun x hx=>?_,fun x hx=>?_,?_⟩
  · rw [hm] at hb
    exact (Heap.get?_update_other _ _ (fun e=>hb (by simp [e]))).trans e
  · exact Nat.le_of_eq (Heap.SameBut.update (a:=l) ..).1.symm
  · exact (Heap.SameBut.update (a:=l) ..).1
  · rw [hp] at hx
    rcases List.mem_singleton.mp hx with rfl
    subst hf
    exact Heap.get?_update_self f ho hfr
  · rw [hn] at hx; cases hx
  · rw [hn]; exact List.nodup_nil
section
variable {w:World} {D:Nat} {l:Addr} {xs:List Value} {e:Nat} {x:Value} {t:Tok}
theorem appS_ok (h:xs.length≤1000):Ok w D (appS l xs e x):=
  ⟨fun _=>rfl,fun A st R C B K _ H=>codeAny_call_builtin F.slot_list_append.plain F.entry_list_append (F.slot_list_append.check _ _ _ _ _ _ _ _ ⟨_,K.head,rfl⟩ (F.args_list_append_2 _ _)
    (list_append l ⟨xs⟩ e x (Nat.le_trans h (by decide)) PR w A R st ⟨K.head,H _ (nu [st.heap.objs.size,st.toks]) (left1 rfl (fun _=>rfl) (fun _=>rfl) rfl K.head (by
      show (⟨_,_,.seq ((⟨xs⟩:Array Value).push x) (if ((⟨xs⟩:Array Value).push x).size==(⟨xs⟩:Array Value).size then e else e+1),_⟩:Obj)=_
      rw [show (((⟨xs⟩:Array Value).push x).size==(⟨xs⟩:Array Value).size)=false by simp,show (⟨xs⟩:Array Value).push x=⟨xs++[x]⟩ by simp]
      rfl) rfl)⟩))⟩
theorem list_pop0 (hsz:xs.length≤1000) :
    Meets (Builtin.«list.pop» ⟨[.ref l,.int 0 t],[]⟩) (fun _ R s=>s.heap.get? l=some { cls:=.type "list",dict:=none,data:=.seq ⟨x::xs⟩ e,slots:=#[] }∧R (.ok (.ret x)) { s with heap:=s.heap.update l (Obj.mapSeq fun ys=>ys.eraseIdxIfInBounds 0),toks:=s.toks }):=
  .of_wp fun prog w A R s h=>by
    obtain ⟨hp,g,d,tk,os⟩:=s; obtain ⟨hl,h⟩:=h
    have e2:((seqIndex? 0 (⟨x::xs⟩:Array Value).size).bind fun k=>(⟨x::xs⟩:Array Value)[k]?.map (k,·))=some (0,x):=by
      have:seqIndex? 0 (⟨x::xs⟩:Array Value).size=some 0:=by
        unfold seqIndex?
        simp
      rw [this]; rfl
    have hz:(⟨x::xs⟩:Array Value).size≤sizeLine:=by show xs.length+1≤sizeLine; exact Nat.le_trans (Nat.add_le_add_right hsz 1) (by decide)
    have hz':((⟨x::xs⟩:Array Value).eraseIdxIfInBounds 0).size≤sizeLine+1:=by
      have:((⟨x::xs⟩:Array Value).eraseIdxIfInBounds 0).size≤(⟨x::xs⟩:Array Value).size:=by
        unfold Array.eraseIdxIfInBounds
        split <;> simp
      omega
    show wpAny _ _ (do
      let ys ← Builtin.List.listItems (.ref l)
      if ys.isEmpty then rule "list.pop.empty"; raiseError "IndexError" "pop from empty list"
      match (seqIndex? 0 ys.size).bind fun k=>ys[k]?.map (k,·) with
      | some (k,x)=>Builtin.List.listUpdate (.ref l) (·.eraseIdxIfInBounds k); ret x
      | none=>rule "list.pop.out-of-range"; raiseError "IndexError" "pop index out of range") _ _ _
    refine wpAny_bind ?_
    unfold Builtin.List.listItems
    refine wpAny_bind (wpAny_seqItems hl rfl (wpAny_pure ?_))
    show wpAny _ _ (match (seqIndex? 0 (⟨x::xs⟩:Array Value).size).bind fun k=>(⟨x::xs⟩:Array Value)[k]?.map (k,·) with
      | some (k,x)=>Builtin.List.listUpdate (.ref l) (·.eraseIdxIfInBounds k) >>= fun _=>ret x
      | none=>rule "list.pop.out-of-range" >>= fun _=>raiseError "IndexError" "pop index out of range") _ _ _
    rw [e2]
    show wpAny _ _ (updateSeq l (fun ys=>ys.eraseIdxIfInBounds 0) >>= fun _=>ret x) _ _ _
    refine wpAny_bind (wpAny_updateSeq hl rfl (wpAny_pure ⟨_,rfl,h⟩) (hz:=hz) (_hz':=hz'))
theorem popS_ok (h:xs.length≤1000):Ok w D (popS l x xs e t):=
  ⟨fun _=>rfl,fun A st R C B K _ H=>codeAny_call_builtin F.slot_list_pop.plain F.entry_list_pop (F.slot_list_pop.check _ _ _ _ _ _ _ _ ⟨_,K.head,rfl⟩ (F.args_list_pop_2 _ _)
    (list_pop0 h PR w A R st ⟨K.head,H _ (nu [st.heap.objs.size,st.toks]) (left1 rfl (fun _=>rfl) (fun _=>rfl) rfl K.head (by
      have e1:(⟨x::xs⟩:Array Value).eraseIdxIfInBounds 0=⟨xs⟩:=by simp [Array.eraseIdxIfInBounds]
      show (⟨_,_,.seq ((⟨x::xs⟩:Array Value).eraseIdxIfInBounds 0) (if ((⟨x::xs⟩:Array Value).eraseIdxIfInBounds 0).size==(⟨x::xs⟩:Array Value).size then e else e+1),_⟩:Obj)=_
      rw [e1,show ((⟨xs⟩:Array Value).size==(⟨x::xs⟩:Array Value).size)=false by simp]
      rfl) rfl)⟩))⟩
noncomputable def lenS (l:Addr) (xs:List Value) (e:Nat):Sm where
  c:=.builtin "len" ⟨[.ref l],[]⟩
  mpre:=[]
  rpre:=[(l,lst ⟨xs⟩ e)]
  post _:=[]
  news _:=[]
  res v:=.ok (.ret (.int xs.length (v.a 2)))
theorem lenS_ok (h:xs.length≤1000):Ok w D (lenS l xs e):=
  ⟨fun _=>rfl,fun A st R C B K _ H=>codeAny_builtin entry_len (by
    rw [Around.under_plainId plain_len _]
    have hl:st.heap.IsList l ⟨xs⟩:=⟨_,K.head,rfl,_,rfl⟩
    have hz:((⟨xs⟩:Array Value).size:Int)<2 ^ 63:=by
      have:(⟨xs⟩:Array Value).size=xs.length:=rfl
      omega
    refine wpAny_mono (wpAny_len_body_list (E:=fun e s'=>R (.error e) s') (Q:=fun r s'=>R (.ok (.ret r)) s') hl hz (H _ (nu [st.heap.objs.size,st.toks+1+1,st.toks+1]) ⟨⟨fun _ _ e _=>e,Nat.le_refl _,rfl,rfl⟩,rfl,rfl,by simp [lenS],fun _ h=>(nomatch h),fun _ h=>(nomatch h),List.nodup_nil⟩)) (fun fin s' h'=>by obtain ⟨r,rfl,hq⟩:=h'; exact hq) fun _ _ e=>?_
    exact e)⟩
end
noncomputable def chs:List Nat→(Nat→Nat)→List Value
  | [],_=>[]
  | c::l,f=>.str (S [c]) (f 0)::chs l fun j=>f (j+1)
theorem chs_length (l:List Nat) (f:Nat→Nat):(chs l f).length=l.length:=by
  induction l generalizing f with
  | nil=>rfl
  | cons c l ih=>show (chs l _).length+1=_; rw [ih]; rfl
theorem chs_of:∀ (l:List Nat) (a:List Value),a.length=l.length→(∀ (j:Nat) (v:Value),a[j]?=some v→∃ (c:Nat) (u:Tok),l[j]?=some c∧v=Value.str (S [c]) u)→∃ f,a=chs l f
  | [],[],_,_=>⟨fun _=>0,rfl⟩
  | [],_::_,h,_=>by cases h
  | _::_,[],h,_=>by cases h
  | c::l,v::a,h,H=>by
    obtain ⟨f,hf⟩:=chs_of l a (Nat.succ.inj h) fun j v' hv=>H (j+1) v' hv
    obtain ⟨c',u,hc,hv⟩:=H 0 v rfl
    cases hc
    refine ⟨fun j=>match j with | 0=>u | j+1=>f j,?_⟩
    subst hv hf
    rfl
noncomputable def listStrS (A:Addr) (x:List Nat) (t:Tok):Sm where
  c:=bi "list.__init__" [.ref A,.str (S x) t]
  mpre:=[(A,lst #[] 0)]
  rpre:=[]
  post v:=[(A,lst ⟨chs x fun j=>v.a (j+3)⟩ (v.a 2))]
  news _:=[]
  res _:=.ok (.ret .none)
  sz:=some (A+1)
theorem listStrS_ok {w:World} {D:Nat} {l:Addr} {x:List Nat} {t:Tok} (h:x.length≤1000):Ok w D (listStrS l x t):=by
  refine ⟨fun _=>rfl,fun A s R C B K Z H=>?_⟩
  have hS:=K.head
  have ft:=F.called_list
  refine codeAny_call_builtin ft.init.plain F.entry_list_init (ft.init.check _ _ _ _ _ _ _ _ ⟨_,hS,rfl⟩ (F.args_list_init_2 _ _) ?_)
  refine wpAny_list_init_str (hn:=Nat.le_trans (show (S x).cps.size≤1000 from h) (by decide)) C.handled (S x) t l hS fun h' tk acc' c' hk hS' hacc=>?_
  obtain ⟨f,hf⟩:=chs_of x acc'.toList (by rw [Array.length_toList,hacc.1]; rfl) fun j v hv=>by
    obtain ⟨c,u,hc,hv⟩:=hacc.2 j v (by rw [← Array.getElem?_toList]; exact hv)
    refine ⟨c,u,?_,hv⟩
    have e:(S x).cps[j]?=x[j]?:=by show (⟨x⟩:Array Nat)[j]?=_; simp
    rw [← e]; exact hc
  refine H _ ⟨fun j=>match j with | 0=>h'.objs.size | 1=>tk | 2=>c' | j+3=>f j,fun _=>default,fun _=>.none,fun _ _=>0⟩ ⟨⟨fun b o e hb=>hk b o (fun q=>hb (by simp [listStrS,q])) e,?_,rfl,rfl⟩,rfl,rfl,by simp [listStrS],fun y hy=>?_,fun _ h=>(nomatch h),List.nodup_nil⟩
  · rw [Z _ rfl]
    exact Heap.lt_size hS'
  · rcases List.mem_singleton.mp hy with rfl
    refine hS'.trans ?_
    have:acc'=⟨chs x f⟩:=by rw [← hf]
    rw [this]
noncomputable def asgE:Stmt→Expr
  | .Assign _ v _=>v
  | _=>.Constant .none 0 ⟨0,0,0,0⟩
noncomputable def lamF (e:Expr) (clos:List (Str × Addr)) (ct:Value) (code:Addr):FuncData:=match e with
  | .Lambda args body scope _=>{ name:=S [60,108,97,109,98,100,97,62],qualname:=S [95,108,97,119,95,108,101,120,101,114,46,60,108,111,99,97,108,115,62,46,60,108,97,109,98,100,97,62],params:=args,body:=.expr body,scope:=scope,globals:=3,closure:=clos,defaults:=.none,kwdefaults:=.none,pyModule:=.str (S [108,97,119,95,117,99,48,48,48,54,95,48,49]) 451,code:=.ref code,closureTuple:=ct }
  | _=>{ name:=S [],qualname:=S [],params:=fnP (topS 15),body:=.stmts [],scope:=fnS (topS 15),globals:=3,closure:=[],defaults:=.none,kwdefaults:=.none }
noncomputable def codeO (a:Nat→Nat):Obj:=⟨.type "code",none,.fields #[.str (S [60,108,97,109,98,100,97,62]) (a 0),.str (S [95,108,97,119,95,108,101,120,101,114,46,60,108,111,99,97,108,115,62,46,60,108,97,109,98,100,97,62]) (a 1),.str (S [47,99,108,97,105,109,47,99,117,116,46,112,121]) (a 2),.int 118 0,.int 1 0,.int 0 0,.int 0 0,.int 19 0,.ref (a 3),.bool true,.int 276 0,.ref (a 4),.none,.ref (a 5),.ref (a 6),.ref (a 7),.int ↑(a 8) 0,.int 118 0,.str (S [47,99,108,97,105,109,47,99,117,116,46,112,121]) (a 9)],#[]⟩
structure Lx where
  self:Addr
  dct:Addr
  F1:Addr
  fd:Addr
  F2:Addr
  cell:Addr
  tup:Addr
  c1:Addr
  c2:Addr
  sl:Addr
  pb:Addr
  ka:Nat
  kb:Nat
  kc:Nat
  kd:Nat
  ke:Nat
  kf:Nat
  cq:Nat→Nat
noncomputable def Lx.dict (w:World) (x:Lx) (ln:Int) (lt:Tok):Obj:=⟨.type "dict",none,.dict #[en w.params (S [108,105,110,101,110,111]) x.ka (.int ln lt),en w.params (S [105,110,115,116,114,101,97,109]) x.kb (.ref x.F1),en w.params (S [119,104,105,116,101,115,112,97,99,101]) x.kc (.str (S [10,9,13,32]) x.kd),en w.params (S [112,117,115,104,98,97,99,107]) x.ke (.ref x.pb)] 4,#[]⟩
noncomputable abbrev Lx.mut (w:World) (x:Lx) (ln:Int) (lt:Tok) (cs:List Value) (ec:Nat) (ps:List Value) (ep:Nat):Led:=[(x.dct,x.dict w ln lt),(x.sl,lst ⟨cs⟩ ec),(x.pb,lst ⟨ps⟩ ep)]
noncomputable abbrev Lx.fix5 (w:World) (x:Lx):Led:=[(x.self,⟨.ref 90,some x.dct,.plain,#[]⟩),(x.F1,⟨.type "function",some x.fd,.func (lamF (asgE (sto 15 1)) [] .none x.c1),#[]⟩),(x.fd,⟨.type "dict",none,.dict #[en w.params (S [114,101,97,100]) x.kf (.ref x.F2)] 1,#[]⟩),
  (x.F2,⟨.type "function",none,.func (lamF (asgE (sto 15 2)) [(S [115,105,103,110,115],x.cell)] (.ref x.tup) x.c2),#[]⟩),(x.cell,⟨.type "cell",none,.cell (some (.ref x.sl)),#[]⟩)]
noncomputable abbrev Lx.fix (w:World) (x:Lx):Led:=x.fix5 w++[(x.c2,codeO x.cq)]
noncomputable def tabO (c1 c2:Addr):Obj:=⟨.none,none,.fields #[.int 117 0,.int 13 0,.ref c1,.int 118 0,.int 18 0,.ref c2],#[]⟩
noncomputable def nLx (v:Nv):Lx:=⟨v.a 2,v.a 3,v.a 4,v.a 5,v.a 6,v.a 7,v.a 8,v.a 9,v.a 10,v.a 11,v.a 12,v.a 13,v.a 14,v.a 15,v.a 16,v.a 17,v.a 18,fun j=>v.a (j+21)⟩
noncomputable def lexS1 (w:World) (tx:List Nat) (tt:Tok):Sm where
  c:=.call (.ref 118) ⟨[.str (S tx) tt],[]⟩
  mpre:=[(113,⟨.none,none,.fields #[],#[]⟩)]
  rpre:=[]
  post v:=[(113,tabO (v.a 9) (v.a 10))]
  news v:=(nLx v).mut w 1 (v.a 19) (chs tx fun j=>v.a (j+31)) (v.a 20) [] 0++(nLx v).fix w
  res v:=.ok (.ret (.ref (v.a 2)))
theorem lexS1_ok {w:World} {d:Nat} {tx:List Nat} {tt:Tok} (hD:d≤640) (hl:tx.length≤1000):Ok w d (lexS1 w tx tt):=by
  refine yv (fun n t=>yd 2 [0,1,2] [3] [] (listStrS (n+2) tx tt) fun v1=>.nil) (fun n t=>xd (listStrS_ok hl) fun _=>trivial) 290 [0,0,0,1,1,1,0,0,1,0,5,5,6,6,0,2,2,2,2,0,0,0,0,4,4,0,2,2,2,2,0,0,0,4,13,13,13,13,13,13,0,31,31,31,0,4,0,0,0,0,0,0,0,0,0,0,0,0,0,0,0,0,0,0,0,0,0,0,0,0,0,0,0,0,35,0,35,0,0,0,0,0,0,0,37,37,0,37,37,1,37,35,0,0,0,35,0,35,0,35,0,0,0,35,0,0,33,33,33,37,37,35,0,0,0,35,0,35,0,35,0,0,0,35,0,0,33,33,33,37,35,0,0,0,35,0,35,0,35,0,0,0,35,0,0,33,33,33,37,35,0,0,0,35,0,35,0,35,0,0,0,35,0,0,33,33,33] (fun n t ω=>((fun v1=>nu [(v1.a 0+20),(v1.a 1+27),v1.a 0+17,v1.a 0+16,v1.a 0+6,v1.a 0+15,v1.a 0+14,n+1,v1.a 0+7,v1.a 0+5,v1.a 0+13,n+2,v1.a 0+19,v1.a 1+19,v1.a 1+21,v1.a 1+24,v1.a 1+22,v1.a 1+26,v1.a 1+14,v1.a 1+17,v1.a 2,v1.a 1+6,v1.a 1+7,v1.a 1+8,v1.a 0+8,v1.a 0+9,v1.a 0+10,v1.a 0+11,v1.a 0+12,v1.a 1+11,v1.a 1+12] [] [] ((fun j=>v1.a (j+3)))) (ω 0).v)) [32,7,38,34,12,30,28,5,26]
noncomputable def lexS2 (w:World) (tx:List Nat) (tt:Tok) (c1 c2:Addr) (cq:Nat→Nat):Sm where
  c:=.call (.ref 118) ⟨[.str (S tx) tt],[]⟩
  mpre:=[]
  rpre:=[(113,tabO c1 c2),(c2,codeO cq)]
  post v:=[]
  news v:=(nLx v).mut w 1 (v.a 19) (chs tx fun j=>v.a (j+31)) (v.a 20) [] 0++({ nLx v with c1:=c1,c2:=c2,cq:=cq }:Lx).fix5 w
  res v:=.ok (.ret (.ref (v.a 2)))
theorem lexS2_ok {w:World} {d:Nat} {tx:List Nat} {tt:Tok} {c1 c2:Addr} {cq:Nat→Nat} (hD:d≤640) (hl:tx.length≤1000):Ok w d (lexS2 w tx tt c1 c2 cq):=by
  refine yv (fun n t=>yd 2 [0,1,2] [4] [] (listStrS (n+2) tx tt) fun v1=>.nil) (fun n t=>xd (listStrS_ok hl) fun _=>trivial) 260 [0,0,0,1,1,1,0,0,1,0,5,5,8,8,0,2,0,0,0,0,6,6,0,2,0,0,0,6,1,1,1,1,1,1,0,7,7,7,0,6,0,0,0,0,0,0,0,0,0,0,0,0,0,0,0,0,0,0,0,0,0,0,0,0,0,0,0,0,11,0,11,0,0,0,0,0,0,0,13,13,0,13,13,1,13,11,0,0,0,11,0,11,0,11,0,0,0,11,0,0,9,9,9,13,13,11,0,0,0,11,0,11,0,11,0,0,0,11,0,0,9,9,9,13,11,0,0,0,11,0,11,0,11,0,0,0,11,0,0,9,9,9,13,11,0,0,0,11,0,11,0,11,0,0,0,11,0,0,9,9,9] (fun n t ω=>((fun v1=>nu [(v1.a 0+8),(v1.a 1+15),v1.a 0+5,v1.a 0+4,v1.a 0,v1.a 0+3,v1.a 0+2,n+1,v1.a 0+1,0,0,n+2,v1.a 0+7,v1.a 1+7,v1.a 1+9,v1.a 1+12,v1.a 1+10,v1.a 1+14,v1.a 1+2,v1.a 1+5,v1.a 2,0,0,0,0,0,0,0,0,0,0] [] [] ((fun j=>v1.a (j+3)))) (ω 0).v)) [8,9,14,10,0,6,4,7]
section
variable {w:World} {d:Nat} {x:Lx} {ln:Int} {lt:Tok} {cs:List Value} {ec:Nat} {ps:List Value} {ep:Nat} {c:Nat} {ct:Tok}
noncomputable def readS (w:World) (x:Lx) (ln:Int) (lt:Tok) (c:Nat) (ct:Tok) (cs:List Value) (ec:Nat) (ps:List Value) (ep:Nat) (ln':Int):Sm where
  c:=.call (.ref 73) ⟨[.ref x.self],[]⟩
  mpre:=x.mut w ln lt (.str (S [c]) ct::cs) ec ps ep
  rpre:=x.fix w
  post v:=x.mut w ln' (v.a 2) cs (v.a 3) ps ep
  news v:=[]
  res v:=.ok (.ret (.str (S [c]) ct))
noncomputable def lnF (c:Nat) (ln:Int):Int:=if c=10 then ln+1 else ln
theorem readS_ok {ln':Int} (hD:d≤640) (hl:cs.length<1000) (hln:ln'=lnF c ln):Ok w d (readS w x ln lt c ct cs ec ps ep ln'):=by
  unfold lnF at hln
  cases h:(([c]:List Nat)==[10]) with
  | true=>
    rw [if_pos (by simpa using h)] at hln
    subst hln
    refine yv (fun n t=>yd 3 [0,1] [] [1] (lenS x.sl (.str (S [c]) ct::cs) ec) fun v1=>yd 0 [] [1] [] (popS x.sl (.str (S [c]) ct) cs ec (v1.a 1)) fun v2=>yc [] (eqSS [c] [10] ct (v2.a 1+1) true) fun v3=>.nil) (fun n t=>xd (lenS_ok (by simp; omega)) fun _=>xd (popS_ok (by omega)) fun _=>xc (aG h) fun _=>trivial) 146 [0,0,0,1,1,1,1,8,0,0,0,8,0,0,0,8,8,0,2,10,10,10,10,10,10,10,10,12,14,14,18,0,3,3,1,16,4,4,16,4,4,4,4,0,20,20,20,1,0,0,20,8,0,0,0,8,0,0,0,8,8,0,2,8,0,0,0,8,0,8,0,8,0,0,0,8,0,0,2,2,2,20] (fun n t ω=>((fun v3=>nu [(v3.a 0),(v3.a 1+5),v3.a 1+2,ec+1] [] []) (ω 5).v))
  | false=>
    rw [if_neg (by simpa using h)] at hln
    subst hln
    refine yv (fun n t=>yd 3 [0,1] [] [1] (lenS x.sl (.str (S [c]) ct::cs) ec) fun v1=>yd 0 [] [1] [] (popS x.sl (.str (S [c]) ct) cs ec (v1.a 1)) fun v2=>yc [] (eqSS [c] [10] ct (v2.a 1+1) false) fun v3=>.nil) (fun n t=>xd (lenS_ok (by simp; omega)) fun _=>xd (popS_ok (by omega)) fun _=>xc (aG h) fun _=>trivial) 96 [0,0,0,1,1,1,1,8,0,0,0,8,0,0,0,8,8,0,2,10,10,10,10,10,10,10,10,12,14,14,18,0,3,3,1,16,4,4,16,4,4,4,4,0,20,20,20,1,0,0,20] (fun n t ω=>((fun v3=>nu [(v3.a 0),(v3.a 1),lt,ec+1] [] []) (ω 5).v))
noncomputable def readS0 (w:World) (x:Lx) (ln:Int) (lt:Tok) (ec:Nat) (ps:List Value) (ep:Nat):Sm where
  c:=.call (.ref 73) ⟨[.ref x.self],[]⟩
  mpre:=[]
  rpre:=x.mut w ln lt [] ec ps ep++x.fix w
  post v:=[]
  news v:=[]
  res v:=.ok (.ret (.str (S []) (v.a 2)))
theorem readS0_ok (hD:d≤640):Ok w d (readS0 w x ln lt ec ps ep):=by
  refine yv (fun n t=>.nil) (fun n t=>trivial) 97 [0,0,0,1,1,1,1,8,0,0,0,8,0,0,0,8,8,0,2,10,10,10,10,10,10,10,10,12,14,14,18,0,3,3,1,16,4,4,4,4,4,0,1,1,1,1,0,0,1] (fun n t ω=>nu [(n+2),(t+10),t+7] [] [])
end
noncomputable def forBody:Stmt→List Stmt
  | .For _ _ b _ _=>b
  | _=>[]
noncomputable def elseB:Stmt→List Stmt
  | .If _ _ e _=>e
  | _=>[]
noncomputable def gtS (j:Nat):Stmt:=nthS (fnB (clsS 8 2)) j
noncomputable def gtIn:Stmt:=nthS (elseB (nthS (forBody (gtS 3)) 1)) 2
noncomputable abbrev gtE (L:Addr):Env:={ scope:=fnS (clsS 8 2),locals:=L,globals:=3,cells:=[],qual:=S [95,110,101,116,114,99,108,101,120,46,103,101,116,95,116,111,107,101,110,46,60,108,111,99,97,108,115,62,46],func:=some 80,code:=.ref 79,frame:=some L,builtins:=0 }
noncomputable def wsB (c:Nat):Bool:=c==10 || c==9 || c==13 || c==32
theorem wsB_has:∀ c,c<128→(!(Builtin.Str.occurrences (S [10,9,13,32]) (S [c]) 0 (S [10,9,13,32]).length 1).isEmpty)=wsB c:=by decide +kernel
noncomputable def inF:Nat→List Nat→List Nat→Int→Option (List Nat × List Nat × Int)
  | 0,_,_,_=>none
  | n+1,[],_,_=>none
  | n+1,c::l,tk,ln=>if wsB c then some (tk,l,lnF c ln) else if c=92 then match l with
      | []=>none
      | c2::l2=>inF n l2 (tk++[c2]) (lnF c2 ln)
    else inF n l (tk++[c]) ln
noncomputable def frT (w:World) (k0 k1 k2 k3:Tok) (self fi:Addr) (tk:List Nat) (tt:Tok) (ch:Value):Obj:=
  frm #[en w.params (S [115,101,108,102]) k0 (.ref self),en w.params (S [116,111,107,101,110]) k1 (.str (S tk) tt),en w.params (S [102,105,116,101,114]) k2 (.ref fi),en w.params (S [99,104]) k3 ch] 4
section
variable {w:World} {d:Nat} {x:Lx} {ln:Int} {lt:Tok} {ec:Nat} {ps:List Value} {ep:Nat} {c:Nat} {ct:Tok} {L fi bm:Addr} {st:Tok} {k0 k1 k2 k3:Tok} {tk tk' l l':List Nat} {tt:Tok} {ch:Value} {f:Nat→Nat} {ln':Int}
noncomputable def readM (w:World) (x:Lx) (bm:Addr) (ln:Int) (lt:Tok) (c:Nat) (ct:Tok) (cs:List Value) (ec:Nat) (ps:List Value) (ep:Nat) (ln':Int):Sm where
  c:=.call (.ref bm) ⟨[],[]⟩
  mpre:=x.mut w ln lt (.str (S [c]) ct::cs) ec ps ep
  rpre:=(bm,⟨.type "method",none,.fields #[.ref 73,.ref x.self],#[]⟩)::x.fix w
  post v:=x.mut w ln' (v.a 2) cs (v.a 3) ps ep
  news v:=[]
  res v:=.ok (.ret (.str (S [c]) ct))
theorem readM_ok {cs:List Value} (hD:d≤640) (hl:cs.length<1000) (hln:ln'=lnF c ln):Ok w d (readM w x bm ln lt c ct cs ec ps ep ln'):=by
  refine yt (fun n t=>.nil) (fun n t=>trivial) (fun n t ω=>(it5 0 [] [0,1,2] [4,5,6,7,8,9] (readS w x ln lt c ct cs ec ps ep ln'))) (fun n t ω=>readS_ok hD hl hln) 1 [8]
noncomputable def readM0 (w:World) (x:Lx) (bm:Addr) (ln:Int) (lt:Tok) (ec:Nat) (ps:List Value) (ep:Nat):Sm where
  c:=.call (.ref bm) ⟨[],[]⟩
  mpre:=[]
  rpre:=(bm,⟨.type "method",none,.fields #[.ref 73,.ref x.self],#[]⟩)::(x.mut w ln lt [] ec ps ep++x.fix w)
  post v:=[]
  news v:=[]
  res v:=.ok (.ret (.str (S []) (v.a 2)))
theorem readM0_ok (hD:d≤640):Ok w d (readM0 w x bm ln lt ec ps ep):=by
  refine yt (fun n t=>.nil) (fun n t=>trivial) (fun n t ω=>(it5 0 [] [] [1,2,3,4,5,6,7,8,9] (readS0 w x ln lt ec ps ep))) (fun n t ω=>readS0_ok hD) 1 [2]
noncomputable abbrev itR (w:World) (x:Lx) (fi bm:Addr) (st:Tok):Led:=(fi,⟨.type "callable_iterator",none,.fields #[.ref bm,.str (S []) st,.bool false],#[]⟩)::(bm,⟨.type "method",none,.fields #[.ref 73,.ref x.self],#[]⟩)::x.fix w
noncomputable def nextC (w:World) (x:Lx) (fi bm:Addr) (st:Tok) (ln:Int) (lt:Tok) (c:Nat) (ct:Tok) (cs:List Value) (ec:Nat) (ps:List Value) (ep:Nat) (ln':Int):Sm where
  c:=bi "callable_iterator.__next__" [.ref fi]
  mpre:=x.mut w ln lt (.str (S [c]) ct::cs) ec ps ep
  rpre:=itR w x fi bm st
  post v:=x.mut w ln' (v.a 2) cs (v.a 3) ps ep
  news v:=[]
  res v:=.ok (.ret (.str (S [c]) ct))
noncomputable def abc:List Nat:=[46,97,32,34,92,40,39,98,9,45,13,10]
theorem nextC_46 {cs:List Value} (hD:d≤580) (hl:cs.length<1000) (hln:ln'=lnF 46 ln):Ok w d (nextC w x fi bm st ln lt 46 ct cs ec ps ep ln'):=by
  refine yv (fun n t=>yd 0 [] [0,1,2] [4,5,6,7,8,9,10] (readM w x bm ln lt 46 ct cs ec ps ep ln') fun v1=>.nil) (fun n t=>xd (readM_ok (by omega) hl hln) fun _=>trivial) 13 [8,8,8,10,0,8,8,1,0,0] (fun n t ω=>((fun v1=>nu [(v1.a 0),(v1.a 1),v1.a 2,v1.a 3] [] []) (ω 0).v))
theorem nextC_97 {cs:List Value} (hD:d≤580) (hl:cs.length<1000) (hln:ln'=lnF 97 ln):Ok w d (nextC w x fi bm st ln lt 97 ct cs ec ps ep ln'):=by
  refine yv (fun n t=>yd 0 [] [0,1,2] [4,5,6,7,8,9,10] (readM w x bm ln lt 97 ct cs ec ps ep ln') fun v1=>.nil) (fun n t=>xd (readM_ok (by omega) hl hln) fun _=>trivial) 13 [8,8,8,10,0,8,8,1,0,0] (fun n t ω=>((fun v1=>nu [(v1.a 0),(v1.a 1),v1.a 2,v1.a 3] [] []) (ω 0).v))
theorem nextC_32 {cs:List Value} (hD:d≤580) (hl:cs.length<1000) (hln:ln'=lnF 32 ln):Ok w d (nextC w x fi bm st ln lt 32 ct cs ec ps ep ln'):=by
  refine yv (fun n t=>yd 0 [] [0,1,2] [4,5,6,7,8,9,10] (readM w x bm ln lt 32 ct cs ec ps ep ln') fun v1=>.nil) (fun n t=>xd (readM_ok (by omega) hl hln) fun _=>trivial) 13 [8,8,8,10,0,8,8,1,0,0] (fun n t ω=>((fun v1=>nu [(v1.a 0),(v1.a 1),v1.a 2,v1.a 3] [] []) (ω 0).v))
theorem nextC_34 {cs:List Value} (hD:d≤580) (hl:cs.length<1000) (hln:ln'=lnF 34 ln):Ok w d (nextC w x fi bm st ln lt 34 ct cs ec ps ep ln'):=by
  refine yv (fun n t=>yd 0 [] [0,1,2] [4,5,6,7,8,9,10] (readM w x bm ln lt 34 ct cs ec ps ep ln') fun v1=>.nil) (fun n t=>xd (readM_ok (by omega) hl hln) fun _=>trivial) 13 [8,8,8,10,0,8,8,1,0,0] (fun n t ω=>((fun v1=>nu [(v1.a 0),(v1.a 1),v1.a 2,v1.a 3] [] []) (ω 0).v))
theorem nextC_92 {cs:List Value} (hD:d≤580) (hl:cs.length<1000) (hln:ln'=lnF 92 ln):Ok w d (nextC w x fi bm st ln lt 92 ct cs ec ps ep ln'):=by
  refine yv (fun n t=>yd 0 [] [0,1,2] [4,5,6,7,8,9,10] (readM w x bm ln lt 92 ct cs ec ps ep ln') fun v1=>.nil) (fun n t=>xd (readM_ok (by omega) hl hln) fun _=>trivial) 13 [8,8,8,10,0,8,8,1,0,0] (fun n t ω=>((fun v1=>nu [(v1.a 0),(v1.a 1),v1.a 2,v1.a 3] [] []) (ω 0).v))
theorem nextC_40 {cs:List Value} (hD:d≤580) (hl:cs.length<1000) (hln:ln'=lnF 40 ln):Ok w d (nextC w x fi bm st ln lt 40 ct cs ec ps ep ln'):=by
  refine yv (fun n t=>yd 0 [] [0,1,2] [4,5,6,7,8,9,10] (readM w x bm ln lt 40 ct cs ec ps ep ln') fun v1=>.nil) (fun n t=>xd (readM_ok (by omega) hl hln) fun _=>trivial) 13 [8,8,8,10,0,8,8,1,0,0] (fun n t ω=>((fun v1=>nu [(v1.a 0),(v1.a 1),v1.a 2,v1.a 3] [] []) (ω 0).v))
theorem nextC_39 {cs:List Value} (hD:d≤580) (hl:cs.length<1000) (hln:ln'=lnF 39 ln):Ok w d (nextC w x fi bm st ln lt 39 ct cs ec ps ep ln'):=by
  refine yv (fun n t=>yd 0 [] [0,1,2] [4,5,6,7,8,9,10] (readM w x bm ln lt 39 ct cs ec ps ep ln') fun v1=>.nil) (fun n t=>xd (readM_ok (by omega) hl hln) fun _=>trivial) 13 [8,8,8,10,0,8,8,1,0,0] (fun n t ω=>((fun v1=>nu [(v1.a 0),(v1.a 1),v1.a 2,v1.a 3] [] []) (ω 0).v))
theorem nextC_98 {cs:List Value} (hD:d≤580) (hl:cs.length<1000) (hln:ln'=lnF 98 ln):Ok w d (nextC w x fi bm st ln lt 98 ct cs ec ps ep ln'):=by
  refine yv (fun n t=>yd 0 [] [0,1,2] [4,5,6,7,8,9,10] (readM w x bm ln lt 98 ct cs ec ps ep ln') fun v1=>.nil) (fun n t=>xd (readM_ok (by omega) hl hln) fun _=>trivial) 13 [8,8,8,10,0,8,8,1,0,0] (fun n t ω=>((fun v1=>nu [(v1.a 0),(v1.a 1),v1.a 2,v1.a 3] [] []) (ω 0).v))
theorem nextC_9 {cs:List Value} (hD:d≤580) (hl:cs.length<1000) (hln:ln'=lnF 9 ln):Ok w d (nextC w x fi bm st ln lt 9 ct cs ec ps ep ln'):=by
  refine yv (fun n t=>yd 0 [] [0,1,2] [4,5,6,7,8,9,10] (readM w x bm ln lt 9 ct cs ec ps ep ln') fun v1=>.nil) (fun n t=>xd (readM_ok (by omega) hl hln) fun _=>trivial) 13 [8,8,8,10,0,8,8,1,0,0] (fun n t ω=>((fun v1=>nu [(v1.a 0),(v1.a 1),v1.a 2,v1.a 3] [] []) (ω 0).v))
theorem nextC_45 {cs:List Value} (hD:d≤580) (hl:cs.length<1000) (hln:ln'=lnF 45 ln):Ok w d (nextC w x fi bm st ln lt 45 ct cs ec ps ep ln'):=by
  refine yv (fun n t=>yd 0 [] [0,1,2] [4,5,6,7,8,9,10] (readM w x bm ln lt 45 ct cs ec ps ep ln') fun v1=>.nil) (fun n t=>xd (readM_ok (by omega) hl hln) fun _=>trivial) 13 [8,8,8,10,0,8,8,1,0,0] (fun n t ω=>((fun v1=>nu [(v1.a 0),(v1.a 1),v1.a 2,v1.a 3] [] []) (ω 0).v))
theorem nextC_13 {cs:List Value} (hD:d≤580) (hl:cs.length<1000) (hln:ln'=lnF 13 ln):Ok w d (nextC w x fi bm st ln lt 13 ct cs ec ps ep ln'):=by
  refine yv (fun n t=>yd 0 [] [0,1,2] [4,5,6,7,8,9,10] (readM w x bm ln lt 13 ct cs ec ps ep ln') fun v1=>.nil) (fun n t=>xd (readM_ok (by omega) hl hln) fun _=>trivial) 13 [8,8,8,10,0,8,8,1,0,0] (fun n t ω=>((fun v1=>nu [(v1.a 0),(v1.a 1),v1.a 2,v1.a 3] [] []) (ω 0).v))
theorem nextC_10 {cs:List Value} (hD:d≤580) (hl:cs.length<1000) (hln:ln'=lnF 10 ln):Ok w d (nextC w x fi bm st ln lt 10 ct cs ec ps ep ln'):=by
  refine yv (fun n t=>yd 0 [] [0,1,2] [4,5,6,7,8,9,10] (readM w x bm ln lt 10 ct cs ec ps ep ln') fun v1=>.nil) (fun n t=>xd (readM_ok (by omega) hl hln) fun _=>trivial) 13 [8,8,8,10,0,8,8,1,0,0] (fun n t ω=>((fun v1=>nu [(v1.a 0),(v1.a 1),v1.a 2,v1.a 3] [] []) (ω 0).v))
theorem nextC_ok {cs:List Value} (hD:d≤580) (hl:cs.length<1000) (hc:c∈abc) (hln:ln'=lnF c ln):Ok w d (nextC w x fi bm st ln lt c ct cs ec ps ep ln'):=by
  simp only [abc,List.mem_cons,List.not_mem_nil,or_false] at hc
  rcases hc with rfl | rfl | rfl | rfl | rfl | rfl | rfl | rfl | rfl | rfl | rfl | rfl
  · exact nextC_46 hD hl hln
  · exact nextC_97 hD hl hln
  · exact nextC_32 hD hl hln
  · exact nextC_34 hD hl hln
  · exact nextC_92 hD hl hln
  · exact nextC_40 hD hl hln
  · exact nextC_39 hD hl hln
  · exact nextC_98 hD hl hln
  · exact nextC_9 hD hl hln
  · exact nextC_45 hD hl hln
  · exact nextC_13 hD hl hln
  · exact nextC_10 hD hl hln
theorem abc_lt:c∈abc→c<128:=by
  revert c; decide
noncomputable def inS (w:World) (x:Lx) (L fi bm:Addr) (fr:Obj) (st:Tok) (ln:Int) (lt:Tok) (l:List Nat) (f:Nat→Nat) (ec:Nat) (ps:List Value) (ep:Nat) (tk' l':List Nat) (ln':Int):Sm where
  c:=forC gtIn (.ref fi) (gtE L)
  mpre:=(L,fr)::x.mut w ln lt (chs l f) ec ps ep
  rpre:=itR w x fi bm st
  post v:=(L,v.o 0)::x.mut w ln' (v.a 2) (chs l' fun j=>v.a (j+5)) (v.a 3) ps ep
  news v:=[]
  res v:=.ok (.ret (.str (S tk') (v.a 4)))
theorem in_ws (hD:d≤500) (hc:c∈abc) (hw:wsB c=true) (hl:l.length<1000):Ok w d (inS w x L fi bm (frT w k0 k1 k2 k3 x.self fi tk tt ch) st ln lt (c::l) f ec ps ep tk l (lnF c ln)):=by
  refine yv (fun n t=>yd 0 [] [1,2,3] [4,5,6,7,8,9,10,11] (nextC w x fi bm st ln lt c (f 0) (chs l fun j=>f (j+1)) ec ps ep (lnF c ln)) fun v1=>yd 1 [] [] [] (bd [10,9,13,32] [c] x.kd (f 0) true) fun v2=>.nil) (fun n t=>xd (nextC_ok (by omega) (by rw [chs_length]; omega) hc rfl) fun _=>xd (aA (hw ▸ wsB_has c (abc_lt hc))) fun _=>trivial) 37 [10,0,2,2,2,2,14,0,0,0,14,0,0,0,14,14,0,4,2] (fun n t ω=>((fun v1 v2=>nu [(v2.a 0),(v2.a 1),v1.a 2,v1.a 3,tt] [⟨(.type "frame"),none,.dict #[en w.params (S [115,101,108,102]) k0 (.ref x.self),en w.params (S [116,111,107,101,110]) k1 (.str (S tk) tt),en w.params (S [102,105,116,101,114]) k2 (.ref fi),en w.params (S [99,104]) k3 (.str (S [c]) (f 0))] 4,#[]⟩] [] ((fun j=>f (j+1)))) (ω 0).v (ω 1).v))
theorem in_ord (hD:d≤500) (hc:c∈abc) (hw:wsB c=false) (h92:([c]==[92])=false) (hl:l.length<1000) (htk:tk≠[]) (htl:tk.length<900)
    (H:∀ lt ec f tt ch,Ok w d (inS w x L fi bm (frT w k0 k1 k2 k3 x.self fi (tk++[c]) tt ch) st (lnF c ln) lt l f ec ps ep tk' l' ln')) :
    Ok w d (inS w x L fi bm (frT w k0 k1 k2 k3 x.self fi tk tt ch) st ln lt (c::l) f ec ps ep tk' l' ln'):=by
  refine yt (fun n t=>yd 0 [] [1,2,3] [4,5,6,7,8,9,10,11] (nextC w x fi bm st ln lt c (f 0) (chs l fun j=>f (j+1)) ec ps ep (lnF c ln)) fun v1=>yd 1 [] [] [] (bd [10,9,13,32] [c] x.kd (f 0) false) fun v2=>yc [] (eqSS [c] [92] (f 0) (v2.a 1) false) fun v3=>yc [] (an tk [c] tt (f 0)) fun v4=>.nil) (fun n t=>xd (nextC_ok (by omega) (by rw [chs_length]; omega) hc rfl) fun _=>xd (aA (hw ▸ wsB_has c (abc_lt hc))) fun _=>xc (aG h92) fun _=>xc (ad htk (by simp) (by simp; omega)) fun _=>trivial) (fun n t ω=>((fun v1=>(it5 0 [] [0,1,2,3] [4,5,6,7,8,9,10,11] (inS w x L fi bm (frT w k0 k1 k2 k3 x.self fi (tk++[c]) ((ω 9).v.a 2) (.str (S [c]) (f 0))) st (lnF c ln) (v1.a 2) l (fun j=>f (j+1)) (v1.a 3) ps ep tk' l' ln'))) (ω 0).v)) (fun n t ω=>H _ _ _ _ _) 55 [10,0,2,2,2,2,14,0,0,0,14,0,0,0,14,14,0,4,2,1,0,0,2,2,0,2,2]
theorem in_esc {c2:Nat} (hD:d≤500) (hl:l.length<900) (htk:tk≠[]) (htl:tk.length<900)
    (H:∀ lt ec f tt ch,Ok w d (inS w x L fi bm (frT w k0 k1 k2 k3 x.self fi (tk++[c2]) tt ch) st (lnF c2 ln) lt l f ec ps ep tk' l' ln')) :
    Ok w d (inS w x L fi bm (frT w k0 k1 k2 k3 x.self fi tk tt ch) st ln lt (92::c2::l) f ec ps ep tk' l' ln'):=by
  refine yt (fun n t=>yd 0 [] [1,2,3] [4,5,6,7,8,9,10,11] (nextC w x fi bm st ln lt 92 (f 0) (chs (c2::l) fun j=>f (j+1)) ec ps ep ln) fun v1=>yd 3 [] [1,2,3] [6,7,8,9,10,11] (readS w x ln (v1.a 2) c2 (f 1) (chs l fun j=>f (j+2)) (v1.a 3) ps ep (lnF c2 ln)) fun v2=>yc [] (an tk [c2] tt (f 1)) fun v3=>.nil) (fun n t=>xd (nextC_ok (by omega) (by rw [chs_length]; simp; omega) (by decide) rfl) fun _=>xd (readS_ok (by omega) (by rw [chs_length]; omega) rfl) fun _=>xc (ad htk (by simp) (by simp; omega)) fun _=>trivial) (fun n t ω=>((fun v2=>(it5 0 [] [0,1,2,3] [4,5,6,7,8,9,10,11] (inS w x L fi bm (frT w k0 k1 k2 k3 x.self fi (tk++[c2]) ((ω 8).v.a 2) (.str (S [c2]) (f 1))) st (lnF c2 ln) (v2.a 2) l (fun j=>f (j+2)) (v2.a 3) ps ep tk' l' ln'))) (ω 4).v)) (fun n t ω=>H _ _ _ _ _) 90 [10,0,2,2,2,2,14,0,0,0,14,0,0,0,14,14,0,4,2,1,0,0,2,14,0,0,0,14,0,0,0,14,0,0,0,0,14,4,0,0,2,2,2,2,0,2,2]
theorem in_ok (hD:d≤500):∀ (n:Nat) (l tk:List Nat) (ln:Int) (lt ec:Nat) (f:Nat→Nat) (tt:Tok) (ch:Value),inF n l tk ln=some (tk',l',ln')→(∀ c∈l,c∈abc)→tk≠[]→tk.length+l.length<900 →
    Ok w d (inS w x L fi bm (frT w k0 k1 k2 k3 x.self fi tk tt ch) st ln lt l f ec ps ep tk' l' ln')
  | 0,_,_,_,_,_,_,_,_,h,_,_,_=>nomatch h
  | n+1,[],_,_,_,_,_,_,_,h,_,_,_=>nomatch h
  | n+1,c::l,tk,ln,lt,ec,f,tt,ch,h,ha,htk,hl=>by
    rw [List.length_cons] at hl
    have hc:=ha c (.head _)
    have ha':∀ c∈l,c∈abc:=fun c h=>ha c (.tail _ h)
    unfold inF at h
    cases hw:wsB c with
    | true=>
      rw [if_pos hw] at h
      cases h
      exact in_ws hD hc hw (by omega)
    | false=>
      rw [if_neg (by rw [hw]; decide)] at h
      by_cases h92:c=92
      · subst h92
        rw [if_pos rfl] at h
        cases l with
        | nil=>cases h
        | cons c2 l2=>
          rw [List.length_cons] at hl
          exact in_esc hD (by omega) htk (by omega) fun lt ec f tt ch=>in_ok hD n l2 (tk++[c2]) (lnF c2 ln) lt ec f tt ch h (fun c h=>ha' c (.tail _ h)) (by simp) (by simp; omega)
      · rw [if_neg h92] at h
        have e10:lnF c ln=ln:=by
          unfold lnF
          rw [if_neg]
          rintro rfl
          cases hw
        refine in_ord hD hc hw (by simpa using h92) (by omega) htk (by omega) fun lt ec f tt ch=>?_
        rw [e10]
        exact in_ok hD n l (tk++[c]) ln lt ec f tt ch h ha' (by simp) (by simp; omega)
end
noncomputable def frT0 (w:World) (k0 k1 k2:Tok) (self fi:Addr) (tt:Tok):Obj:=
  frm #[en w.params (S [115,101,108,102]) k0 (.ref self),en w.params (S [116,111,107,101,110]) k1 (.str (S []) tt),en w.params (S [102,105,116,101,114]) k2 (.ref fi)] 3
noncomputable def tokF:Nat→List Nat→Int→Option (List Nat × List Nat × Int)
  | 0,_,_=>none
  | n+1,[],_=>none
  | n+1,c::l,ln=>if wsB c then tokF n l (lnF c ln) else if c=34 ∨ c=92 then none else inF n l [c] ln
section
variable {w:World} {d:Nat} {x:Lx} {ln:Int} {lt:Tok} {ec:Nat} {ps:List Value} {ep:Nat} {c:Nat} {ct:Tok} {L fi bm:Addr} {st:Tok} {k0 k1 k2 k3:Tok} {tk tk' l l':List Nat} {tt:Tok} {ch:Value} {f:Nat→Nat} {ln':Int}
noncomputable def outS (w:World) (x:Lx) (L fi bm:Addr) (fr:Obj) (st:Tok) (ln:Int) (lt:Tok) (l:List Nat) (f:Nat→Nat) (ec:Nat) (ps:List Value) (ep:Nat) (tk' l':List Nat) (ln':Int):Sm where
  c:=forC (gtS 3) (.ref fi) (gtE L)
  mpre:=(L,fr)::x.mut w ln lt (chs l f) ec ps ep
  rpre:=itR w x fi bm st
  post v:=(L,v.o 0)::x.mut w ln' (v.a 2) (chs l' fun j=>v.a (j+5)) (v.a 3) ps ep
  news v:=[]
  res v:=.ok (.ret (.str (S tk') (v.a 4)))
theorem out_ws (hD:d≤500) (hc:c∈abc) (hw:wsB c=true) (hl:l.length<1000)
    (H:∀ lt ec f ch,Ok w d (outS w x L fi bm (frT w k0 k1 k2 k3 x.self fi [] tt ch) st (lnF c ln) lt l f ec ps ep tk' l' ln')) :
    Ok w d (outS w x L fi bm (frT w k0 k1 k2 k3 x.self fi [] tt ch) st ln lt (c::l) f ec ps ep tk' l' ln'):=by
  refine yt (fun n t=>yd 0 [] [1,2,3] [4,5,6,7,8,9,10,11] (nextC w x fi bm st ln lt c (f 0) (chs l fun j=>f (j+1)) ec ps ep (lnF c ln)) fun v1=>yd 1 [] [] [] (bd [10,9,13,32] [c] x.kd (f 0) true) fun v2=>.nil) (fun n t=>xd (nextC_ok (by omega) (by rw [chs_length]; omega) hc rfl) fun _=>xd (aA (hw ▸ wsB_has c (abc_lt hc))) fun _=>trivial) (fun n t ω=>((fun v1=>(it5 0 [] [0,1,2,3] [4,5,6,7,8,9,10,11] (outS w x L fi bm (frT w k0 k1 k2 k3 x.self fi [] tt (.str (S [c]) (f 0))) st (lnF c ln) (v1.a 2) l (fun j=>f (j+1)) (v1.a 3) ps ep tk' l' ln'))) (ω 0).v)) (fun n t ω=>H _ _ _ _) 35 [10,0,2,2,2,2,14,0,0,0,14,0,0,0,14,14,0,4]
theorem out_ord (hD:d≤440) (hc:c∈abc) (hw:wsB c=false) (h34:([c]==[34])=false) (h92:([c]==[92])=false) (hl:l.length<1000)
    (H:∀ k3 lt ec f tt ch,Ok w (d+60) (inS w x L fi bm (frT w k0 k1 k2 k3 x.self fi [c] tt ch) st (lnF c ln) lt l f ec ps ep tk' l' ln')) :
    Ok w d (outS w x L fi bm (frT w k0 k1 k2 k3 x.self fi [] tt ch) st ln lt (c::l) f ec ps ep tk' l' ln'):=by
  refine yv (fun n t=>yd 0 [] [1,2,3] [4,5,6,7,8,9,10,11] (nextC w x fi bm st ln lt c (f 0) (chs l fun j=>f (j+1)) ec ps ep (lnF c ln)) fun v1=>yd 1 [] [] [] (bd [10,9,13,32] [c] x.kd (f 0) false) fun v2=>yc [] (eqSS [c] [34] (f 0) (v2.a 1) false) fun v3=>yc [] (eqSS [c] [92] (f 0) (v3.a 1) false) fun v4=>yd 2 [] [0,1,2,3] [4,5,6,7,8,9,10,11] (inS w x L fi bm (frT w k0 k1 k2 k3 x.self fi [c] (f 0) (.str (S [c]) (f 0))) st (lnF c ln) (v1.a 2) l (fun j=>f (j+1)) (v1.a 3) ps ep tk' l' ln') fun v5=>.nil) (fun n t=>xd (nextC_ok (by omega) (by rw [chs_length]; omega) hc rfl) fun _=>xd (aA (hw ▸ wsB_has c (abc_lt hc))) fun _=>xc (aG h34) fun _=>xc (aG h92) fun _=>xd (H _ _ _ _ _ _) fun _=>trivial) 78 [10,0,2,2,2,2,14,0,0,0,14,0,0,0,14,14,0,4,2,1,0,0,2,1,0,0,2,2,0,2,2,2,10,10,1,0,0,10,10] (fun n t ω=>((fun v5=>nu [(v5.a 0),(v5.a 1),v5.a 2,v5.a 3,v5.a 4] [(v5.2 0)] [] ((fun j=>v5.a (j+5)))) (ω 85).v))
theorem out_ws0 (hD:d≤500) (hc:c∈abc) (hw:wsB c=true) (hl:l.length<1000)
    (H:∀ k3 lt ec f ch,Ok w d (outS w x L fi bm (frT w k0 k1 k2 k3 x.self fi [] tt ch) st (lnF c ln) lt l f ec ps ep tk' l' ln')) :
    Ok w d (outS w x L fi bm (frT0 w k0 k1 k2 x.self fi tt) st ln lt (c::l) f ec ps ep tk' l' ln'):=by
  refine yt (fun n t=>yd 0 [] [1,2,3] [4,5,6,7,8,9,10,11] (nextC w x fi bm st ln lt c (f 0) (chs l fun j=>f (j+1)) ec ps ep (lnF c ln)) fun v1=>yd 1 [] [] [] (bd [10,9,13,32] [c] x.kd (f 0) true) fun v2=>.nil) (fun n t=>xd (nextC_ok (by omega) (by rw [chs_length]; omega) hc rfl) fun _=>xd (aA (hw ▸ wsB_has c (abc_lt hc))) fun _=>trivial) (fun n t ω=>((fun v1=>(it5 0 [] [0,1,2,3] [4,5,6,7,8,9,10,11] (outS w x L fi bm (frT w k0 k1 k2 (v1.a 1) x.self fi [] tt (.str (S [c]) (f 0))) st (lnF c ln) (v1.a 2) l (fun j=>f (j+1)) (v1.a 3) ps ep tk' l' ln'))) (ω 0).v)) (fun n t ω=>H _ _ _ _ _) 35 [10,0,2,2,2,2,14,0,0,0,14,0,0,0,14,14,0,4]
theorem out_ord0 (hD:d≤440) (hc:c∈abc) (hw:wsB c=false) (h34:([c]==[34])=false) (h92:([c]==[92])=false) (hl:l.length<1000)
    (H:∀ k3 lt ec f tt ch,Ok w (d+60) (inS w x L fi bm (frT w k0 k1 k2 k3 x.self fi [c] tt ch) st (lnF c ln) lt l f ec ps ep tk' l' ln')) :
    Ok w d (outS w x L fi bm (frT0 w k0 k1 k2 x.self fi tt) st ln lt (c::l) f ec ps ep tk' l' ln'):=by
  refine yv (fun n t=>yd 0 [] [1,2,3] [4,5,6,7,8,9,10,11] (nextC w x fi bm st ln lt c (f 0) (chs l fun j=>f (j+1)) ec ps ep (lnF c ln)) fun v1=>yd 1 [] [] [] (bd [10,9,13,32] [c] x.kd (f 0) false) fun v2=>yc [] (eqSS [c] [34] (f 0) (v2.a 1) false) fun v3=>yc [] (eqSS [c] [92] (f 0) (v3.a 1) false) fun v4=>yd 2 [] [0,1,2,3] [4,5,6,7,8,9,10,11] (inS w x L fi bm (frT w k0 k1 k2 (v1.a 1) x.self fi [c] (f 0) (.str (S [c]) (f 0))) st (lnF c ln) (v1.a 2) l (fun j=>f (j+1)) (v1.a 3) ps ep tk' l' ln') fun v5=>.nil) (fun n t=>xd (nextC_ok (by omega) (by rw [chs_length]; omega) hc rfl) fun _=>xd (aA (hw ▸ wsB_has c (abc_lt hc))) fun _=>xc (aG h34) fun _=>xc (aG h92) fun _=>xd (H _ _ _ _ _ _) fun _=>trivial) 78 [10,0,2,2,2,2,14,0,0,0,14,0,0,0,14,14,0,4,2,1,0,0,2,1,0,0,2,2,0,2,2,2,10,10,1,0,0,10,10] (fun n t ω=>((fun v5=>nu [(v5.a 0),(v5.a 1),v5.a 2,v5.a 3,v5.a 4] [(v5.2 0)] [] ((fun j=>v5.a (j+5)))) (ω 85).v))
theorem out_loop (hD:d≤440):∀ (n:Nat) (l:List Nat) (ln:Int) (k3 lt ec:Nat) (f:Nat→Nat) (ch:Value),tokF n l ln=some (tk',l',ln')→(∀ c∈l,c∈abc)→l.length<800 →
    Ok w d (outS w x L fi bm (frT w k0 k1 k2 k3 x.self fi [] tt ch) st ln lt l f ec ps ep tk' l' ln')
  | 0,_,_,_,_,_,_,_,h,_,_=>nomatch h
  | n+1,[],_,_,_,_,_,_,h,_,_=>nomatch h
  | n+1,c::l,ln,k3,lt,ec,f,ch,h,ha,hl=>by
    rw [List.length_cons] at hl
    have hc:=ha c (.head _)
    have ha':∀ c∈l,c∈abc:=fun c h=>ha c (.tail _ h)
    unfold tokF at h
    cases hw:wsB c with
    | true=>
      rw [if_pos hw] at h
      exact out_ws (by omega) hc hw (by omega) fun lt ec f ch=>out_loop hD n l _ _ lt ec f ch h ha' (by omega)
    | false=>
      rw [if_neg (by rw [hw]; decide)] at h
      split at h
      · cases h
      · rename_i hh
        have e10:lnF c ln=ln:=by
          unfold lnF
          rw [if_neg]
          rintro rfl
          cases hw
        refine out_ord hD hc hw (by simp; omega) (by simp; omega) (by omega) fun k3 lt ec f tt ch=>?_
        rw [e10]
        exact in_ok (by omega) n l [c] ln lt ec f tt ch h ha' (by simp) (by simp; omega)
theorem out_ok (hD:d≤440) {n:Nat} (h:tokF n l ln=some (tk',l',ln')) (ha:∀ c∈l,c∈abc) (hl:l.length<800) :
    Ok w d (outS w x L fi bm (frT0 w k0 k1 k2 x.self fi tt) st ln lt l f ec ps ep tk' l' ln'):=by
  cases n with
  | zero=>cases h
  | succ n=>
    cases l with
    | nil=>cases h
    | cons c l=>
      rw [List.length_cons] at hl
      have hc:=ha c (.head _)
      have ha':∀ c∈l,c∈abc:=fun c h=>ha c (.tail _ h)
      unfold tokF at h
      cases hw:wsB c with
      | true=>
        rw [if_pos hw] at h
        exact out_ws0 (by omega) hc hw (by omega) fun k3 lt ec f ch=>out_loop hD n l _ k3 lt ec f ch h ha' (by omega)
      | false=>
        rw [if_neg (by rw [hw]; decide)] at h
        split at h
        · cases h
        · rename_i hh
          have e10:lnF c ln=ln:=by
            unfold lnF
            rw [if_neg]
            rintro rfl
            cases hw
          refine out_ord0 hD hc hw (by simp; omega) (by simp; omega) (by omega) fun k3 lt ec f tt ch=>?_
          rw [e10]
          exact in_ok (by omega) n l [c] ln lt ec f tt ch h ha' (by simp) (by simp; omega)
noncomputable def tokS (w:World) (x:Lx) (ln:Int) (lt:Tok) (l:List Nat) (f:Nat→Nat) (ec:Nat) (ep:Nat) (tk' l':List Nat) (ln':Int):Sm where
  c:=.call (.ref 80) ⟨[.ref x.self],[]⟩
  mpre:=x.mut w ln lt (chs l f) ec [] ep
  rpre:=x.fix w
  post v:=x.mut w ln' (v.a 2) (chs l' fun j=>v.a (j+5)) (v.a 3) [] ep
  news v:=[]
  res v:=.ok (.ret (.str (S tk') (v.a 4)))
theorem aL (hD:d≤380) {n:Nat} (h:tokF n l ln=some (tk',l',ln')) (ha:∀ c∈l,c∈abc) (hl:l.length<800):Ok w d (tokS w x ln lt l f ec ep tk' l' ln'):=by
  refine yv (fun n t=>yd 7 [0,1,2] [9,0,1,2] [11,10,3,4,5,6,7,8] (outS w x n (n+2) (n+1) (frT0 w t (t+5) (t+8) x.self (n+2) (t+4)) (t+7) ln lt l f ec [] ep tk' l' ln') fun v1=>.nil) (fun n t=>xd (out_ok (by omega) h ha hl) fun _=>trivial) 116 [0,0,0,1,1,1,1,8,0,0,0,8,0,0,0,8,8,0,2,6,6,6,6,6,0,1,1,0,0,1,8,0,0,0,8,0,0,0,0,0,0,8,8,0,2,0,0,0,0,3,0,1,1,1,5,5,1,0,0,5,5] (fun n t ω=>((fun v1=>nu [(v1.a 0),(v1.a 1),v1.a 2,v1.a 3,v1.a 4] [] [] ((fun j=>v1.a (j+5)))) (ω 3).v))
noncomputable def sentK (fi:Addr) (r:Value) (b:Bool):Sem Fin:=if (!b)=true then PySem.W.Fast.tw6905046200447255374 r else
  PySem.W.R.bindR (rule PySem.W.SL.s986709197705307712x35) fun _=>PySem.W.R.bindR (PySem.W.Fast.tw7774638238746244234 (.ref fi)) fun _=>PySem.W.Fast.tw17615448654315672387
noncomputable def sent0 (fi:Addr) (u v:Tok):Sem Fin:=PySem.W.R.bindR (PySem.W.Fast.tw17359229931016689406 [.str (S []) v] (PySem.W.Fast.tw13926502685295537346 (.str (S []) u) (.str (S []) v))) (sentK fi (.str (S []) v))
theorem sent_ok {fi:Addr} {u v:Tok}:∀ V:VS,SwapOk V (sent0 fi u v) (sentK fi (.str (S []) v) true):=fun V=>by
  unfold sent0
  rw [← PySem.W.R.bindR_eq]
  exact swap_bind fun prog w A Q E s h=>by
    rw [← PySem.W.Fast.te17359229931016689406,← PySem.W.Fast.te13926502685295537346]
    exact wpAny_holding (eqBool_str (by simpa using h))
noncomputable def tokE (w:World) (x:Lx) (ln:Int) (lt:Tok) (f:Nat→Nat) (ec:Nat) (ep:Nat):Sm where
  c:=.call (.ref 80) ⟨[.ref x.self],[]⟩
  mpre:=x.mut w ln lt (chs [10] f) ec [] ep
  rpre:=x.fix w
  post v:=x.mut w (ln+1) (v.a 2) [] (v.a 3) [] ep
  news v:=[]
  res v:=.ok (.ret (.str (S []) (v.a 4)))
theorem tokE_ok (hD:d≤500):Ok w d (tokE w x ln lt f ec ep):=by
  refine yv (fun n t=>yd 8 [0,1,2] [0,1,2] [11,10,3,4,5,6,7,8] (nextC w x (n+2) (n+1) (t+7) ln lt 10 (f 0) [] ec [] ep (ln+1)) fun v1=>yd 3 [] [] [10,0,1,2,3,4,5,6,7,8] (readM0 w x (n+1) (ln+1) (v1.a 2) (v1.a 3) [] ep) fun v2=>.swap  (sent0 (n+2) (t+7) (v2.a 2)) (sentK (n+2) (.str (S []) (v2.a 2)) true) <| .nil) (fun n t=>xd (nextC_ok (by omega) (by simp) (by decide) rfl) fun _=>xd (readM0_ok (by omega)) fun _=>⟨sent_ok,trivial⟩) 186 [0,0,0,1,1,1,1,8,0,0,0,8,0,0,0,8,8,0,2,6,6,6,6,6,0,1,1,0,0,1,8,0,0,0,8,0,0,0,0,0,0,8,8,0,2,0,0,0,0,3,0,1,1,1,5,5,1,0,0,5,5,5,0,20,20,20,20,8,0,0,0,8,0,0,0,8,8,0,2,24,24,24,24,22,0,24,999,24,24,22,0,24,24,24,24,24,24,3,20] (fun n t ω=>((fun v1 v2=>nu [(v2.a 0+2),(v2.a 1),v1.a 2,v1.a 3,t+4] [] []) (ω 3).v (ω 7).v))
noncomputable def tokP (w:World) (x:Lx) (ln:Int) (lt:Tok) (p:Str) (tp:Tok) (ps:List Value) (ep:Nat):Sm where
  c:=.call (.ref 80) ⟨[.ref x.self],[]⟩
  mpre:=[(x.pb,lst ⟨.str p tp::ps⟩ ep)]
  rpre:=[(x.dct,x.dict w ln lt),(x.self,⟨.ref 90,some x.dct,.plain,#[]⟩)]
  post v:=[(x.pb,lst ⟨ps⟩ (v.a 2))]
  news v:=[]
  res v:=.ok (.ret (.str p tp))
theorem tokP_ok {p:Str} {tp:Tok} (hD:d≤500) (hl:ps.length<1000):Ok w d (tokP w x ln lt p tp ps ep):=by
  refine yv (fun n t=>yd 1 [0] [] [0] (lenS x.pb (.str p tp::ps) ep) fun v1=>yd 1 [] [0] [] (popS x.pb (.str p tp) ps ep (v1.a 1+1)) fun v2=>.nil) (fun n t=>xd (lenS_ok (by simp; omega)) fun _=>xd (popS_ok (by omega)) fun _=>trivial) 64 [0,0,0,1,1,1,1,6,0,0,0,6,0,0,0,6,6,0,4,2,2,8,6,0,0,0,6,0,0,0,6,6,0,4,2,2,2,2] (fun n t ω=>((fun v2=>nu [(v2.a 0),(v2.a 1),ep+1] [] []) (ω 1).v))
noncomputable def pushS (w:World) (x:Lx) (ln:Int) (lt:Tok) (p:Str) (tp:Tok) (ps:List Value) (ep:Nat):Sm where
  c:=.call (.ref 87) ⟨[.ref x.self,.str p tp],[]⟩
  mpre:=[(x.pb,lst ⟨ps⟩ ep)]
  rpre:=[(x.dct,x.dict w ln lt),(x.self,⟨.ref 90,some x.dct,.plain,#[]⟩)]
  post v:=[(x.pb,lst ⟨ps++[.str p tp]⟩ (v.a 2))]
  news v:=[]
  res v:=.ok (.ret .none)
theorem pushS_ok {p:Str} {tp:Tok} (hD:d≤500) (hl:ps.length<1000):Ok w d (pushS w x ln lt p tp ps ep):=by
  refine yv (fun n t=>yd 1 [0] [0] [] (appS x.pb ps ep (.str p tp)) fun v1=>.nil) (fun n t=>xd (appS_ok (by omega)) fun _=>trivial) 45 [0,0,0,1,1,0,1,1,1,1,6,0,0,0,6,0,0,0,6,6,0,4,2,2,2,2,1] (fun n t ω=>((fun v1=>nu [(v1.a 0),(v1.a 1),ep+1] [] []) (ω 0).v))
end
structure V4 (α:Type) where
  a:α
  b:α
  c:α
  d:α
noncomputable def V4.at {α:Type} (v:V4 α) (i:Int):α:=sel4 v.a v.b v.c v.d i
noncomputable def V4.put {α:Type} (v:V4 α) (i:Int) (x:α):V4 α:=⟨putI i 0 x v.a,putI i 1 x v.b,putI i 2 x v.c,putI i 3 x v.d⟩
noncomputable abbrev vi4 (v:V4 Int) (u:V4 Tok):List Value:=[.int v.a u.a,.int v.b u.b,.int v.c u.c,.int v.d u.d]
theorem vi4_get {v:V4 Int} {u:V4 Tok} {i:Int} (h0:0≤i) (h:i<4):(vi4 v u)[i.toNat]?=some (.int (v.at i) (u.at i)):=by
  rcases four h0 h with rfl | rfl | rfl | rfl <;> rfl
theorem vi4_set {v:V4 Int} {u:V4 Tok} {i x:Int} {t:Tok} (h0:0≤i) (h:i<4):(vi4 v u).set i.toNat (.int x t)=vi4 (v.put i x) (u.put i t):=by
  rcases four h0 h with rfl | rfl | rfl | rfl <;> rfl
theorem set4_ok {w:World} {d:Nat} {l:Addr} {e:Nat} {v:V4 Int} {u:V4 Tok} {i x:Int} {t t':Tok} (hD:d≤780) (h0:0≤i) (h:i<4):Ok w d (setS l (vi4 v u) e i t' (.int x t) (vi4 (v.put i x) (u.put i t))):=by
  rw [← vi4_set h0 h]
  exact setS_ok hD h0 (by show i.toNat<4; omega)
section
variable {w:World} {d:Nat} {lw mm rl it L:Addr} {r:R4} {N:V4 (List Value)} {es:V4 Nat} {P:V6 Int} {u:V6 Tok} {e:Nat} {k0 k1 k2 k3 k4:Tok} {z1:Value} {m:V4 Int} {tm:V4 Tok} {rs rs2:List Value} {er:Nat} {k:Int}
end
noncomputable def whC (st:Stmt) (env:Env):Code:=match st with
  | .While t b o _=>.whileLoop t b o env
  | _=>.func [] env
noncomputable def whB:Stmt→List Stmt
  | .While _ b _ _=>b
  | _=>[]
noncomputable abbrev rndE (L cd cx:Addr):Env:=envF 20 147 146 (S [95,108,97,119,95,114,111,117,110,100,115,46,60,108,111,99,97,108,115,62,46]) L [(S [120],cx),(S [100,101,112,101,110,100,115],cd)]
structure Nm where
  k:Int
  l:List Nat
  t:Tok
noncomputable def Nm.v (q:Nm):Value:=.str (S q.l) q.t
noncomputable def ah:List (Int × Tok)→List Value
  | []=>[]
  | p::l=>.int p.1 p.2::ah l
noncomputable def ae:List Nm→List Value
  | []=>[]
  | p::l=>.str (S p.l) p.t::ae l
structure Tk where
  a:Tok
  b:Tok
  c:Tok
  d:Tok
  e:Tok
  f:Tok
  g:Tok
  h:Tok
  i:Tok
noncomputable def frD (w:World) (k:Tk) (rl lxa ro ml tl:Addr) (sg:List Nat) (ts:Tok) (W:Int) (wt:Tok) (nm kv:Value):Obj:=
  frm #[en w.params (S [114,111,119]) k.a (.ref rl),en w.params (S [115,105,103,110,115]) k.b (.str (S sg) ts),en w.params (S [108,101,120,101,114]) k.c (.ref lxa),en w.params (S [110,97,109,101]) k.d nm,en w.params (S [119,97,105,116,115]) k.e (.int W wt),en w.params (S [114,111,117,110,100,115]) k.f (.ref ro),
    en w.params (S [109,101,116]) k.g (.ref ml),en w.params (S [116,97,107,101,110]) k.h (.ref tl),en w.params (S [107]) k.i kv] 9
noncomputable def frD8 (w:World) (k:Tk) (rl lxa ro ml tl:Addr) (sg:List Nat) (ts:Tok) (W:Int) (wt:Tok) (nm:Value):Obj:=
  frm #[en w.params (S [114,111,119]) k.a (.ref rl),en w.params (S [115,105,103,110,115]) k.b (.str (S sg) ts),en w.params (S [108,101,120,101,114]) k.c (.ref lxa),en w.params (S [110,97,109,101]) k.d nm,en w.params (S [119,97,105,116,115]) k.e (.int W wt),en w.params (S [114,111,117,110,100,115]) k.f (.ref ro),
    en w.params (S [109,101,116]) k.g (.ref ml),en w.params (S [116,97,107,101,110]) k.h (.ref tl)] 8
noncomputable def rangeO (cur rem:Int):Obj:=⟨.type "range_iterator",none,.fields #[.int cur 0,.int rem 0,.int 1 0],#[]⟩
noncomputable def aB (v:Option Value):Obj:=⟨.type "cell",none,.cell v,#[]⟩
noncomputable def inR (w:World) (x:Lx) (L it cd cx rl ro ml tl rm:Addr) (k:Tk) (sg:List Nat) (ts:Tok) (W:Int) (wt:Tok) (ln:Int) (lt:Tok) (rows:Led) (fr:Obj) (ps:List Value) (ep:Nat) (ms:List (Int × Tok)) (em:Nat) (tk:List Value) (et:Nat) (cur rem:Int) (cv:Option Value) (ps' tk':List Value):Sm where
  c:=forC (nthS (whB (sto 20 4)) 2) (.ref it) (rndE L cd cx)
  mpre:=[(L,fr),(x.pb,lst ⟨ps⟩ ep),(ml,lst ⟨ah ms⟩ em),(tl,lst ⟨tk⟩ et),(it,rangeO cur rem),(cx,aB cv)]
  rpre:=(cd,aB (some (.ref rm)))::(x.dct,x.dict w ln lt)::(x.self,⟨.ref 90,some x.dct,.plain,#[]⟩)::rows
  post v:=[(L,frD w { k with i:=v.a 4 } rl x.self ro ml tl sg ts W wt (v.x 0) (v.x 1)),(x.pb,lst ⟨ps'⟩ (v.a 2)),(ml,v.o 0),(tl,lst ⟨tk'⟩ (v.a 3)),(it,v.o 1),(cx,aB (some (v.x 2)))]
  news _:=[]
  res _:=.ok .next
noncomputable def ifT:Stmt→Expr
  | .If t _ _ _=>t
  | _=>.Constant .none 0 ⟨0,0,0,0⟩
noncomputable def cmpL:Expr→Expr
  | .Compare l _ _ _=>l
  | e=>e
noncomputable def rndC:Expr:=cmpL (ifT (nthS (forBody (nthS (whB (sto 20 4)) 2)) 2))
noncomputable def cmE (dct L cd cx:Addr):Env:=⟨{ kind:=.function,names:=[(S [46,48],.local),(S [121],.local),(S [100,101,112,101,110,100,115],.cell),(S [120],.cell)],isGenerator:=false,isCoroutine:=false },dct,3,[(S [120],cx),(S [100,101,112,101,110,100,115],cd)],S [95,108,97,119,95,114,111,117,110,100,115,46,60,108,111,99,97,108,115,62,46],none,.ref 146,some L,0⟩
noncomputable def aV:Obj:=⟨.type "dict",none,.dict #[] 0,#[]⟩
noncomputable def aM (w:World) (ky:Tok) (zy:Value):Obj:=⟨.type "dict",none,.dict #[en w.params (S [121]) ky zy] 1,#[]⟩
noncomputable def a7 (w:World) (v:Nv):Obj:=aM w (v.a 3) (v.x 0)
noncomputable def cmS (ml it acc dct cd cx L rm:Addr) (rows:Led) (X:Int) (tx:Tok) (ms:List (Int × Tok)) (em:Nat) (j:Int) (out:List Value) (eo:Nat) (dk:Obj) (dkf:Nv→Obj) (out':List Value):Sm where
  c:=.compLoop rndC 0 (.ref it) (.ref acc) (cmE dct L cd cx)
  mpre:=[(it,lit ml j),(acc,lst ⟨out⟩ eo),(dct,dk)]
  rpre:=(ml,lst ⟨ah ms⟩ em)::(cx,aB (some (.int X tx)))::(cd,aB (some (.ref rm)))::rows
  post v:=[(it,v.o 0),(acc,lst ⟨out'⟩ (v.a 2)),(dct,dkf v)]
  news _:=[]
  res _:=.ok .next
noncomputable def rngS (it:Addr) (cur rem:Int):Sm where
  c:=bi "range_iterator.__next__" [.ref it]
  mpre:=[(it,rangeO cur rem)]
  rpre:=[]
  post _:=[(it,rangeO (cur+1) (rem-1))]
  news _:=[]
  res v:=.ok (.ret (.int cur (v.a 2)))
noncomputable def indexKS (x y:List Nat) (t u:Tok) (i:Int):Sm:=pureS (bi "str.index" [.str (S x) t,.str (S y) u]) fun v=>.ok (.ret (.int i (v.a 2)))
theorem aU {w:World} {D:Nat} {x y:List Nat} {t u:Tok} {i:Int} {rest:List Nat} (h0:0≤i) (h:Builtin.Str.occurrences (S x) (S y) 0 (S x).length 1=i.toNat::rest):Ok w D (indexKS x y t u i):=by
  have z:=indexSS_ok (w:=w) (D:=D) (t:=t) (u:=u) h
  unfold indexSS at z
  rw [Int.toNat_of_nonneg h0] at z
  exact z
structure aR (sg:List Nat) (s4:V4 Nat):Prop where
  len:sg=[s4.a,s4.b,s4.c,s4.d]
  idx:∀ i:Int,0≤i→i<4→∃ rest,Builtin.Str.occurrences (S sg) (S [s4.at i]) 0 (S sg).length 1=i.toNat::rest
noncomputable def Nm.good (s4:V4 Nat) (q:Nm):Prop:=(0≤q.k∧q.k<4)∧0<q.l.length∧q.l.length<900∧q.l[q.l.length-1]?=some (s4.at q.k)
theorem last_idx {l:List Nat} {c:Nat} (h0:0<l.length) (h1:l.length<900) (h:l[l.length-1]?=some c):(seqIndex? (-1) l.length).bind (l[·]?)=some c:=by
  have:seqIndex? (-1) l.length=some (l.length-1):=by
    unfold seqIndex?
    simp only [show (-1:Int)<0 from by decide,if_true]
    rw [if_pos (by simp; omega)]
    congr 1
    omega
  rw [this]
  exact h
section
variable {s4:V4 Nat} {w:World} {d:Nat} {x:Lx} {L it cd cx rl ro ml tl:Addr} {r:R4} {D:Dp} {k:Tk} {sg:List Nat} {ts:Tok} {W:Int} {wt:Tok} {ln:Int} {lt:Tok} {rows:Led} {ps:List Value} {ep:Nat} {ms:List (Int × Tok)} {em:Nat} {tk:List Value} {et:Nat} {cur rem:Int} {cv:Option Value} {ps' tk':List Value} {nm kv:Value} {q:Nm}
theorem aP (hD:d≤780) (h:0<rem) (h':rem≤6):Ok w d (rngS it cur rem):=by
  obtain rfl | rfl | rfl | rfl | rfl | rfl:rem=1 ∨ rem=2 ∨ rem=3 ∨ rem=4 ∨ rem=5 ∨ rem=6:=by omega
  · refine yv (fun n t=>.nil) (fun n t=>trivial) 10 [2,2,2,2,2,2,2,2] (fun n t ω=>nu [n,(t+1),t] [] [])
  · refine yv (fun n t=>.nil) (fun n t=>trivial) 10 [2,2,2,2,2,2,2,2] (fun n t ω=>nu [n,(t+1),t] [] [])
  · refine yv (fun n t=>.nil) (fun n t=>trivial) 10 [2,2,2,2,2,2,2,2] (fun n t ω=>nu [n,(t+1),t] [] [])
  · refine yv (fun n t=>.nil) (fun n t=>trivial) 10 [2,2,2,2,2,2,2,2] (fun n t ω=>nu [n,(t+1),t] [] [])
  · refine yv (fun n t=>.nil) (fun n t=>trivial) 10 [2,2,2,2,2,2,2,2] (fun n t ω=>nu [n,(t+1),t] [] [])
  · refine yv (fun n t=>.nil) (fun n t=>trivial) 10 [2,2,2,2,2,2,2,2] (fun n t ω=>nu [n,(t+1),t] [] [])
theorem cm_t0_0 (hD:d≤700) {j:Int} {out':List Value} {eo:Nat} {acc dct:Addr} {tx:Tok} {X y:Int} {ty:Tok} (h0:0≤j) (hl:(ah ms).length≤6) (hg:(ah ms)[j.toNat]?=some (.int y ty)) (hX:0≤X∧X<4) (hy:0≤y∧y<4) (hb:D.m X y=true)
    (H:∀ eo ky zy,Ok w d (cmS ml it acc dct cd cx L r.m (ak r D X) X tx ms em (j+1) [.int y ty] eo (aM w ky zy) (a7 w) out')):Ok w d (cmS ml it acc dct cd cx L r.m (ak r D X) X tx ms em j [] eo aV (a7 w) out'):=by
  refine yt (fun n t=>yd 0 [] [0] [3] (aK it ml j (ah ms) em (.int y ty)) fun v1=>yc [6] (ag r.m r.rows 4 X tx (.ref (r.at X))) fun v2=>yc [7] (ag (r.at X) (D.rowL X) 4 y ty (.bool true)) fun v3=>.nil) (fun n t=>xd (aj (by omega) h0 hg hl) fun _=>xc (ab (by omega) hX.1 (am hX.1 hX.2)) fun _=>xc (ab (by omega) hy.1 (ap hy hb)) fun _=>trivial) (fun n t ω=>(it5 0 [] [0,1,2] [3,4,5,6,7,8,9,10] (cmS ml it acc dct cd cx L r.m (ak r D X) X tx ms em (j+1) [.int y ty] (eo+1) (aM w ((ω 0).v.a 1) (.int y ty)) (a7 w) out'))) (fun n t ω=>H _ _ _) 38 [2,0,6,6,12,10,14,14,14,6,16,16,16,6,4,4,4,4]
theorem cm_t0_1 (hD:d≤700) {j:Int} {a0:Value} {out':List Value} {eo:Nat} {acc dct:Addr} {tx:Tok} {X y:Int} {ty:Tok} (h0:0≤j) (hl:(ah ms).length≤6) (hg:(ah ms)[j.toNat]?=some (.int y ty)) (hX:0≤X∧X<4) (hy:0≤y∧y<4) (hb:D.m X y=true)
    (H:∀ eo ky zy,Ok w d (cmS ml it acc dct cd cx L r.m (ak r D X) X tx ms em (j+1) [a0,.int y ty] eo (aM w ky zy) (a7 w) out')):Ok w d (cmS ml it acc dct cd cx L r.m (ak r D X) X tx ms em j [a0] eo aV (a7 w) out'):=by
  refine yt (fun n t=>yd 0 [] [0] [3] (aK it ml j (ah ms) em (.int y ty)) fun v1=>yc [6] (ag r.m r.rows 4 X tx (.ref (r.at X))) fun v2=>yc [7] (ag (r.at X) (D.rowL X) 4 y ty (.bool true)) fun v3=>.nil) (fun n t=>xd (aj (by omega) h0 hg hl) fun _=>xc (ab (by omega) hX.1 (am hX.1 hX.2)) fun _=>xc (ab (by omega) hy.1 (ap hy hb)) fun _=>trivial) (fun n t ω=>(it5 0 [] [0,1,2] [3,4,5,6,7,8,9,10] (cmS ml it acc dct cd cx L r.m (ak r D X) X tx ms em (j+1) [a0,.int y ty] (eo+1) (aM w ((ω 0).v.a 1) (.int y ty)) (a7 w) out'))) (fun n t ω=>H _ _ _) 38 [2,0,6,6,12,10,14,14,14,6,16,16,16,6,4,4,4,4]
theorem cm_t0_2 (hD:d≤700) {j:Int} {a0 a1:Value} {out':List Value} {eo:Nat} {acc dct:Addr} {tx:Tok} {X y:Int} {ty:Tok} (h0:0≤j) (hl:(ah ms).length≤6) (hg:(ah ms)[j.toNat]?=some (.int y ty)) (hX:0≤X∧X<4) (hy:0≤y∧y<4) (hb:D.m X y=true)
    (H:∀ eo ky zy,Ok w d (cmS ml it acc dct cd cx L r.m (ak r D X) X tx ms em (j+1) [a0,a1,.int y ty] eo (aM w ky zy) (a7 w) out')):Ok w d (cmS ml it acc dct cd cx L r.m (ak r D X) X tx ms em j [a0,a1] eo aV (a7 w) out'):=by
  refine yt (fun n t=>yd 0 [] [0] [3] (aK it ml j (ah ms) em (.int y ty)) fun v1=>yc [6] (ag r.m r.rows 4 X tx (.ref (r.at X))) fun v2=>yc [7] (ag (r.at X) (D.rowL X) 4 y ty (.bool true)) fun v3=>.nil) (fun n t=>xd (aj (by omega) h0 hg hl) fun _=>xc (ab (by omega) hX.1 (am hX.1 hX.2)) fun _=>xc (ab (by omega) hy.1 (ap hy hb)) fun _=>trivial) (fun n t ω=>(it5 0 [] [0,1,2] [3,4,5,6,7,8,9,10] (cmS ml it acc dct cd cx L r.m (ak r D X) X tx ms em (j+1) [a0,a1,.int y ty] (eo+1) (aM w ((ω 0).v.a 1) (.int y ty)) (a7 w) out'))) (fun n t ω=>H _ _ _) 38 [2,0,6,6,12,10,14,14,14,6,16,16,16,6,4,4,4,4]
theorem cm_t0_3 (hD:d≤700) {j:Int} {a0 a1 a2:Value} {out':List Value} {eo:Nat} {acc dct:Addr} {tx:Tok} {X y:Int} {ty:Tok} (h0:0≤j) (hl:(ah ms).length≤6) (hg:(ah ms)[j.toNat]?=some (.int y ty)) (hX:0≤X∧X<4) (hy:0≤y∧y<4) (hb:D.m X y=true)
    (H:∀ eo ky zy,Ok w d (cmS ml it acc dct cd cx L r.m (ak r D X) X tx ms em (j+1) [a0,a1,a2,.int y ty] eo (aM w ky zy) (a7 w) out')):Ok w d (cmS ml it acc dct cd cx L r.m (ak r D X) X tx ms em j [a0,a1,a2] eo aV (a7 w) out'):=by
  refine yt (fun n t=>yd 0 [] [0] [3] (aK it ml j (ah ms) em (.int y ty)) fun v1=>yc [6] (ag r.m r.rows 4 X tx (.ref (r.at X))) fun v2=>yc [7] (ag (r.at X) (D.rowL X) 4 y ty (.bool true)) fun v3=>.nil) (fun n t=>xd (aj (by omega) h0 hg hl) fun _=>xc (ab (by omega) hX.1 (am hX.1 hX.2)) fun _=>xc (ab (by omega) hy.1 (ap hy hb)) fun _=>trivial) (fun n t ω=>(it5 0 [] [0,1,2] [3,4,5,6,7,8,9,10] (cmS ml it acc dct cd cx L r.m (ak r D X) X tx ms em (j+1) [a0,a1,a2,.int y ty] (eo+1) (aM w ((ω 0).v.a 1) (.int y ty)) (a7 w) out'))) (fun n t ω=>H _ _ _) 38 [2,0,6,6,12,10,14,14,14,6,16,16,16,6,4,4,4,4]
theorem cm_t0_4 (hD:d≤700) {j:Int} {a0 a1 a2 a3:Value} {out':List Value} {eo:Nat} {acc dct:Addr} {tx:Tok} {X y:Int} {ty:Tok} (h0:0≤j) (hl:(ah ms).length≤6) (hg:(ah ms)[j.toNat]?=some (.int y ty)) (hX:0≤X∧X<4) (hy:0≤y∧y<4) (hb:D.m X y=true)
    (H:∀ eo ky zy,Ok w d (cmS ml it acc dct cd cx L r.m (ak r D X) X tx ms em (j+1) [a0,a1,a2,a3,.int y ty] eo (aM w ky zy) (a7 w) out')):Ok w d (cmS ml it acc dct cd cx L r.m (ak r D X) X tx ms em j [a0,a1,a2,a3] eo aV (a7 w) out'):=by
  refine yt (fun n t=>yd 0 [] [0] [3] (aK it ml j (ah ms) em (.int y ty)) fun v1=>yc [6] (ag r.m r.rows 4 X tx (.ref (r.at X))) fun v2=>yc [7] (ag (r.at X) (D.rowL X) 4 y ty (.bool true)) fun v3=>.nil) (fun n t=>xd (aj (by omega) h0 hg hl) fun _=>xc (ab (by omega) hX.1 (am hX.1 hX.2)) fun _=>xc (ab (by omega) hy.1 (ap hy hb)) fun _=>trivial) (fun n t ω=>(it5 0 [] [0,1,2] [3,4,5,6,7,8,9,10] (cmS ml it acc dct cd cx L r.m (ak r D X) X tx ms em (j+1) [a0,a1,a2,a3,.int y ty] (eo+1) (aM w ((ω 0).v.a 1) (.int y ty)) (a7 w) out'))) (fun n t ω=>H _ _ _) 38 [2,0,6,6,12,10,14,14,14,6,16,16,16,6,4,4,4,4]
theorem cm_t0_5 (hD:d≤700) {j:Int} {a0 a1 a2 a3 a4:Value} {out':List Value} {eo:Nat} {acc dct:Addr} {tx:Tok} {X y:Int} {ty:Tok} (h0:0≤j) (hl:(ah ms).length≤6) (hg:(ah ms)[j.toNat]?=some (.int y ty)) (hX:0≤X∧X<4) (hy:0≤y∧y<4) (hb:D.m X y=true)
    (H:∀ eo ky zy,Ok w d (cmS ml it acc dct cd cx L r.m (ak r D X) X tx ms em (j+1) [a0,a1,a2,a3,a4,.int y ty] eo (aM w ky zy) (a7 w) out')):Ok w d (cmS ml it acc dct cd cx L r.m (ak r D X) X tx ms em j [a0,a1,a2,a3,a4] eo aV (a7 w) out'):=by
  refine yt (fun n t=>yd 0 [] [0] [3] (aK it ml j (ah ms) em (.int y ty)) fun v1=>yc [6] (ag r.m r.rows 4 X tx (.ref (r.at X))) fun v2=>yc [7] (ag (r.at X) (D.rowL X) 4 y ty (.bool true)) fun v3=>.nil) (fun n t=>xd (aj (by omega) h0 hg hl) fun _=>xc (ab (by omega) hX.1 (am hX.1 hX.2)) fun _=>xc (ab (by omega) hy.1 (ap hy hb)) fun _=>trivial) (fun n t ω=>(it5 0 [] [0,1,2] [3,4,5,6,7,8,9,10] (cmS ml it acc dct cd cx L r.m (ak r D X) X tx ms em (j+1) [a0,a1,a2,a3,a4,.int y ty] (eo+1) (aM w ((ω 0).v.a 1) (.int y ty)) (a7 w) out'))) (fun n t ω=>H _ _ _) 38 [2,0,6,6,12,10,14,14,14,6,16,16,16,6,4,4,4,4]
theorem cm_f0_0 (hD:d≤700) {j:Int} {out out':List Value} {eo:Nat} {acc dct:Addr} {tx:Tok} {X y:Int} {ty:Tok} (h0:0≤j) (hl:(ah ms).length≤6) (hg:(ah ms)[j.toNat]?=some (.int y ty)) (hX:0≤X∧X<4) (hy:0≤y∧y<4) (hb:D.m X y=false)
    (H:∀ eo ky zy,Ok w d (cmS ml it acc dct cd cx L r.m (ak r D X) X tx ms em (j+1) out eo (aM w ky zy) (a7 w) out')):Ok w d (cmS ml it acc dct cd cx L r.m (ak r D X) X tx ms em j out eo aV (a7 w) out'):=by
  refine yt (fun n t=>yd 0 [] [0] [3] (aK it ml j (ah ms) em (.int y ty)) fun v1=>yc [6] (ag r.m r.rows 4 X tx (.ref (r.at X))) fun v2=>yc [7] (ag (r.at X) (D.rowL X) 4 y ty (.bool false)) fun v3=>.nil) (fun n t=>xd (aj (by omega) h0 hg hl) fun _=>xc (ab (by omega) hX.1 (am hX.1 hX.2)) fun _=>xc (ab (by omega) hy.1 (ap hy hb)) fun _=>trivial) (fun n t ω=>(it5 0 [] [0,1,2] [3,4,5,6,7,8,9,10] (cmS ml it acc dct cd cx L r.m (ak r D X) X tx ms em (j+1) out eo (aM w ((ω 0).v.a 1) (.int y ty)) (a7 w) out'))) (fun n t ω=>H _ _ _) 29 [2,0,6,6,12,10,14,14,14,6,16,16,16]
theorem cm_t_0 (hD:d≤700) {j:Int} {out':List Value} {eo:Nat} {acc dct:Addr} {tx ky:Tok} {zy:Value} {X y:Int} {ty:Tok} (h0:0≤j) (hl:(ah ms).length≤6) (hg:(ah ms)[j.toNat]?=some (.int y ty)) (hX:0≤X∧X<4) (hy:0≤y∧y<4) (hb:D.m X y=true)
    (H:∀ eo ky zy,Ok w d (cmS ml it acc dct cd cx L r.m (ak r D X) X tx ms em (j+1) [.int y ty] eo (aM w ky zy) (a7 w) out')):Ok w d (cmS ml it acc dct cd cx L r.m (ak r D X) X tx ms em j [] eo (aM w ky zy) (a7 w) out'):=by
  refine yt (fun n t=>yd 0 [] [0] [3] (aK it ml j (ah ms) em (.int y ty)) fun v1=>yc [6] (ag r.m r.rows 4 X tx (.ref (r.at X))) fun v2=>yc [7] (ag (r.at X) (D.rowL X) 4 y ty (.bool true)) fun v3=>.nil) (fun n t=>xd (aj (by omega) h0 hg hl) fun _=>xc (ab (by omega) hX.1 (am hX.1 hX.2)) fun _=>xc (ab (by omega) hy.1 (ap hy hb)) fun _=>trivial) (fun n t ω=>(it5 0 [] [0,1,2] [3,4,5,6,7,8,9,10] (cmS ml it acc dct cd cx L r.m (ak r D X) X tx ms em (j+1) [.int y ty] (eo+1) (aM w ky (.int y ty)) (a7 w) out'))) (fun n t ω=>H _ _ _) 38 [2,0,6,6,12,10,14,14,14,6,16,16,16,6,4,4,4,4]
theorem cm_t_1 (hD:d≤700) {j:Int} {a0:Value} {out':List Value} {eo:Nat} {acc dct:Addr} {tx ky:Tok} {zy:Value} {X y:Int} {ty:Tok} (h0:0≤j) (hl:(ah ms).length≤6) (hg:(ah ms)[j.toNat]?=some (.int y ty)) (hX:0≤X∧X<4) (hy:0≤y∧y<4) (hb:D.m X y=true)
    (H:∀ eo ky zy,Ok w d (cmS ml it acc dct cd cx L r.m (ak r D X) X tx ms em (j+1) [a0,.int y ty] eo (aM w ky zy) (a7 w) out')):Ok w d (cmS ml it acc dct cd cx L r.m (ak r D X) X tx ms em j [a0] eo (aM w ky zy) (a7 w) out'):=by
  refine yt (fun n t=>yd 0 [] [0] [3] (aK it ml j (ah ms) em (.int y ty)) fun v1=>yc [6] (ag r.m r.rows 4 X tx (.ref (r.at X))) fun v2=>yc [7] (ag (r.at X) (D.rowL X) 4 y ty (.bool true)) fun v3=>.nil) (fun n t=>xd (aj (by omega) h0 hg hl) fun _=>xc (ab (by omega) hX.1 (am hX.1 hX.2)) fun _=>xc (ab (by omega) hy.1 (ap hy hb)) fun _=>trivial) (fun n t ω=>(it5 0 [] [0,1,2] [3,4,5,6,7,8,9,10] (cmS ml it acc dct cd cx L r.m (ak r D X) X tx ms em (j+1) [a0,.int y ty] (eo+1) (aM w ky (.int y ty)) (a7 w) out'))) (fun n t ω=>H _ _ _) 38 [2,0,6,6,12,10,14,14,14,6,16,16,16,6,4,4,4,4]
theorem cm_t_2 (hD:d≤700) {j:Int} {a0 a1:Value} {out':List Value} {eo:Nat} {acc dct:Addr} {tx ky:Tok} {zy:Value} {X y:Int} {ty:Tok} (h0:0≤j) (hl:(ah ms).length≤6) (hg:(ah ms)[j.toNat]?=some (.int y ty)) (hX:0≤X∧X<4) (hy:0≤y∧y<4) (hb:D.m X y=true)
    (H:∀ eo ky zy,Ok w d (cmS ml it acc dct cd cx L r.m (ak r D X) X tx ms em (j+1) [a0,a1,.int y ty] eo (aM w ky zy) (a7 w) out')):Ok w d (cmS ml it acc dct cd cx L r.m (ak r D X) X tx ms em j [a0,a1] eo (aM w ky zy) (a7 w) out'):=by
  refine yt (fun n t=>yd 0 [] [0] [3] (aK it ml j (ah ms) em (.int y ty)) fun v1=>yc [6] (ag r.m r.rows 4 X tx (.ref (r.at X))) fun v2=>yc [7] (ag (r.at X) (D.rowL X) 4 y ty (.bool true)) fun v3=>.nil) (fun n t=>xd (aj (by omega) h0 hg hl) fun _=>xc (ab (by omega) hX.1 (am hX.1 hX.2)) fun _=>xc (ab (by omega) hy.1 (ap hy hb)) fun _=>trivial) (fun n t ω=>(it5 0 [] [0,1,2] [3,4,5,6,7,8,9,10] (cmS ml it acc dct cd cx L r.m (ak r D X) X tx ms em (j+1) [a0,a1,.int y ty] (eo+1) (aM w ky (.int y ty)) (a7 w) out'))) (fun n t ω=>H _ _ _) 38 [2,0,6,6,12,10,14,14,14,6,16,16,16,6,4,4,4,4]
theorem cm_t_3 (hD:d≤700) {j:Int} {a0 a1 a2:Value} {out':List Value} {eo:Nat} {acc dct:Addr} {tx ky:Tok} {zy:Value} {X y:Int} {ty:Tok} (h0:0≤j) (hl:(ah ms).length≤6) (hg:(ah ms)[j.toNat]?=some (.int y ty)) (hX:0≤X∧X<4) (hy:0≤y∧y<4) (hb:D.m X y=true)
    (H:∀ eo ky zy,Ok w d (cmS ml it acc dct cd cx L r.m (ak r D X) X tx ms em (j+1) [a0,a1,a2,.int y ty] eo (aM w ky zy) (a7 w) out')):Ok w d (cmS ml it acc dct cd cx L r.m (ak r D X) X tx ms em j [a0,a1,a2] eo (aM w ky zy) (a7 w) out'):=by
  refine yt (fun n t=>yd 0 [] [0] [3] (aK it ml j (ah ms) em (.int y ty)) fun v1=>yc [6] (ag r.m r.rows 4 X tx (.ref (r.at X))) fun v2=>yc [7] (ag (r.at X) (D.rowL X) 4 y ty (.bool true)) fun v3=>.nil) (fun n t=>xd (aj (by omega) h0 hg hl) fun _=>xc (ab (by omega) hX.1 (am hX.1 hX.2)) fun _=>xc (ab (by omega) hy.1 (ap hy hb)) fun _=>trivial) (fun n t ω=>(it5 0 [] [0,1,2] [3,4,5,6,7,8,9,10] (cmS ml it acc dct cd cx L r.m (ak r D X) X tx ms em (j+1) [a0,a1,a2,.int y ty] (eo+1) (aM w ky (.int y ty)) (a7 w) out'))) (fun n t ω=>H _ _ _) 38 [2,0,6,6,12,10,14,14,14,6,16,16,16,6,4,4,4,4]
theorem cm_t_4 (hD:d≤700) {j:Int} {a0 a1 a2 a3:Value} {out':List Value} {eo:Nat} {acc dct:Addr} {tx ky:Tok} {zy:Value} {X y:Int} {ty:Tok} (h0:0≤j) (hl:(ah ms).length≤6) (hg:(ah ms)[j.toNat]?=some (.int y ty)) (hX:0≤X∧X<4) (hy:0≤y∧y<4) (hb:D.m X y=true)
    (H:∀ eo ky zy,Ok w d (cmS ml it acc dct cd cx L r.m (ak r D X) X tx ms em (j+1) [a0,a1,a2,a3,.int y ty] eo (aM w ky zy) (a7 w) out')):Ok w d (cmS ml it acc dct cd cx L r.m (ak r D X) X tx ms em j [a0,a1,a2,a3] eo (aM w ky zy) (a7 w) out'):=by
  refine yt (fun n t=>yd 0 [] [0] [3] (aK it ml j (ah ms) em (.int y ty)) fun v1=>yc [6] (ag r.m r.rows 4 X tx (.ref (r.at X))) fun v2=>yc [7] (ag (r.at X) (D.rowL X) 4 y ty (.bool true)) fun v3=>.nil) (fun n t=>xd (aj (by omega) h0 hg hl) fun _=>xc (ab (by omega) hX.1 (am hX.1 hX.2)) fun _=>xc (ab (by omega) hy.1 (ap hy hb)) fun _=>trivial) (fun n t ω=>(it5 0 [] [0,1,2] [3,4,5,6,7,8,9,10] (cmS ml it acc dct cd cx L r.m (ak r D X) X tx ms em (j+1) [a0,a1,a2,a3,.int y ty] (eo+1) (aM w ky (.int y ty)) (a7 w) out'))) (fun n t ω=>H _ _ _) 38 [2,0,6,6,12,10,14,14,14,6,16,16,16,6,4,4,4,4]
theorem cm_t_5 (hD:d≤700) {j:Int} {a0 a1 a2 a3 a4:Value} {out':List Value} {eo:Nat} {acc dct:Addr} {tx ky:Tok} {zy:Value} {X y:Int} {ty:Tok} (h0:0≤j) (hl:(ah ms).length≤6) (hg:(ah ms)[j.toNat]?=some (.int y ty)) (hX:0≤X∧X<4) (hy:0≤y∧y<4) (hb:D.m X y=true)
    (H:∀ eo ky zy,Ok w d (cmS ml it acc dct cd cx L r.m (ak r D X) X tx ms em (j+1) [a0,a1,a2,a3,a4,.int y ty] eo (aM w ky zy) (a7 w) out')):Ok w d (cmS ml it acc dct cd cx L r.m (ak r D X) X tx ms em j [a0,a1,a2,a3,a4] eo (aM w ky zy) (a7 w) out'):=by
  refine yt (fun n t=>yd 0 [] [0] [3] (aK it ml j (ah ms) em (.int y ty)) fun v1=>yc [6] (ag r.m r.rows 4 X tx (.ref (r.at X))) fun v2=>yc [7] (ag (r.at X) (D.rowL X) 4 y ty (.bool true)) fun v3=>.nil) (fun n t=>xd (aj (by omega) h0 hg hl) fun _=>xc (ab (by omega) hX.1 (am hX.1 hX.2)) fun _=>xc (ab (by omega) hy.1 (ap hy hb)) fun _=>trivial) (fun n t ω=>(it5 0 [] [0,1,2] [3,4,5,6,7,8,9,10] (cmS ml it acc dct cd cx L r.m (ak r D X) X tx ms em (j+1) [a0,a1,a2,a3,a4,.int y ty] (eo+1) (aM w ky (.int y ty)) (a7 w) out'))) (fun n t ω=>H _ _ _) 38 [2,0,6,6,12,10,14,14,14,6,16,16,16,6,4,4,4,4]
theorem cm_f_0 (hD:d≤700) {j:Int} {out out':List Value} {eo:Nat} {acc dct:Addr} {tx ky:Tok} {zy:Value} {X y:Int} {ty:Tok} (h0:0≤j) (hl:(ah ms).length≤6) (hg:(ah ms)[j.toNat]?=some (.int y ty)) (hX:0≤X∧X<4) (hy:0≤y∧y<4) (hb:D.m X y=false)
    (H:∀ eo ky zy,Ok w d (cmS ml it acc dct cd cx L r.m (ak r D X) X tx ms em (j+1) out eo (aM w ky zy) (a7 w) out')):Ok w d (cmS ml it acc dct cd cx L r.m (ak r D X) X tx ms em j out eo (aM w ky zy) (a7 w) out'):=by
  refine yt (fun n t=>yd 0 [] [0] [3] (aK it ml j (ah ms) em (.int y ty)) fun v1=>yc [6] (ag r.m r.rows 4 X tx (.ref (r.at X))) fun v2=>yc [7] (ag (r.at X) (D.rowL X) 4 y ty (.bool false)) fun v3=>.nil) (fun n t=>xd (aj (by omega) h0 hg hl) fun _=>xc (ab (by omega) hX.1 (am hX.1 hX.2)) fun _=>xc (ab (by omega) hy.1 (ap hy hb)) fun _=>trivial) (fun n t ω=>(it5 0 [] [0,1,2] [3,4,5,6,7,8,9,10] (cmS ml it acc dct cd cx L r.m (ak r D X) X tx ms em (j+1) out eo (aM w ky (.int y ty)) (a7 w) out'))) (fun n t ω=>H _ _ _) 29 [2,0,6,6,12,10,14,14,14,6,16,16,16]
theorem cm_t0 (hD:d≤700) {j:Int} {out out':List Value} {eo:Nat} {acc dct:Addr} {tx:Tok} {X y:Int} {ty:Tok} (h0:0≤j) (hl:(ah ms).length≤6) (hg:(ah ms)[j.toNat]?=some (.int y ty)) (hX:0≤X∧X<4) (hy:0≤y∧y<4) (hb:D.m X y=true) (ho:out.length≤5)
    (H:∀ eo ky zy,Ok w d (cmS ml it acc dct cd cx L r.m (ak r D X) X tx ms em (j+1) (out++[.int y ty]) eo (aM w ky zy) (a7 w) out')):Ok w d (cmS ml it acc dct cd cx L r.m (ak r D X) X tx ms em j out eo aV (a7 w) out'):=by
  match out,ho with
  | [],_=>exact cm_t0_0 hD h0 hl hg hX hy hb H
  | [a0],_=>exact cm_t0_1 hD h0 hl hg hX hy hb H
  | [a0,a1],_=>exact cm_t0_2 hD h0 hl hg hX hy hb H
  | [a0,a1,a2],_=>exact cm_t0_3 hD h0 hl hg hX hy hb H
  | [a0,a1,a2,a3],_=>exact cm_t0_4 hD h0 hl hg hX hy hb H
  | [a0,a1,a2,a3,a4],_=>exact cm_t0_5 hD h0 hl hg hX hy hb H
  | _::_::_::_::_::_::_,h=>exact absurd h (by simp)
theorem cm_t (hD:d≤700) {j:Int} {out out':List Value} {eo:Nat} {acc dct:Addr} {tx ky:Tok} {zy:Value} {X y:Int} {ty:Tok} (h0:0≤j) (hl:(ah ms).length≤6) (hg:(ah ms)[j.toNat]?=some (.int y ty)) (hX:0≤X∧X<4) (hy:0≤y∧y<4) (hb:D.m X y=true) (ho:out.length≤5)
    (H:∀ eo ky zy,Ok w d (cmS ml it acc dct cd cx L r.m (ak r D X) X tx ms em (j+1) (out++[.int y ty]) eo (aM w ky zy) (a7 w) out')):Ok w d (cmS ml it acc dct cd cx L r.m (ak r D X) X tx ms em j out eo (aM w ky zy) (a7 w) out'):=by
  match out,ho with
  | [],_=>exact cm_t_0 hD h0 hl hg hX hy hb H
  | [a0],_=>exact cm_t_1 hD h0 hl hg hX hy hb H
  | [a0,a1],_=>exact cm_t_2 hD h0 hl hg hX hy hb H
  | [a0,a1,a2],_=>exact cm_t_3 hD h0 hl hg hX hy hb H
  | [a0,a1,a2,a3],_=>exact cm_t_4 hD h0 hl hg hX hy hb H
  | [a0,a1,a2,a3,a4],_=>exact cm_t_5 hD h0 hl hg hX hy hb H
  | _::_::_::_::_::_::_,h=>exact absurd h (by simp)
theorem cm_x0_0 (hD:d≤700) {out:List Value} {eo:Nat} {acc dct:Addr} {tx:Tok} {X:Int}:Ok w d (cmS ml it acc dct cd cx L r.m (ak r D X) X tx [] em 0 out eo aV (fun _=>aV) out):=by
  refine yv (fun n t=>.nil) (fun n t=>trivial) 16 [2,2,2,2,8,2,2,3] (fun n t ω=>nu [(n+2),t,eo] [⟨(.type "list_iterator"),none,.fields #[.none,(.int 0 0)],#[]⟩] [])
theorem cm_x_0 (hD:d≤700) {out:List Value} {eo:Nat} {acc dct:Addr} {tx ky:Tok} {zy:Value} {X:Int}:Ok w d (cmS ml it acc dct cd cx L r.m (ak r D X) X tx [] em 0 out eo (aM w ky zy) (a7 w) out):=by
  refine yv (fun n t=>.nil) (fun n t=>trivial) 16 [2,2,2,2,8,2,2,3] (fun n t ω=>nu [(n+2),t,eo,ky] [⟨(.type "list_iterator"),none,.fields #[.none,(.int 0 0)],#[]⟩] [zy])
theorem cm_x_1 (hD:d≤700) {m0:Int × Tok} {out:List Value} {eo:Nat} {acc dct:Addr} {tx ky:Tok} {zy:Value} {X:Int}:Ok w d (cmS ml it acc dct cd cx L r.m (ak r D X) X tx [m0] em 1 out eo (aM w ky zy) (a7 w) out):=by
  refine yv (fun n t=>.nil) (fun n t=>trivial) 16 [2,2,2,2,8,2,2,3] (fun n t ω=>nu [(n+2),t,eo,ky] [⟨(.type "list_iterator"),none,.fields #[.none,(.int 1 0)],#[]⟩] [zy])
theorem cm_x_2 (hD:d≤700) {m0 m1:Int × Tok} {out:List Value} {eo:Nat} {acc dct:Addr} {tx ky:Tok} {zy:Value} {X:Int}:Ok w d (cmS ml it acc dct cd cx L r.m (ak r D X) X tx [m0,m1] em 2 out eo (aM w ky zy) (a7 w) out):=by
  refine yv (fun n t=>.nil) (fun n t=>trivial) 16 [2,2,2,2,8,2,2,3] (fun n t ω=>nu [(n+2),t,eo,ky] [⟨(.type "list_iterator"),none,.fields #[.none,(.int 2 0)],#[]⟩] [zy])
theorem cm_x_3 (hD:d≤700) {m0 m1 m2:Int × Tok} {out:List Value} {eo:Nat} {acc dct:Addr} {tx ky:Tok} {zy:Value} {X:Int}:Ok w d (cmS ml it acc dct cd cx L r.m (ak r D X) X tx [m0,m1,m2] em 3 out eo (aM w ky zy) (a7 w) out):=by
  refine yv (fun n t=>.nil) (fun n t=>trivial) 16 [2,2,2,2,8,2,2,3] (fun n t ω=>nu [(n+2),t,eo,ky] [⟨(.type "list_iterator"),none,.fields #[.none,(.int 3 0)],#[]⟩] [zy])
theorem cm_x_4 (hD:d≤700) {m0 m1 m2 m3:Int × Tok} {out:List Value} {eo:Nat} {acc dct:Addr} {tx ky:Tok} {zy:Value} {X:Int}:Ok w d (cmS ml it acc dct cd cx L r.m (ak r D X) X tx [m0,m1,m2,m3] em 4 out eo (aM w ky zy) (a7 w) out):=by
  refine yv (fun n t=>.nil) (fun n t=>trivial) 16 [2,2,2,2,8,2,2,3] (fun n t ω=>nu [(n+2),t,eo,ky] [⟨(.type "list_iterator"),none,.fields #[.none,(.int 4 0)],#[]⟩] [zy])
theorem cm_x_5 (hD:d≤700) {m0 m1 m2 m3 m4:Int × Tok} {out:List Value} {eo:Nat} {acc dct:Addr} {tx ky:Tok} {zy:Value} {X:Int}:Ok w d (cmS ml it acc dct cd cx L r.m (ak r D X) X tx [m0,m1,m2,m3,m4] em 5 out eo (aM w ky zy) (a7 w) out):=by
  refine yv (fun n t=>.nil) (fun n t=>trivial) 16 [2,2,2,2,8,2,2,3] (fun n t ω=>nu [(n+2),t,eo,ky] [⟨(.type "list_iterator"),none,.fields #[.none,(.int 5 0)],#[]⟩] [zy])
theorem ivals_get:∀ (l:List (Int × Tok)) (j:Nat),(ah l)[j]?=(l[j]?).map fun p=>.int p.1 p.2
  | [],_=>by simp [ah]
  | p::l,0=>rfl
  | p::l,j+1=>ivals_get l j
theorem aJ:∀ l:List (Int × Tok),(ah l).length=l.length
  | []=>rfl
  | _::l=>congrArg (·+1) (aJ l)
theorem ivals_app:∀ a b:List (Int × Tok),ah (a++b)=ah a++ah b
  | [],_=>rfl
  | p::a,b=>congrArg (Value.int p.1 p.2::·) (ivals_app a b)
theorem cm_x (hD:d≤700) {out:List Value} {eo:Nat} {acc dct:Addr} {tx ky:Tok} {zy:Value} {X:Int} {j:Int} (hl:ms.length≤5) (hj:j=ms.length):Ok w d (cmS ml it acc dct cd cx L r.m (ak r D X) X tx ms em j out eo (aM w ky zy) (a7 w) out):=by
  subst hj
  match ms,hl with
  | [],_=>exact cm_x_0 hD
  | [m0],_=>exact cm_x_1 hD
  | [m0,m1],_=>exact cm_x_2 hD
  | [m0,m1,m2],_=>exact cm_x_3 hD
  | [m0,m1,m2,m3],_=>exact cm_x_4 hD
  | [m0,m1,m2,m3,m4],_=>exact cm_x_5 hD
  | _::_::_::_::_::_::_,h=>exact absurd h (by simp)
noncomputable def bf (D:Dp) (X:Int) (ms:List (Int × Tok)):List (Int × Tok):=ms.filter fun p=>D.m X p.1
theorem cm_loop (hD:d≤700) (hm:ms.length≤5) (hk:∀ p∈ms,0≤p.1∧p.1<4) {acc dct:Addr} {tx:Tok} {X:Int} (hX:0≤X∧X<4):∀ (n j:Nat) (out:List Value) (eo:Nat) (ky:Tok) (zy:Value),j+n=ms.length→out.length≤j →
    Ok w d (cmS ml it acc dct cd cx L r.m (ak r D X) X tx ms em j out eo (aM w ky zy) (a7 w) (out++ah (bf D X (ms.drop j))))
  | 0,j,out,eo,ky,zy,h,ho=>by
    have:ms.drop j=[]:=List.drop_eq_nil_of_le (by omega)
    rw [this]
    simp only [bf,List.filter_nil,ah,List.append_nil]
    exact cm_x hD hm (by omega)
  | n+1,j,out,eo,ky,zy,h,ho=>by
    have hj:j<ms.length:=by omega
    have hd:ms.drop j=ms[j]::ms.drop (j+1):=List.drop_eq_getElem_cons hj
    have hg:(ah ms)[((j:Int)).toNat]?=some (.int ms[j].1 ms[j].2):=by
      rw [Int.toNat_natCast,ivals_get,List.getElem?_eq_getElem hj]; rfl
    have hy:=hk _ (List.getElem_mem hj)
    rw [hd]
    cases hb:D.m X ms[j].1 with
    | true=>
      refine cm_t hD (by omega) (by rw [aJ]; omega) hg hX hy hb (by omega) fun eo ky zy=>?_
      have z:=cm_loop (acc:=acc) (dct:=dct) (tx:=tx) hD hm hk hX n (j+1) (out++[.int ms[j].1 ms[j].2]) eo ky zy (by omega) (by simp; omega)
      rw [List.append_assoc] at z
      have e:bf D X (ms[j]::ms.drop (j+1))=ms[j]::bf D X (ms.drop (j+1)):=List.filter_cons_of_pos hb
      rw [e]
      exact z
    | false=>
      refine cm_f_0 hD (by omega) (by rw [aJ]; omega) hg hX hy hb fun eo ky zy=>?_
      have z:=cm_loop (acc:=acc) (dct:=dct) (tx:=tx) hD hm hk hX n (j+1) out eo ky zy (by omega) (by omega)
      have e:bf D X (ms[j]::ms.drop (j+1))=bf D X (ms.drop (j+1)):=List.filter_cons_of_neg (by rw [hb]; decide)
      rw [e]
      exact z
noncomputable def dkF (w:World):List (Int × Tok)→Nv→Obj
  | [],_=>aV
  | _::_,v=>a7 w v
theorem cm_all {acc dct:Addr} {tx:Tok} {X:Int} (hD:d≤700) (hm:ms.length≤5) (hk:∀ p∈ms,0≤p.1∧p.1<4) (hX:0≤X∧X<4):Ok w d (cmS ml it acc dct cd cx L r.m (ak r D X) X tx ms em 0 [] 0 aV (dkF w ms) (ah (bf D X ms))):=by
  match ms,hm,hk with
  | [],_,_=>exact cm_x0_0 hD
  | p::l,hm,hk=>
    have hy:=hk p (.head _)
    cases hb:D.m X p.1 with
    | true=>
      refine cm_t0 (j:=0) hD (by omega) (by rw [aJ]; simp at hm ⊢; omega) (show (ah (p::l))[(0:Int).toNat]?=some (.int p.1 p.2) from rfl) hX hy hb (by simp) fun eo ky zy=>?_
      have z:=cm_loop (D:=D) (ml:=ml) (it:=it) (cd:=cd) (cx:=cx) (L:=L) (r:=r) (em:=em) (w:=w) (tx:=tx) (acc:=acc) (dct:=dct) hD hm hk hX l.length 1 [.int p.1 p.2] eo ky zy (by simp; omega) (by simp)
      have e:bf D X (p::l)=p::bf D X l:=by simp [bf,hb]
      rw [e]
      exact z
    | false=>
      refine cm_f0_0 (j:=0) (out:=[]) hD (by omega) (by rw [aJ]; simp at hm ⊢; omega) (show (ah (p::l))[(0:Int).toNat]?=some (.int p.1 p.2) from rfl) hX hy hb fun eo ky zy=>?_
      have z:=cm_loop (D:=D) (ml:=ml) (it:=it) (cd:=cd) (cx:=cx) (L:=L) (r:=r) (em:=em) (w:=w) (tx:=tx) (acc:=acc) (dct:=dct) hD hm hk hX l.length 1 [] eo ky zy (by simp; omega) (by simp)
      have e:bf D X (p::l)=bf D X l:=by simp [bf,hb]
      rw [e]
      exact z
noncomputable def csS (w:World) (ml it acc dct cd cx L rm:Addr) (rows:Led) (X:Int) (tx:Tok) (ms:List (Int × Tok)) (em:Nat) (out':List Value):Sm:={ cmS ml it acc dct cd cx L rm rows X tx ms em 0 [] 0 aV (dkF w ms) out' with c:=.compStart rndC 0 (.ref it) (.ref acc) (cmE dct L cd cx) }
theorem cs_ok (hD:d≤640) (hm:ms.length≤5) (hk:∀ p∈ms,0≤p.1∧p.1<4) {acc dct:Addr} {tx:Tok} {X:Int} (hX:0≤X∧X<4):Ok w d (csS w ml it acc dct cd cx L r.m (ak r D X) X tx ms em (ah (bf D X ms))):=by
  refine yt (fun n t=>.nil) (fun n t=>trivial) (fun n t ω=>(it5 0 [] [0,1,2] [3,4,5,6,7,8,9,10] (cmS ml it acc dct cd cx L r.m (ak r D X) X tx ms em 0 [] 0 aV (dkF w ms) (ah (bf D X ms))))) (fun n t ω=>cm_all (by omega) hm hk hX) 1 [2,0,10,2,2,1,0,0,2,2]
end
noncomputable def afterLook {α:Type} (t:Sem α):Sem α:=match t with
  | .stack k=>k [(.func [] default,p0)]
  | t=>t
noncomputable abbrev ρ:List (Code × Pos)→Sem Unit:=tailOf (roomF "comparison")
theorem ρ_cases (st:List (Code × Pos)):ρ st=.pure () ∨ ∃ w,ρ st=.unsupported w:=by
  have key:ρ st=if (List.map (fun x=>x.fst.cUnits) st).sum≥cLine then (Sem.unsupported (toString "recursion.c-limit:near:" ++ toString "comparison"):Sem Unit) else .pure ():=by
    unfold ρ
    rw [← roomF_eq]
    rfl
  rw [key]
  by_cases h:(List.map (fun x=>x.fst.cUnits) st).sum≥cLine
  · rw [if_pos h]; exact .inr ⟨_,rfl⟩
  · rw [if_neg h]; exact .inl rfl
noncomputable def RoomT {α:Type} (m m₁:Sem α):Prop:=m=.stack fun st=>PySem.W.R.bindR (ρ st) fun _=>m₁
theorem RoomT.bind {α β:Type} {m m₁:Sem α} (h:RoomT m m₁) (f:α→Sem β):RoomT (PySem.W.R.bindR m f) (PySem.W.R.bindR m₁ f):=by
  unfold RoomT at h ⊢
  subst h
  show Sem.stack _=Sem.stack _
  congr 1
  funext st
  show PySem.W.R.bindR (PySem.W.R.bindR (ρ st) fun _=>m₁) f=_
  rcases ρ_cases st with e | ⟨w,e⟩ <;> rw [e] <;> rfl
theorem RoomT.onRaise {α:Type} {m m₁:Sem α} (h:RoomT m m₁) (f:Value→Sem Unit):RoomT (PySem.W.R.onRaiseR m f) (PySem.W.R.onRaiseR m₁ f):=by
  unfold RoomT at h ⊢
  subst h
  show Sem.stack _=Sem.stack _
  congr 1
  funext st
  show PySem.W.R.onRaiseR (PySem.W.R.bindR (ρ st) fun _=>m₁) f=_
  rcases ρ_cases st with e | ⟨w,e⟩ <;> rw [e] <;> rfl
theorem RoomT.keep {α:Type} {m m₁:Sem α} (h:RoomT m m₁) (vs:List Value):RoomT (PySem.W.R.keepR vs m) (PySem.W.R.keepR vs m₁):=by
  unfold RoomT at h ⊢
  subst h
  show Sem.stack _=Sem.stack _
  congr 1
  funext st
  show PySem.W.R.keepR vs (PySem.W.R.bindR (ρ st) fun _=>m₁)=_
  rcases ρ_cases st with e | ⟨w,e⟩ <;> rw [e] <;> rfl
theorem RoomT.after {α:Type} {m m₁:Sem α} (h:RoomT m m₁) (e:afterLook m=m₁:=by rfl):RoomT m (afterLook m):=by rw [e]; exact h
theorem room_swap {m m₁:Sem Fin} (h:RoomT m m₁):∀ V:VS,SwapOk V m (PySem.W.R.bindR (roomF "comparison") fun _=>m₁):=fun V c md κ s z=>by
  have e:m=PySem.W.R.bindR (roomF "comparison") fun _=>m₁:=h.trans rfl
  rw [e]; exact z
noncomputable def cmpT (op:CmpOp) (a b:Addr):Sem Value:=PySem.W.Fast.tw9423741818375054981 op (.ref a) (.ref b)
theorem cmpT_room (op:CmpOp) (a b:Addr):RoomT (cmpT op a b) (afterLook (cmpT op a b)):=by
  have z:∃ X:Sem Value,cmpT op a b=PySem.W.R.keepR [.ref a,.ref b] (PySem.W.R.bindR (roomF "comparison") fun _=>X):=⟨_,rfl⟩
  obtain ⟨X,hX⟩:=z
  have h:RoomT (cmpT op a b) (PySem.W.R.keepR [.ref a,.ref b] X):=by
    rw [hX]
    exact RoomT.keep (show RoomT (PySem.W.R.bindR (roomF "comparison") fun _=>X) X from rfl) _
  have e:afterLook (cmpT op a b)=PySem.W.R.keepR [.ref a,.ref b] X:=by rw [hX]; rfl
  rw [e]; exact h
noncomputable def truC (l r:Addr) (m:Sem Value):Sem Bool:=PySem.W.R.bindR (PySem.W.Fast.tw8004119333741010377 [.ref l,.ref r] m) fun c=>PySem.W.Fast.tw17359229931016689406 [c] (PySem.W.Fast.tw15245631507167962100 c)
theorem truC_room {l r:Addr} {m m₁:Sem Value} (h:RoomT m m₁):RoomT (truC l r m) (truC l r m₁):=by
  have z:∃ X:Value→Sem Value,∀ m,PySem.W.Fast.tw8004119333741010377 [.ref l,.ref r] m=PySem.W.R.bindR (PySem.W.R.keepR [.ref l,.ref r] m) X:=⟨_,fun _=>rfl⟩
  obtain ⟨X,hX⟩:=z
  unfold truC
  rw [hX,hX]
  exact ((h.keep _).bind X).bind _
noncomputable def ifF (bt bo:List Stmt) (env:Env) (b:Bool):Sem Flow:=if b=true then PySem.W.Fast.tw12563942051412417395 bt env else PySem.W.Fast.tw12563942051412417395 bo env
noncomputable def restF (rest:List Stmt) (env:Env) (f:Flow):Sem Flow:=match f with
  | .next=>PySem.W.Fast.tw12563942051412417395 rest env
  | f=>.pure f
noncomputable def flowF (t:Expr) (it:Value) (b o:List Stmt) (env:Env) (f:Flow):Sem Fin:=match f with
  | .next=>PySem.W.Fast.tw12377390311714414960 (.forLoop t it b o env)
  | .cont=>PySem.W.Fast.tw12377390311714414960 (.forLoop t it b o env)
  | .brk=>.pure (.done .next)
  | .ret v=>.pure (.done (.ret v))
noncomputable def raiseF (env:Env) (x:Value):Sem Unit:=PySem.W.R.bindR (PySem.W.Fast.tw17872113653443481271 x env) fun _=>PySem.W.Fast.tw1623429502029203251 x
noncomputable def ctxFI (t:Expr) (it:Value) (b o:List Stmt) (env:Env) (bt bo rest:List Stmt) (m:Sem Bool):Sem Fin:=
  PySem.W.R.onRaiseR (PySem.W.R.bindR (PySem.W.R.bindR (PySem.W.R.bindR m (ifF bt bo env)) (restF rest env)) (flowF t it b o env)) (raiseF env)
theorem ctxFI_room {t:Expr} {it:Value} {b o:List Stmt} {env:Env} {bt bo rest:List Stmt} {m m₁:Sem Bool} (h:RoomT m m₁):RoomT (ctxFI t it b o env bt bo rest m) (ctxFI t it b o env bt bo rest m₁):=
  (((h.bind _).bind _).bind _).onRaise _
noncomputable def forT:Stmt→Expr
  | .For t _ _ _ _=>t
  | _=>.Constant .none 0 ⟨0,0,0,0⟩
noncomputable def forBd:Stmt→List Stmt
  | .For _ _ b _ _=>b
  | _=>[]
noncomputable def forEl:Stmt→List Stmt
  | .For _ _ _ o _=>o
  | _=>[]
noncomputable def ifB:Stmt→List Stmt
  | .If _ b _ _=>b
  | _=>[]
noncomputable def ifE:Stmt→List Stmt
  | .If _ _ e _=>e
  | _=>[]
noncomputable def dropS:Nat→List Stmt→List Stmt
  | 0,l=>l
  | n+1,l=>match l with
    | []=>[]
    | _::l=>dropS n l
noncomputable def ctxF (st:Stmt) (j:Nat) (it:Value) (env:Env) (m:Sem Bool):Sem Fin:=ctxFI (forT st) it (forBd st) (forEl st) env (ifB (nthS (forBd st) j)) (ifE (nthS (forBd st) j)) (dropS (j+1) (forBd st)) m
noncomputable abbrev swF (st:Stmt) (j:Nat) (it:Value) (env:Env) (op:CmpOp) (a b:Addr):Sw:=⟨ctxF st j it env (truC a b (cmpT op a b)),PySem.W.R.bindR (roomF "comparison") fun _=>ctxF st j it env (truC a b (afterLook (cmpT op a b)))⟩
theorem swF_ok {st:Stmt} {j:Nat} {it:Value} {env:Env} {op:CmpOp} {a b:Addr}:∀ V:VS,SwapOk V (swF st j it env op a b).t₀ (swF st j it env op a b).t₁:=room_swap (ctxFI_room (truC_room (cmpT_room op a b)))
noncomputable def bj (l:Addr) (xs:List Value) (e:Nat) (v:Value) (ys:List Value):Sm where
  c:=bi "list.append" [.ref l,v]
  mpre:=[(l,lst ⟨xs⟩ e)]
  rpre:=[]
  post _:=[(l,lst ⟨ys⟩ (e+1))]
  news _:=[]
  res _:=.ok (.ret .none)
theorem aq {w:World} {D:Nat} {l:Addr} {xs ys:List Value} {e:Nat} {v:Value} (h:xs.length≤1000) (hy:ys=xs++[v]):Ok w D (bj l xs e v ys):=by
  subst hy
  exact appS_ok h
section
variable {s4:V4 Nat} {w:World} {d:Nat} {x:Lx} {L it cd cx rl ro ml tl:Addr} {r:R4} {D:Dp} {k:Tk} {sg:List Nat} {ts:Tok} {W:Int} {wt:Tok} {ln:Int} {lt:Tok} {rows:Led} {ps:List Value} {ep:Nat} {p0:Int × Tok} {ms:List (Int × Tok)} {em:Nat} {tk:List Value} {et:Nat} {cur rem:Int} {cv:Option Value} {ps' tk':List Value} {nm kv:Value} {q:Nm}
theorem ire8 (hD:d≤340) (hs:aR sg s4) (hq:q.good s4) (hms:(([]:List (Int × Tok))).length≤5) (hk:∀ p∈(([]:List (Int × Tok))),0≤p.1∧p.1<4) (hr:0<rem∧rem≤6) (hps:ps.length<100) (htk:tk.length<100) (hw:bf D q.k (([]:List (Int × Tok)))=[])
    (H:∀ (ki et ep em tx:Nat) (nm kv cz:Value),Ok w d (inR w x L it cd cx rl ro ml tl r.m { k with i:=ki } sg ts W wt ln lt (r.led D) (frD w { k with i:=ki } rl x.self ro ml tl sg ts W wt nm kv) ps ep ((([]:List (Int × Tok)))++[(q.k,tx)]) em (tk++[.str (S q.l) q.t]) et (cur+1) (rem-1) (some cz) ps' tk')) :
    Ok w d (inR w x L it cd cx rl ro ml tl r.m k sg ts W wt ln lt (r.led D) (frD8 w k rl x.self ro ml tl sg ts W wt nm) (.str (S q.l) q.t::ps) ep (([]:List (Int × Tok))) em tk et cur rem cv ps' tk'):=by
  obtain ⟨rest,hrest⟩:=hs.idx q.k hq.1.1 hq.1.2
  have hcs:∀ it acc dct tx,Ok w (d+60) (csS w ml it acc dct cd cx L r.m (ak r D q.k) q.k tx (([]:List (Int × Tok))) em (ah [])):=fun it acc dct tx=>hw ▸ cs_ok (by omega) hms hk hq.1
  have H':∀ (ki et ep em tx:Nat) (nm kv cz:Value),Ok w d (inR w x L it cd cx rl ro ml tl r.m { k with i:=ki } sg ts W wt ln lt (ak r D q.k) (frD w { k with i:=ki } rl x.self ro ml tl sg ts W wt nm kv) ps ep ((([]:List (Int × Tok)))++[(q.k,tx)]) em (tk++[.str (S q.l) q.t]) et (cur+1) (rem-1) (some cz) ps' tk'):=fun ki et ep em tx nm kv cz=>ao (H ki et ep em tx nm kv cz) (.cons _ (.cons _ (.cons _ (ai hq.1).symm)))
  refine ao (s:=inR w x L it cd cx rl ro ml tl r.m k sg ts W wt ln lt (ak r D q.k) (frD8 w k rl x.self ro ml tl sg ts W wt nm) (.str (S q.l) q.t::ps) ep (([]:List (Int × Tok))) em tk et cur rem cv ps' tk') ?_ (.cons _ (.cons _ (.cons _ (ai hq.1))))
  clear H
  refine yt (fun n t=>yd 0 [] [4] [] (rngS it cur rem) fun v1=>yd 0 [] [1] [7,8] (tokP w x ln lt (S q.l) q.t ps ep) fun v2=>yd 1 [] [] [] (ay q.l (-1) q.t (v2.a 1+2) (s4.at q.k)) fun v3=>yc [] (indexKS sg [s4.at q.k] ts (v3.a 2) q.k) fun v4=>yd 1 [0,1,2] [14,15,16] [2,5,6,9,10,11,12,13] (csS w ml (v4.a 0) (v4.a 0+1) (v4.a 0+2) cd cx L r.m (ak r D q.k) q.k (v4.a 2) (([]:List (Int × Tok))) em (ah [])) fun v5=>.swap  (swF (nthS (whB (sto 20 4)) 2) 2 (.ref it) (rndE L cd cx) .Eq (v4.a 0+1) (v5.a 0)).t₀ (swF (nthS (whB (sto 20 4)) 2) 2 (.ref it) (rndE L cd cx) .Eq (v4.a 0+1) (v5.a 0)).t₁ <| yd 1 [0] [3] [] (appS tl tk et (.str (S q.l) q.t)) fun v7=>yd 0 [] [2] [] (bj ml (ah (([]:List (Int × Tok)))) em (.int q.k (v4.a 2)) (ah ((([]:List (Int × Tok)))++[(q.k,v4.a 2)]))) fun v8=>.nil) (fun n t=>xd (aP (by omega) hr.1 hr.2) fun _=>xd (tokP_ok (by omega) (by omega)) fun _=>xd (af (last_idx hq.2.1 hq.2.2.1 hq.2.2.2) (by decide)) fun _=>xc (aU hq.1.1 hrest) fun _=>xd (hcs _ _ _ _) fun _=>⟨swF_ok,⟨appS_ok (by omega),fun v7=>⟨aq (by rw [aJ]; omega) (ivals_app _ _),fun v8=>trivial⟩⟩⟩) (fun n t ω=>((fun v1 v4=>(it5 0 [] [0,1,2,3,4,5] [6,7,8,9,10,11,12,13] (inR w x L it cd cx rl ro ml tl r.m { k with i:=(v1.a 1) } sg ts W wt ln lt (ak r D q.k) (frD w { k with i:=(v1.a 1) } rl x.self ro ml tl sg ts W wt (.str (S q.l) q.t) (.int cur (v1.a 2))) ps ((ω 1).v.a 2) ((([]:List (Int × Tok)))++[(q.k,v4.a 2)]) (em+1) (tk++[.str (S q.l) q.t]) (et+1) (cur+1) (rem-1) (some (.int q.k (v4.a 2))) ps' tk'))) (ω 0).v (ω 3).v)) (fun n t ω=>H' _ _ _ _ _ _ _ _) 131 [10,0,2,2,2,18,0,0,0,18,0,0,0,18,0,0,0,0,18,16,0,0,2,2,2,2,12,12,2,6,6,1,0,0,6,1,34,999,6,32,1,32,1,0,0,32,1,32,1,32,1,32,1,2,8,8,8,8,2,2,6,6,6,6,12]
theorem ire (hD:d≤340) (hs:aR sg s4) (hq:q.good s4) (hms:(([]:List (Int × Tok))).length≤5) (hk:∀ p∈(([]:List (Int × Tok))),0≤p.1∧p.1<4) (hr:0<rem∧rem≤6) (hps:ps.length<100) (htk:tk.length<100) (hw:bf D q.k (([]:List (Int × Tok)))=[])
    (H:∀ (ki et ep em tx:Nat) (nm kv cz:Value),Ok w d (inR w x L it cd cx rl ro ml tl r.m k sg ts W wt ln lt (r.led D) (frD w k rl x.self ro ml tl sg ts W wt nm kv) ps ep ((([]:List (Int × Tok)))++[(q.k,tx)]) em (tk++[.str (S q.l) q.t]) et (cur+1) (rem-1) (some cz) ps' tk')) :
    Ok w d (inR w x L it cd cx rl ro ml tl r.m k sg ts W wt ln lt (r.led D) (frD w k rl x.self ro ml tl sg ts W wt nm kv) (.str (S q.l) q.t::ps) ep (([]:List (Int × Tok))) em tk et cur rem cv ps' tk'):=by
  obtain ⟨rest,hrest⟩:=hs.idx q.k hq.1.1 hq.1.2
  have hcs:∀ it acc dct tx,Ok w (d+60) (csS w ml it acc dct cd cx L r.m (ak r D q.k) q.k tx (([]:List (Int × Tok))) em (ah [])):=fun it acc dct tx=>hw ▸ cs_ok (by omega) hms hk hq.1
  have H':∀ (ki et ep em tx:Nat) (nm kv cz:Value),Ok w d (inR w x L it cd cx rl ro ml tl r.m k sg ts W wt ln lt (ak r D q.k) (frD w k rl x.self ro ml tl sg ts W wt nm kv) ps ep ((([]:List (Int × Tok)))++[(q.k,tx)]) em (tk++[.str (S q.l) q.t]) et (cur+1) (rem-1) (some cz) ps' tk'):=fun ki et ep em tx nm kv cz=>ao (H ki et ep em tx nm kv cz) (.cons _ (.cons _ (.cons _ (ai hq.1).symm)))
  refine ao (s:=inR w x L it cd cx rl ro ml tl r.m k sg ts W wt ln lt (ak r D q.k) (frD w k rl x.self ro ml tl sg ts W wt nm kv) (.str (S q.l) q.t::ps) ep (([]:List (Int × Tok))) em tk et cur rem cv ps' tk') ?_ (.cons _ (.cons _ (.cons _ (ai hq.1))))
  clear H
  refine yt (fun n t=>yd 0 [] [4] [] (rngS it cur rem) fun v1=>yd 0 [] [1] [7,8] (tokP w x ln lt (S q.l) q.t ps ep) fun v2=>yd 1 [] [] [] (ay q.l (-1) q.t (v2.a 1+2) (s4.at q.k)) fun v3=>yc [] (indexKS sg [s4.at q.k] ts (v3.a 2) q.k) fun v4=>yd 1 [0,1,2] [14,15,16] [2,5,6,9,10,11,12,13] (csS w ml (v4.a 0) (v4.a 0+1) (v4.a 0+2) cd cx L r.m (ak r D q.k) q.k (v4.a 2) (([]:List (Int × Tok))) em (ah [])) fun v5=>.swap  (swF (nthS (whB (sto 20 4)) 2) 2 (.ref it) (rndE L cd cx) .Eq (v4.a 0+1) (v5.a 0)).t₀ (swF (nthS (whB (sto 20 4)) 2) 2 (.ref it) (rndE L cd cx) .Eq (v4.a 0+1) (v5.a 0)).t₁ <| yd 1 [0] [3] [] (appS tl tk et (.str (S q.l) q.t)) fun v7=>yd 0 [] [2] [] (bj ml (ah (([]:List (Int × Tok)))) em (.int q.k (v4.a 2)) (ah ((([]:List (Int × Tok)))++[(q.k,v4.a 2)]))) fun v8=>.nil) (fun n t=>xd (aP (by omega) hr.1 hr.2) fun _=>xd (tokP_ok (by omega) (by omega)) fun _=>xd (af (last_idx hq.2.1 hq.2.2.1 hq.2.2.2) (by decide)) fun _=>xc (aU hq.1.1 hrest) fun _=>xd (hcs _ _ _ _) fun _=>⟨swF_ok,⟨appS_ok (by omega),fun v7=>⟨aq (by rw [aJ]; omega) (ivals_app _ _),fun v8=>trivial⟩⟩⟩) (fun n t ω=>((fun v4=>(it5 0 [] [0,1,2,3,4,5] [6,7,8,9,10,11,12,13] (inR w x L it cd cx rl ro ml tl r.m k sg ts W wt ln lt (ak r D q.k) (frD w k rl x.self ro ml tl sg ts W wt (.str (S q.l) q.t) (.int cur ((ω 0).v.a 2))) ps ((ω 1).v.a 2) ((([]:List (Int × Tok)))++[(q.k,v4.a 2)]) (em+1) (tk++[.str (S q.l) q.t]) (et+1) (cur+1) (rem-1) (some (.int q.k (v4.a 2))) ps' tk'))) (ω 3).v)) (fun n t ω=>H' 0 _ _ _ _ _ _ _) 131 [10,0,2,2,2,18,0,0,0,18,0,0,0,18,0,0,0,0,18,16,0,0,2,2,2,2,12,12,2,6,6,1,0,0,6,1,34,999,6,32,1,32,1,0,0,32,1,32,1,32,1,32,1,2,8,8,8,8,2,2,6,6,6,6,12]
theorem ir0 (hD:d≤340) (hs:aR sg s4) (hq:q.good s4) (hms:(p0::ms).length≤5) (hk:∀ p∈(p0::ms),0≤p.1∧p.1<4) (hr:0<rem∧rem≤6) (hps:ps.length<100) (htk:tk.length<100) (hw:bf D q.k (p0::ms)=[])
    (H:∀ (ki et ep em tx:Nat) (nm kv cz:Value),Ok w d (inR w x L it cd cx rl ro ml tl r.m k sg ts W wt ln lt (r.led D) (frD w k rl x.self ro ml tl sg ts W wt nm kv) ps ep ((p0::ms)++[(q.k,tx)]) em (tk++[.str (S q.l) q.t]) et (cur+1) (rem-1) (some cz) ps' tk')) :
    Ok w d (inR w x L it cd cx rl ro ml tl r.m k sg ts W wt ln lt (r.led D) (frD w k rl x.self ro ml tl sg ts W wt nm kv) (.str (S q.l) q.t::ps) ep (p0::ms) em tk et cur rem cv ps' tk'):=by
  obtain ⟨rest,hrest⟩:=hs.idx q.k hq.1.1 hq.1.2
  have hcs:∀ it acc dct tx,Ok w (d+60) (csS w ml it acc dct cd cx L r.m (ak r D q.k) q.k tx (p0::ms) em (ah [])):=fun it acc dct tx=>hw ▸ cs_ok (by omega) hms hk hq.1
  have H':∀ (ki et ep em tx:Nat) (nm kv cz:Value),Ok w d (inR w x L it cd cx rl ro ml tl r.m k sg ts W wt ln lt (ak r D q.k) (frD w k rl x.self ro ml tl sg ts W wt nm kv) ps ep ((p0::ms)++[(q.k,tx)]) em (tk++[.str (S q.l) q.t]) et (cur+1) (rem-1) (some cz) ps' tk'):=fun ki et ep em tx nm kv cz=>ao (H ki et ep em tx nm kv cz) (.cons _ (.cons _ (.cons _ (ai hq.1).symm)))
  refine ao (s:=inR w x L it cd cx rl ro ml tl r.m k sg ts W wt ln lt (ak r D q.k) (frD w k rl x.self ro ml tl sg ts W wt nm kv) (.str (S q.l) q.t::ps) ep (p0::ms) em tk et cur rem cv ps' tk') ?_ (.cons _ (.cons _ (.cons _ (ai hq.1))))
  clear H
  refine yt (fun n t=>yd 0 [] [4] [] (rngS it cur rem) fun v1=>yd 0 [] [1] [7,8] (tokP w x ln lt (S q.l) q.t ps ep) fun v2=>yd 1 [] [] [] (ay q.l (-1) q.t (v2.a 1+2) (s4.at q.k)) fun v3=>yc [] (indexKS sg [s4.at q.k] ts (v3.a 2) q.k) fun v4=>yd 1 [0,1,2] [14,15,16] [2,5,6,9,10,11,12,13] (csS w ml (v4.a 0) (v4.a 0+1) (v4.a 0+2) cd cx L r.m (ak r D q.k) q.k (v4.a 2) (p0::ms) em (ah [])) fun v5=>.swap  (swF (nthS (whB (sto 20 4)) 2) 2 (.ref it) (rndE L cd cx) .Eq (v4.a 0+1) (v5.a 0)).t₀ (swF (nthS (whB (sto 20 4)) 2) 2 (.ref it) (rndE L cd cx) .Eq (v4.a 0+1) (v5.a 0)).t₁ <| yd 1 [0] [3] [] (appS tl tk et (.str (S q.l) q.t)) fun v7=>yd 0 [] [2] [] (bj ml (ah (p0::ms)) em (.int q.k (v4.a 2)) (ah ((p0::ms)++[(q.k,v4.a 2)]))) fun v8=>.nil) (fun n t=>xd (aP (by omega) hr.1 hr.2) fun _=>xd (tokP_ok (by omega) (by omega)) fun _=>xd (af (last_idx hq.2.1 hq.2.2.1 hq.2.2.2) (by decide)) fun _=>xc (aU hq.1.1 hrest) fun _=>xd (hcs _ _ _ _) fun _=>⟨swF_ok,⟨appS_ok (by omega),fun v7=>⟨aq (by rw [aJ]; omega) (ivals_app _ _),fun v8=>trivial⟩⟩⟩) (fun n t ω=>((fun v4=>(it5 0 [] [0,1,2,3,4,5] [6,7,8,9,10,11,12,13] (inR w x L it cd cx rl ro ml tl r.m k sg ts W wt ln lt (ak r D q.k) (frD w k rl x.self ro ml tl sg ts W wt (.str (S q.l) q.t) (.int cur ((ω 0).v.a 2))) ps ((ω 1).v.a 2) ((p0::ms)++[(q.k,v4.a 2)]) (em+1) (tk++[.str (S q.l) q.t]) (et+1) (cur+1) (rem-1) (some (.int q.k (v4.a 2))) ps' tk'))) (ω 3).v)) (fun n t ω=>H' 0 _ _ _ _ _ _ _) 135 [10,0,2,2,2,18,0,0,0,18,0,0,0,18,0,0,0,0,18,16,0,0,2,2,2,2,12,12,2,6,6,1,0,0,6,1,34,34,34,999,6,32,1,32,1,0,0,32,1,32,1,32,1,32,1,2,8,8,8,8,2,2,6,6,6,6,12]
theorem ir1 {a0:Int × Tok} (hD:d≤340) (hs:aR sg s4) (hq:q.good s4) (hms:(p0::ms).length≤5) (hk:∀ p∈(p0::ms),0≤p.1∧p.1<4) (hr:0<rem∧rem≤6) (hps:ps.length<100) (htk:tk.length<100) (hw:bf D q.k (p0::ms)=[a0])
    (H:∀ (ki et ep em tx:Nat) (nm kv cz:Value),Ok w d (inR w x L it cd cx rl ro ml tl r.m k sg ts W wt ln lt (r.led D) (frD w k rl x.self ro ml tl sg ts W wt nm kv) (ps++[.str (S q.l) q.t]) ep ((p0::ms)++[(q.k,tx)]) em tk et (cur+1) (rem-1) (some cz) ps' tk')) :
    Ok w d (inR w x L it cd cx rl ro ml tl r.m k sg ts W wt ln lt (r.led D) (frD w k rl x.self ro ml tl sg ts W wt nm kv) (.str (S q.l) q.t::ps) ep (p0::ms) em tk et cur rem cv ps' tk'):=by
  obtain ⟨rest,hrest⟩:=hs.idx q.k hq.1.1 hq.1.2
  have hcs:∀ it acc dct tx,Ok w (d+60) (csS w ml it acc dct cd cx L r.m (ak r D q.k) q.k tx (p0::ms) em (ah [a0])):=fun it acc dct tx=>hw ▸ cs_ok (by omega) hms hk hq.1
  have H':∀ (ki et ep em tx:Nat) (nm kv cz:Value),Ok w d (inR w x L it cd cx rl ro ml tl r.m k sg ts W wt ln lt (ak r D q.k) (frD w k rl x.self ro ml tl sg ts W wt nm kv) (ps++[.str (S q.l) q.t]) ep ((p0::ms)++[(q.k,tx)]) em tk et (cur+1) (rem-1) (some cz) ps' tk'):=fun ki et ep em tx nm kv cz=>ao (H ki et ep em tx nm kv cz) (.cons _ (.cons _ (.cons _ (ai hq.1).symm)))
  refine ao (s:=inR w x L it cd cx rl ro ml tl r.m k sg ts W wt ln lt (ak r D q.k) (frD w k rl x.self ro ml tl sg ts W wt nm kv) (.str (S q.l) q.t::ps) ep (p0::ms) em tk et cur rem cv ps' tk') ?_ (.cons _ (.cons _ (.cons _ (ai hq.1))))
  clear H
  refine yt (fun n t=>yd 0 [] [4] [] (rngS it cur rem) fun v1=>yd 0 [] [1] [7,8] (tokP w x ln lt (S q.l) q.t ps ep) fun v2=>yd 1 [] [] [] (ay q.l (-1) q.t (v2.a 1+2) (s4.at q.k)) fun v3=>yc [] (indexKS sg [s4.at q.k] ts (v3.a 2) q.k) fun v4=>yd 1 [0,1,2] [14,15,16] [2,5,6,9,10,11,12,13] (csS w ml (v4.a 0) (v4.a 0+1) (v4.a 0+2) cd cx L r.m (ak r D q.k) q.k (v4.a 2) (p0::ms) em (ah [a0])) fun v5=>.swap  (swF (nthS (whB (sto 20 4)) 2) 2 (.ref it) (rndE L cd cx) .Eq (v4.a 0+1) (v5.a 0)).t₀ (swF (nthS (whB (sto 20 4)) 2) 2 (.ref it) (rndE L cd cx) .Eq (v4.a 0+1) (v5.a 0)).t₁ <| yd 1 [0] [1] [7,8] (pushS w x ln lt (S q.l) q.t ps (v2.a 2)) fun v7=>yd 0 [] [2] [] (bj ml (ah (p0::ms)) em (.int q.k (v4.a 2)) (ah ((p0::ms)++[(q.k,v4.a 2)]))) fun v8=>.nil) (fun n t=>xd (aP (by omega) hr.1 hr.2) fun _=>xd (tokP_ok (by omega) (by omega)) fun _=>xd (af (last_idx hq.2.1 hq.2.2.1 hq.2.2.2) (by decide)) fun _=>xc (aU hq.1.1 hrest) fun _=>xd (hcs _ _ _ _) fun _=>⟨swF_ok,⟨pushS_ok (by omega) (by omega),fun v7=>⟨aq (by rw [aJ]; omega) (ivals_app _ _),fun v8=>trivial⟩⟩⟩) (fun n t ω=>((fun v4=>(it5 0 [] [0,1,2,3,4,5] [6,7,8,9,10,11,12,13] (inR w x L it cd cx rl ro ml tl r.m k sg ts W wt ln lt (ak r D q.k) (frD w k rl x.self ro ml tl sg ts W wt (.str (S q.l) q.t) (.int cur ((ω 0).v.a 2))) (ps++[.str (S q.l) q.t]) ((ω 23).v.a 2) ((p0::ms)++[(q.k,v4.a 2)]) (em+1) tk et (cur+1) (rem-1) (some (.int q.k (v4.a 2))) ps' tk'))) (ω 3).v)) (fun n t ω=>H' 0 _ _ _ _ _ _ _) 143 [10,0,2,2,2,18,0,0,0,18,0,0,0,18,0,0,0,0,18,16,0,0,2,2,2,2,12,12,2,6,6,1,0,0,6,1,34,34,34,999,6,32,1,32,1,0,0,32,1,32,1,2,18,0,0,0,18,0,0,0,18,0,0,0,0,18,16,2,0,2,6,6,6,6,12]
theorem ir2 {a0 a1:Int × Tok} (hD:d≤340) (hs:aR sg s4) (hq:q.good s4) (hms:(p0::ms).length≤5) (hk:∀ p∈(p0::ms),0≤p.1∧p.1<4) (hr:0<rem∧rem≤6) (hps:ps.length<100) (htk:tk.length<100) (hw:bf D q.k (p0::ms)=[a0,a1])
    (H:∀ (ki et ep em tx:Nat) (nm kv cz:Value),Ok w d (inR w x L it cd cx rl ro ml tl r.m k sg ts W wt ln lt (r.led D) (frD w k rl x.self ro ml tl sg ts W wt nm kv) (ps++[.str (S q.l) q.t]) ep ((p0::ms)++[(q.k,tx)]) em tk et (cur+1) (rem-1) (some cz) ps' tk')) :
    Ok w d (inR w x L it cd cx rl ro ml tl r.m k sg ts W wt ln lt (r.led D) (frD w k rl x.self ro ml tl sg ts W wt nm kv) (.str (S q.l) q.t::ps) ep (p0::ms) em tk et cur rem cv ps' tk'):=by
  obtain ⟨rest,hrest⟩:=hs.idx q.k hq.1.1 hq.1.2
  have hcs:∀ it acc dct tx,Ok w (d+60) (csS w ml it acc dct cd cx L r.m (ak r D q.k) q.k tx (p0::ms) em (ah [a0,a1])):=fun it acc dct tx=>hw ▸ cs_ok (by omega) hms hk hq.1
  have H':∀ (ki et ep em tx:Nat) (nm kv cz:Value),Ok w d (inR w x L it cd cx rl ro ml tl r.m k sg ts W wt ln lt (ak r D q.k) (frD w k rl x.self ro ml tl sg ts W wt nm kv) (ps++[.str (S q.l) q.t]) ep ((p0::ms)++[(q.k,tx)]) em tk et (cur+1) (rem-1) (some cz) ps' tk'):=fun ki et ep em tx nm kv cz=>ao (H ki et ep em tx nm kv cz) (.cons _ (.cons _ (.cons _ (ai hq.1).symm)))
  refine ao (s:=inR w x L it cd cx rl ro ml tl r.m k sg ts W wt ln lt (ak r D q.k) (frD w k rl x.self ro ml tl sg ts W wt nm kv) (.str (S q.l) q.t::ps) ep (p0::ms) em tk et cur rem cv ps' tk') ?_ (.cons _ (.cons _ (.cons _ (ai hq.1))))
  clear H
  refine yt (fun n t=>yd 0 [] [4] [] (rngS it cur rem) fun v1=>yd 0 [] [1] [7,8] (tokP w x ln lt (S q.l) q.t ps ep) fun v2=>yd 1 [] [] [] (ay q.l (-1) q.t (v2.a 1+2) (s4.at q.k)) fun v3=>yc [] (indexKS sg [s4.at q.k] ts (v3.a 2) q.k) fun v4=>yd 1 [0,1,2] [14,15,16] [2,5,6,9,10,11,12,13] (csS w ml (v4.a 0) (v4.a 0+1) (v4.a 0+2) cd cx L r.m (ak r D q.k) q.k (v4.a 2) (p0::ms) em (ah [a0,a1])) fun v5=>.swap  (swF (nthS (whB (sto 20 4)) 2) 2 (.ref it) (rndE L cd cx) .Eq (v4.a 0+1) (v5.a 0)).t₀ (swF (nthS (whB (sto 20 4)) 2) 2 (.ref it) (rndE L cd cx) .Eq (v4.a 0+1) (v5.a 0)).t₁ <| yd 1 [0] [1] [7,8] (pushS w x ln lt (S q.l) q.t ps (v2.a 2)) fun v7=>yd 0 [] [2] [] (bj ml (ah (p0::ms)) em (.int q.k (v4.a 2)) (ah ((p0::ms)++[(q.k,v4.a 2)]))) fun v8=>.nil) (fun n t=>xd (aP (by omega) hr.1 hr.2) fun _=>xd (tokP_ok (by omega) (by omega)) fun _=>xd (af (last_idx hq.2.1 hq.2.2.1 hq.2.2.2) (by decide)) fun _=>xc (aU hq.1.1 hrest) fun _=>xd (hcs _ _ _ _) fun _=>⟨swF_ok,⟨pushS_ok (by omega) (by omega),fun v7=>⟨aq (by rw [aJ]; omega) (ivals_app _ _),fun v8=>trivial⟩⟩⟩) (fun n t ω=>((fun v4=>(it5 0 [] [0,1,2,3,4,5] [6,7,8,9,10,11,12,13] (inR w x L it cd cx rl ro ml tl r.m k sg ts W wt ln lt (ak r D q.k) (frD w k rl x.self ro ml tl sg ts W wt (.str (S q.l) q.t) (.int cur ((ω 0).v.a 2))) (ps++[.str (S q.l) q.t]) ((ω 23).v.a 2) ((p0::ms)++[(q.k,v4.a 2)]) (em+1) tk et (cur+1) (rem-1) (some (.int q.k (v4.a 2))) ps' tk'))) (ω 3).v)) (fun n t ω=>H' 0 _ _ _ _ _ _ _) 143 [10,0,2,2,2,18,0,0,0,18,0,0,0,18,0,0,0,0,18,16,0,0,2,2,2,2,12,12,2,6,6,1,0,0,6,1,34,34,34,999,6,32,1,32,1,0,0,32,1,32,1,2,18,0,0,0,18,0,0,0,18,0,0,0,0,18,16,2,0,2,6,6,6,6,12]
theorem ir3 {a0 a1 a2:Int × Tok} (hD:d≤340) (hs:aR sg s4) (hq:q.good s4) (hms:(p0::ms).length≤5) (hk:∀ p∈(p0::ms),0≤p.1∧p.1<4) (hr:0<rem∧rem≤6) (hps:ps.length<100) (htk:tk.length<100) (hw:bf D q.k (p0::ms)=[a0,a1,a2])
    (H:∀ (ki et ep em tx:Nat) (nm kv cz:Value),Ok w d (inR w x L it cd cx rl ro ml tl r.m k sg ts W wt ln lt (r.led D) (frD w k rl x.self ro ml tl sg ts W wt nm kv) (ps++[.str (S q.l) q.t]) ep ((p0::ms)++[(q.k,tx)]) em tk et (cur+1) (rem-1) (some cz) ps' tk')) :
    Ok w d (inR w x L it cd cx rl ro ml tl r.m k sg ts W wt ln lt (r.led D) (frD w k rl x.self ro ml tl sg ts W wt nm kv) (.str (S q.l) q.t::ps) ep (p0::ms) em tk et cur rem cv ps' tk'):=by
  obtain ⟨rest,hrest⟩:=hs.idx q.k hq.1.1 hq.1.2
  have hcs:∀ it acc dct tx,Ok w (d+60) (csS w ml it acc dct cd cx L r.m (ak r D q.k) q.k tx (p0::ms) em (ah [a0,a1,a2])):=fun it acc dct tx=>hw ▸ cs_ok (by omega) hms hk hq.1
  have H':∀ (ki et ep em tx:Nat) (nm kv cz:Value),Ok w d (inR w x L it cd cx rl ro ml tl r.m k sg ts W wt ln lt (ak r D q.k) (frD w k rl x.self ro ml tl sg ts W wt nm kv) (ps++[.str (S q.l) q.t]) ep ((p0::ms)++[(q.k,tx)]) em tk et (cur+1) (rem-1) (some cz) ps' tk'):=fun ki et ep em tx nm kv cz=>ao (H ki et ep em tx nm kv cz) (.cons _ (.cons _ (.cons _ (ai hq.1).symm)))
  refine ao (s:=inR w x L it cd cx rl ro ml tl r.m k sg ts W wt ln lt (ak r D q.k) (frD w k rl x.self ro ml tl sg ts W wt nm kv) (.str (S q.l) q.t::ps) ep (p0::ms) em tk et cur rem cv ps' tk') ?_ (.cons _ (.cons _ (.cons _ (ai hq.1))))
  clear H
  refine yt (fun n t=>yd 0 [] [4] [] (rngS it cur rem) fun v1=>yd 0 [] [1] [7,8] (tokP w x ln lt (S q.l) q.t ps ep) fun v2=>yd 1 [] [] [] (ay q.l (-1) q.t (v2.a 1+2) (s4.at q.k)) fun v3=>yc [] (indexKS sg [s4.at q.k] ts (v3.a 2) q.k) fun v4=>yd 1 [0,1,2] [14,15,16] [2,5,6,9,10,11,12,13] (csS w ml (v4.a 0) (v4.a 0+1) (v4.a 0+2) cd cx L r.m (ak r D q.k) q.k (v4.a 2) (p0::ms) em (ah [a0,a1,a2])) fun v5=>.swap  (swF (nthS (whB (sto 20 4)) 2) 2 (.ref it) (rndE L cd cx) .Eq (v4.a 0+1) (v5.a 0)).t₀ (swF (nthS (whB (sto 20 4)) 2) 2 (.ref it) (rndE L cd cx) .Eq (v4.a 0+1) (v5.a 0)).t₁ <| yd 1 [0] [1] [7,8] (pushS w x ln lt (S q.l) q.t ps (v2.a 2)) fun v7=>yd 0 [] [2] [] (bj ml (ah (p0::ms)) em (.int q.k (v4.a 2)) (ah ((p0::ms)++[(q.k,v4.a 2)]))) fun v8=>.nil) (fun n t=>xd (aP (by omega) hr.1 hr.2) fun _=>xd (tokP_ok (by omega) (by omega)) fun _=>xd (af (last_idx hq.2.1 hq.2.2.1 hq.2.2.2) (by decide)) fun _=>xc (aU hq.1.1 hrest) fun _=>xd (hcs _ _ _ _) fun _=>⟨swF_ok,⟨pushS_ok (by omega) (by omega),fun v7=>⟨aq (by rw [aJ]; omega) (ivals_app _ _),fun v8=>trivial⟩⟩⟩) (fun n t ω=>((fun v4=>(it5 0 [] [0,1,2,3,4,5] [6,7,8,9,10,11,12,13] (inR w x L it cd cx rl ro ml tl r.m k sg ts W wt ln lt (ak r D q.k) (frD w k rl x.self ro ml tl sg ts W wt (.str (S q.l) q.t) (.int cur ((ω 0).v.a 2))) (ps++[.str (S q.l) q.t]) ((ω 23).v.a 2) ((p0::ms)++[(q.k,v4.a 2)]) (em+1) tk et (cur+1) (rem-1) (some (.int q.k (v4.a 2))) ps' tk'))) (ω 3).v)) (fun n t ω=>H' 0 _ _ _ _ _ _ _) 143 [10,0,2,2,2,18,0,0,0,18,0,0,0,18,0,0,0,0,18,16,0,0,2,2,2,2,12,12,2,6,6,1,0,0,6,1,34,34,34,999,6,32,1,32,1,0,0,32,1,32,1,2,18,0,0,0,18,0,0,0,18,0,0,0,0,18,16,2,0,2,6,6,6,6,12]
theorem ir4 {a0 a1 a2 a3:Int × Tok} (hD:d≤340) (hs:aR sg s4) (hq:q.good s4) (hms:(p0::ms).length≤5) (hk:∀ p∈(p0::ms),0≤p.1∧p.1<4) (hr:0<rem∧rem≤6) (hps:ps.length<100) (htk:tk.length<100) (hw:bf D q.k (p0::ms)=[a0,a1,a2,a3])
    (H:∀ (ki et ep em tx:Nat) (nm kv cz:Value),Ok w d (inR w x L it cd cx rl ro ml tl r.m k sg ts W wt ln lt (r.led D) (frD w k rl x.self ro ml tl sg ts W wt nm kv) (ps++[.str (S q.l) q.t]) ep ((p0::ms)++[(q.k,tx)]) em tk et (cur+1) (rem-1) (some cz) ps' tk')) :
    Ok w d (inR w x L it cd cx rl ro ml tl r.m k sg ts W wt ln lt (r.led D) (frD w k rl x.self ro ml tl sg ts W wt nm kv) (.str (S q.l) q.t::ps) ep (p0::ms) em tk et cur rem cv ps' tk'):=by
  obtain ⟨rest,hrest⟩:=hs.idx q.k hq.1.1 hq.1.2
  have hcs:∀ it acc dct tx,Ok w (d+60) (csS w ml it acc dct cd cx L r.m (ak r D q.k) q.k tx (p0::ms) em (ah [a0,a1,a2,a3])):=fun it acc dct tx=>hw ▸ cs_ok (by omega) hms hk hq.1
  have H':∀ (ki et ep em tx:Nat) (nm kv cz:Value),Ok w d (inR w x L it cd cx rl ro ml tl r.m k sg ts W wt ln lt (ak r D q.k) (frD w k rl x.self ro ml tl sg ts W wt nm kv) (ps++[.str (S q.l) q.t]) ep ((p0::ms)++[(q.k,tx)]) em tk et (cur+1) (rem-1) (some cz) ps' tk'):=fun ki et ep em tx nm kv cz=>ao (H ki et ep em tx nm kv cz) (.cons _ (.cons _ (.cons _ (ai hq.1).symm)))
  refine ao (s:=inR w x L it cd cx rl ro ml tl r.m k sg ts W wt ln lt (ak r D q.k) (frD w k rl x.self ro ml tl sg ts W wt nm kv) (.str (S q.l) q.t::ps) ep (p0::ms) em tk et cur rem cv ps' tk') ?_ (.cons _ (.cons _ (.cons _ (ai hq.1))))
  clear H
  refine yt (fun n t=>yd 0 [] [4] [] (rngS it cur rem) fun v1=>yd 0 [] [1] [7,8] (tokP w x ln lt (S q.l) q.t ps ep) fun v2=>yd 1 [] [] [] (ay q.l (-1) q.t (v2.a 1+2) (s4.at q.k)) fun v3=>yc [] (indexKS sg [s4.at q.k] ts (v3.a 2) q.k) fun v4=>yd 1 [0,1,2] [14,15,16] [2,5,6,9,10,11,12,13] (csS w ml (v4.a 0) (v4.a 0+1) (v4.a 0+2) cd cx L r.m (ak r D q.k) q.k (v4.a 2) (p0::ms) em (ah [a0,a1,a2,a3])) fun v5=>.swap  (swF (nthS (whB (sto 20 4)) 2) 2 (.ref it) (rndE L cd cx) .Eq (v4.a 0+1) (v5.a 0)).t₀ (swF (nthS (whB (sto 20 4)) 2) 2 (.ref it) (rndE L cd cx) .Eq (v4.a 0+1) (v5.a 0)).t₁ <| yd 1 [0] [1] [7,8] (pushS w x ln lt (S q.l) q.t ps (v2.a 2)) fun v7=>yd 0 [] [2] [] (bj ml (ah (p0::ms)) em (.int q.k (v4.a 2)) (ah ((p0::ms)++[(q.k,v4.a 2)]))) fun v8=>.nil) (fun n t=>xd (aP (by omega) hr.1 hr.2) fun _=>xd (tokP_ok (by omega) (by omega)) fun _=>xd (af (last_idx hq.2.1 hq.2.2.1 hq.2.2.2) (by decide)) fun _=>xc (aU hq.1.1 hrest) fun _=>xd (hcs _ _ _ _) fun _=>⟨swF_ok,⟨pushS_ok (by omega) (by omega),fun v7=>⟨aq (by rw [aJ]; omega) (ivals_app _ _),fun v8=>trivial⟩⟩⟩) (fun n t ω=>((fun v4=>(it5 0 [] [0,1,2,3,4,5] [6,7,8,9,10,11,12,13] (inR w x L it cd cx rl ro ml tl r.m k sg ts W wt ln lt (ak r D q.k) (frD w k rl x.self ro ml tl sg ts W wt (.str (S q.l) q.t) (.int cur ((ω 0).v.a 2))) (ps++[.str (S q.l) q.t]) ((ω 23).v.a 2) ((p0::ms)++[(q.k,v4.a 2)]) (em+1) tk et (cur+1) (rem-1) (some (.int q.k (v4.a 2))) ps' tk'))) (ω 3).v)) (fun n t ω=>H' 0 _ _ _ _ _ _ _) 143 [10,0,2,2,2,18,0,0,0,18,0,0,0,18,0,0,0,0,18,16,0,0,2,2,2,2,12,12,2,6,6,1,0,0,6,1,34,34,34,999,6,32,1,32,1,0,0,32,1,32,1,2,18,0,0,0,18,0,0,0,18,0,0,0,0,18,16,2,0,2,6,6,6,6,12]
theorem ir5 {a0 a1 a2 a3 a4:Int × Tok} (hD:d≤340) (hs:aR sg s4) (hq:q.good s4) (hms:(p0::ms).length≤5) (hk:∀ p∈(p0::ms),0≤p.1∧p.1<4) (hr:0<rem∧rem≤6) (hps:ps.length<100) (htk:tk.length<100) (hw:bf D q.k (p0::ms)=[a0,a1,a2,a3,a4])
    (H:∀ (ki et ep em tx:Nat) (nm kv cz:Value),Ok w d (inR w x L it cd cx rl ro ml tl r.m k sg ts W wt ln lt (r.led D) (frD w k rl x.self ro ml tl sg ts W wt nm kv) (ps++[.str (S q.l) q.t]) ep ((p0::ms)++[(q.k,tx)]) em tk et (cur+1) (rem-1) (some cz) ps' tk')) :
    Ok w d (inR w x L it cd cx rl ro ml tl r.m k sg ts W wt ln lt (r.led D) (frD w k rl x.self ro ml tl sg ts W wt nm kv) (.str (S q.l) q.t::ps) ep (p0::ms) em tk et cur rem cv ps' tk'):=by
  obtain ⟨rest,hrest⟩:=hs.idx q.k hq.1.1 hq.1.2
  have hcs:∀ it acc dct tx,Ok w (d+60) (csS w ml it acc dct cd cx L r.m (ak r D q.k) q.k tx (p0::ms) em (ah [a0,a1,a2,a3,a4])):=fun it acc dct tx=>hw ▸ cs_ok (by omega) hms hk hq.1
  have H':∀ (ki et ep em tx:Nat) (nm kv cz:Value),Ok w d (inR w x L it cd cx rl ro ml tl r.m k sg ts W wt ln lt (ak r D q.k) (frD w k rl x.self ro ml tl sg ts W wt nm kv) (ps++[.str (S q.l) q.t]) ep ((p0::ms)++[(q.k,tx)]) em tk et (cur+1) (rem-1) (some cz) ps' tk'):=fun ki et ep em tx nm kv cz=>ao (H ki et ep em tx nm kv cz) (.cons _ (.cons _ (.cons _ (ai hq.1).symm)))
  refine ao (s:=inR w x L it cd cx rl ro ml tl r.m k sg ts W wt ln lt (ak r D q.k) (frD w k rl x.self ro ml tl sg ts W wt nm kv) (.str (S q.l) q.t::ps) ep (p0::ms) em tk et cur rem cv ps' tk') ?_ (.cons _ (.cons _ (.cons _ (ai hq.1))))
  clear H
  refine yt (fun n t=>yd 0 [] [4] [] (rngS it cur rem) fun v1=>yd 0 [] [1] [7,8] (tokP w x ln lt (S q.l) q.t ps ep) fun v2=>yd 1 [] [] [] (ay q.l (-1) q.t (v2.a 1+2) (s4.at q.k)) fun v3=>yc [] (indexKS sg [s4.at q.k] ts (v3.a 2) q.k) fun v4=>yd 1 [0,1,2] [14,15,16] [2,5,6,9,10,11,12,13] (csS w ml (v4.a 0) (v4.a 0+1) (v4.a 0+2) cd cx L r.m (ak r D q.k) q.k (v4.a 2) (p0::ms) em (ah [a0,a1,a2,a3,a4])) fun v5=>.swap  (swF (nthS (whB (sto 20 4)) 2) 2 (.ref it) (rndE L cd cx) .Eq (v4.a 0+1) (v5.a 0)).t₀ (swF (nthS (whB (sto 20 4)) 2) 2 (.ref it) (rndE L cd cx) .Eq (v4.a 0+1) (v5.a 0)).t₁ <| yd 1 [0] [1] [7,8] (pushS w x ln lt (S q.l) q.t ps (v2.a 2)) fun v7=>yd 0 [] [2] [] (bj ml (ah (p0::ms)) em (.int q.k (v4.a 2)) (ah ((p0::ms)++[(q.k,v4.a 2)]))) fun v8=>.nil) (fun n t=>xd (aP (by omega) hr.1 hr.2) fun _=>xd (tokP_ok (by omega) (by omega)) fun _=>xd (af (last_idx hq.2.1 hq.2.2.1 hq.2.2.2) (by decide)) fun _=>xc (aU hq.1.1 hrest) fun _=>xd (hcs _ _ _ _) fun _=>⟨swF_ok,⟨pushS_ok (by omega) (by omega),fun v7=>⟨aq (by rw [aJ]; omega) (ivals_app _ _),fun v8=>trivial⟩⟩⟩) (fun n t ω=>((fun v4=>(it5 0 [] [0,1,2,3,4,5] [6,7,8,9,10,11,12,13] (inR w x L it cd cx rl ro ml tl r.m k sg ts W wt ln lt (ak r D q.k) (frD w k rl x.self ro ml tl sg ts W wt (.str (S q.l) q.t) (.int cur ((ω 0).v.a 2))) (ps++[.str (S q.l) q.t]) ((ω 23).v.a 2) ((p0::ms)++[(q.k,v4.a 2)]) (em+1) tk et (cur+1) (rem-1) (some (.int q.k (v4.a 2))) ps' tk'))) (ω 3).v)) (fun n t ω=>H' 0 _ _ _ _ _ _ _) 143 [10,0,2,2,2,18,0,0,0,18,0,0,0,18,0,0,0,0,18,16,0,0,2,2,2,2,12,12,2,6,6,1,0,0,6,1,34,34,34,999,6,32,1,32,1,0,0,32,1,32,1,2,18,0,0,0,18,0,0,0,18,0,0,0,0,18,16,2,0,2,6,6,6,6,12]
end
section
variable {s4:V4 Nat} {w:World} {d:Nat} {x:Lx} {L it cd cx rl ro ml tl:Addr} {r:R4} {D:Dp} {k:Tk} {sg:List Nat} {ts:Tok} {W:Int} {wt:Tok} {ln:Int} {lt:Tok} {rows:Led} {ps:List Value} {ep:Nat} {ms:List (Int × Tok)} {em:Nat} {tk:List Value} {et:Nat} {cur rem:Int} {cv:Option Value} {ps' tk':List Value} {nm kv:Value} {q:Nm}
theorem in_exit {cz:Value} (hD:d≤700):Ok w d (inR w x L it cd cx rl ro ml tl r.m k sg ts W wt ln lt (r.led D) (frD w k rl x.self ro ml tl sg ts W wt nm kv) ps ep ms em tk et cur 0 (some cz) ps tk):=by
  refine yv (fun n t=>.nil) (fun n t=>trivial) 15 [10,10,10,10,10,3] (fun n t ω=>nu [(n+2),t,ep,et,k.i] [lst ⟨ah ms⟩ em,rangeO cur 0] [nm,kv,cz])
noncomputable def aY (D:Dp):Nat→List Nm→List Int→List Nm→List Nm→List Nm × List Nm
  | 0,qs,_,tk,wt=>(tk,qs++wt)
  | _+1,[],_,tk,wt=>(tk,wt)
  | n+1,q::qs,ms,tk,wt=>if (ms.filter fun y=>D.m q.k y).isEmpty then aY D n qs (ms++[q.k]) (tk++[q]) wt else aY D n qs (ms++[q.k]) tk (wt++[q])
theorem nvals_app:∀ a b:List Nm,ae (a++b)=ae a++ae b
  | [],_=>rfl
  | p::a,b=>congrArg (Value.str (S p.l) p.t::·) (nvals_app a b)
theorem ac:∀ l:List Nm,(ae l).length=l.length
  | []=>rfl
  | _::l=>congrArg (·+1) (ac l)
theorem waitF_fst (X:Int) (ms:List (Int × Tok)):(bf D X ms).map (·.1)=(ms.map (·.1)).filter fun y=>D.m X y:=by
  unfold bf
  induction ms with
  | nil=>rfl
  | cons p l ih=>
    rw [List.map_cons,List.filter_cons,List.filter_cons]
    split <;> simp_all
theorem waitF_le (X:Int) (ms:List (Int × Tok)):(bf D X ms).length≤ms.length:=List.length_filter_le _ _
theorem in_step (hD:d≤340) (hs:aR sg s4) (hq:q.good s4) (hms:ms.length≤5) (hk:∀ p∈ms,0≤p.1∧p.1<4) (hr:0<rem∧rem≤6) (hps:ps.length<100) (htk:tk.length<100)
    (H:∀ (et ep em tx:Nat) (nm kv cz:Value) (ki:Nat),Ok w d (inR w x L it cd cx rl ro ml tl r.m { k with i:=ki } sg ts W wt ln lt (r.led D) (frD w { k with i:=ki } rl x.self ro ml tl sg ts W wt nm kv) (if (bf D q.k ms).isEmpty then ps else ps++[.str (S q.l) q.t]) ep (ms++[(q.k,tx)]) em (if (bf D q.k ms).isEmpty then tk++[.str (S q.l) q.t] else tk) et (cur+1) (rem-1) (some cz) ps' tk')) :
    Ok w d (inR w x L it cd cx rl ro ml tl r.m k sg ts W wt ln lt (r.led D) (frD w k rl x.self ro ml tl sg ts W wt nm kv) (.str (S q.l) q.t::ps) ep ms em tk et cur rem cv ps' tk'):=by
  have Hk:∀ (et ep em tx:Nat) (nm kv cz:Value),Ok w d (inR w x L it cd cx rl ro ml tl r.m k sg ts W wt ln lt (r.led D) (frD w k rl x.self ro ml tl sg ts W wt nm kv) (if (bf D q.k ms).isEmpty then ps else ps++[.str (S q.l) q.t]) ep (ms++[(q.k,tx)]) em (if (bf D q.k ms).isEmpty then tk++[.str (S q.l) q.t] else tk) et (cur+1) (rem-1) (some cz) ps' tk'):=fun et ep em tx nm kv cz=>H et ep em tx nm kv cz k.i
  cases ms with
  | nil=>exact ire hD hs hq hms hk hr hps htk rfl fun _=>Hk
  | cons p0 ms=>
    have hle:=waitF_le (D:=D) q.k (p0::ms)
    clear H
    match hw:bf D q.k (p0::ms) with
    | []=>
      rw [hw] at Hk
      exact ir0 hD hs hq hms hk hr hps htk hw fun _=>Hk
    | [a0]=>rw [hw] at Hk; exact ir1 hD hs hq hms hk hr hps htk hw fun _=>Hk
    | [a0,a1]=>rw [hw] at Hk; exact ir2 hD hs hq hms hk hr hps htk hw fun _=>Hk
    | [a0,a1,a2]=>rw [hw] at Hk; exact ir3 hD hs hq hms hk hr hps htk hw fun _=>Hk
    | [a0,a1,a2,a3]=>rw [hw] at Hk; exact ir4 hD hs hq hms hk hr hps htk hw fun _=>Hk
    | [a0,a1,a2,a3,a4]=>rw [hw] at Hk; exact ir5 hD hs hq hms hk hr hps htk hw fun _=>Hk
    | _::_::_::_::_::_::_=>rw [hw] at hle; simp only [List.length_cons] at hle hms; omega
theorem in_loop (hD:d≤340) (hs:aR sg s4):∀ (n:Nat) (k:Tk) (qs wt' tk:List Nm) (ms:List (Int × Tok)) (ep em et:Nat) (cur:Int) (cz:Value) (nm kv:Value),n≤qs.length→ms.length+n≤6→(∀ p∈ms,0≤p.1∧p.1<4)→(∀ q∈qs,q.good s4)→qs.length+wt'.length<100→tk.length+n<100 →
    Ok w d (inR w x L it cd cx rl ro ml tl r.m k sg ts W wt ln lt (r.led D) (frD w k rl x.self ro ml tl sg ts W wt nm kv) (ae (qs++wt')) ep ms em (ae tk) et cur n (some cz) (ae (aY D n qs (ms.map (·.1)) tk wt').2) (ae (aY D n qs (ms.map (·.1)) tk wt').1))
  | 0,k,qs,wt',tk,ms,ep,em,et,cur,cz,nm,kv,_,_,_,_,_,_=>in_exit (by omega)
  | n+1,k,[],wt',tk,ms,ep,em,et,cur,cz,nm,kv,h,_,_,_,_,_=>absurd h (by simp)
  | n+1,k,q::qs,wt',tk,ms,ep,em,et,cur,cz,nm,kv,h,hm,hk,hq,hl,ht=>by
    rw [List.length_cons] at h hl
    have hqq:=hq q (.head _)
    refine in_step (ps:=ae (qs++wt')) hD hs hqq (by omega) hk ⟨by omega,by omega⟩ (by rw [ac,List.length_append]; omega) (by rw [ac]; omega) fun et ep em tx nm kv cz ki=>?_
    have hk':∀ p∈ms++[(q.k,tx)],0≤p.1∧p.1<4:=fun p hp=>by
      rcases List.mem_append.mp hp with hp | hp
      · exact hk p hp
      · rcases List.mem_singleton.mp hp with rfl; exact hqq.1
    have e1:((n+1:Nat):Int)-1=(n:Int):=by omega
    have hms:(ms++[(q.k,tx)]).map (·.1)=ms.map (·.1)++[q.k]:=by simp
    have hf:(bf D q.k ms).isEmpty=((ms.map (·.1)).filter fun y=>D.m q.k y).isEmpty:=by rw [← waitF_fst]; simp
    rw [hf,e1]
    unfold aY
    cases hb:((ms.map (·.1)).filter fun y=>D.m q.k y).isEmpty with
    | true=>
      have z:=in_loop hD hs n { k with i:=ki } qs wt' (tk++[q]) (ms++[(q.k,tx)]) ep em et (cur+1) cz nm kv (by omega) (by simp; omega) hk' (fun q h=>hq q (.tail _ h)) (by omega) (by simp; omega)
      rw [hms,nvals_app tk [q]] at z
      exact z
    | false=>
      have z:=in_loop hD hs n { k with i:=ki } qs (wt'++[q]) tk (ms++[(q.k,tx)]) ep em et (cur+1) cz nm kv (by omega) (by simp; omega) hk' (fun q h=>hq q (.tail _ h)) (by simp; omega) (by omega)
      rw [hms,← List.append_assoc,nvals_app (qs++wt') [q]] at z
      exact z
end
theorem fnCode {w:World} {A:Around} {s:Shared} {R:Result→Shared→Prop} {id:String} {b:Builtin} {args:List Value} (hk:builtinKind id=none) (hp:plainId id=true) (hb:entryFor table id=some b) (ha:argsOk id ⟨args,[]⟩)
    (hc:wpAny (model PR w) A.in1 (b ⟨args,[]⟩) (fun fin s'=>∃ v,fin=.done (.ret v)∧R (.ok (.ret v)) s') (fun e s'=>R (.error e) s') s):codeAny (model PR w) A (.call (.builtin id) ⟨args,[]⟩) R s:=by
  refine codeAny_call_builtin hp hb ?_
  have hfin:=wpAny_mono hc (Q':=fun fin s'=>match fin with
      | .done f=>R (.ok f) s'
      | .again c'=>c'.quiet=true∧codeAny (model PR w) A c' R s')
    (fun fin s' h'=>by obtain ⟨v,rfl,hv⟩:=h'; exact hv) fun _ _ h'=>h'
  simp only [checkBuiltinCall,hk]
  cases hsig:Manifest.signature? id with
  | none=>exact wpAny_pure hfin
  | some sig=>
    simp only [argsOk,hsig] at ha
    have h2:Bind.checkArgs id sig ⟨args,[]⟩=pure ():=ha
    show wpAny _ A.in1 (Bind.checkArgs id sig ⟨args,[]⟩) _ _ s
    rw [h2]; exact wpAny_pure hfin
noncomputable def au:List (List Nat)→(Nat→Nat)→List Value
  | [],_=>[]
  | l::ls,f=>.str (S l) (f 0)::au ls fun j=>f (j+1)
theorem aO:∀ (l:List (List Nat)) (f:Nat→Nat),(au l f).length=l.length
  | [],_=>rfl
  | _::l,f=>congrArg (·+1) (aO l _)
theorem svals_of:∀ {vs:List Value} {ss:List Str},StrsAre vs ss→∃ f,vs=au (ss.map fun x=>x.cps.toList) f
  | _,_,.nil=>⟨fun _=>0,rfl⟩
  | _,_,.cons y t h=>by
    obtain ⟨f,hf⟩:=svals_of h
    refine ⟨fun j=>match j with | 0=>t | j+1=>f j,?_⟩
    subst hf
    rfl
theorem aC:∀ l:List Nm,StrsAre (ae l) (l.map fun q=>S q.l)
  | []=>.nil
  | p::l=>.cons _ _ (aC l)
noncomputable def Rises (l:List (List Nat)):Prop:=l.Pairwise fun a b=>¬ b<a
theorem ltt {a b c:List Nat} (h1:¬ b<a) (h2:¬ c<b):¬ c<a:=fun h=>by
  have:a≤b:=h1
  have:b≤c:=h2
  exact (List.le_trans ‹a≤b› ‹b≤c›:a≤c) h
theorem rising_pairwise:∀ (ss:List Str) (p:Str),risingS p ss=true→(p::ss).Pairwise fun a b=>¬ b.cps.toList<a.cps.toList
  | [],p,_=>List.pairwise_singleton _ _
  | x::r,p,h=>by
    unfold risingS at h
    rw [Bool.and_eq_true,ltCps_eq] at h
    have z:=rising_pairwise r x h.2
    refine List.pairwise_cons.mpr ⟨fun y hy=>?_,z⟩
    have hx:¬ x.cps.toList<p.cps.toList:=by simpa using h.1
    rcases List.mem_cons.mp hy with rfl | hy
    · exact hx
    · exact ltt hx ((List.pairwise_cons.mp z).1 y hy)
theorem rises_of {ss:List Str} (h:sortedS ss=true):Rises (ss.map fun x=>x.cps.toList):=by
  unfold Rises
  rw [List.pairwise_map]
  cases ss with
  | nil=>exact List.Pairwise.nil
  | cons x r=>exact rising_pairwise r x h
theorem rises_eq {a b:List (List Nat)} (ha:Rises a) (hb:Rises b) (h:a.Perm b):a=b:=by
  refine List.Perm.eq_of_pairwise (le:=fun x y=>¬ y<x) (fun x y _ _ h1 h2=>?_) ha hb h
  exact List.le_antisymm (as:=x) (bs:=y) h1 h2
noncomputable def sortS (l:Addr) (vs:List Value) (e:Nat) (ls:List (List Nat)):Sm where
  c:=bi "sorted" [.ref l]
  mpre:=[]
  rpre:=[(l,lst ⟨vs⟩ e)]
  post _:=[]
  news v:=[(v.a 2,lst ⟨au ls fun j=>v.a (j+4)⟩ (v.a 3))]
  res v:=.ok (.ret (.ref (v.a 2)))
theorem aQ {w:World} {D:Nat} {l:Addr} {e:Nat} {vs:List Value} {ss:List Str} {ls:List (List Nat)} (hS:StrsAre vs ss) (h64:vs.length<64) (hp:ls.Perm (ss.map fun x=>x.cps.toList)) (hr:Rises ls):Ok w D (sortS l vs e ls):=by
  refine ⟨fun _=>rfl,fun A s R C B K _ H=>fnCode kind_sorted plain_sorted entry_sorted (args_sorted1 _) ?_⟩
  have hl:s.heap.IsList l vs.toArray:=⟨_,K.head,rfl,_,rfl⟩
  unfold Builtin.«sorted»
  refine wpAny_bind (m:=checkCount "sorted" 1 1 _) (wpAny_pure ?_)
  refine wpAny_bind (collect_list hl ?_)
  refine wpAny_bind (wpAny_newList ?_ (by show vs.length≤sizeLine; exact Nat.le_trans (Nat.le_of_lt h64) (by decide)))
  have hsz:((s.heap.push (seqObj "list" #[] 0)).update s.heap.objs.size (Obj.mapSeq (·++vs.toArray))).objs.size=s.heap.objs.size+1:=by
    rw [Heap.size_update,size_push']
  have hoL:(((s.heap.push (seqObj "list" #[] 0)).update s.heap.objs.size (Obj.mapSeq (·++vs.toArray))).push (seqObj "list" vs.toArray 0)).get? (s.heap.objs.size+1)=some (seqObj "list" vs.toArray 0):=by
    rw [← hsz]; exact Heap.get?_push_size _ rfl
  show wpAny _ _ _ _ _ { s with heap:=((s.heap.push (seqObj "list" #[] 0)).update s.heap.objs.size (Obj.mapSeq (·++vs.toArray))).push (seqObj "list" vs.toArray 0) }
  rw [hsz]
  refine wpAny_bind (wpAny_holding (wpAny_call_entry slot_list_sort ⟨_,hoL,rfl⟩ entry_list_sort (list_sort_treeK strKind_oneLt hoL hS.keysOf (fun v₁ v₂ rest e=>keyKind_strs (by rw [← e]; exact hS)) h64 fun st' a1 a2=>⟨_,rfl,?_⟩) (args_list_sort _)))
  obtain ⟨ss',h1,h2,h3⟩:=sorted_out_str hS a1 a2
  obtain ⟨f,hf⟩:=svals_of h1
  have he:ls=ss'.map fun x=>x.cps.toList:=rises_eq hr (rises_of h3) (hp.trans (h2.map _).symm)
  obtain ⟨ep,hep⟩:=sortedAll_at s.heap vs ((arrOf st').map (·.2))
  have hlt:=Heap.lt_size hep
  refine wpAny_pure ⟨_,rfl,H { s with heap:=sortedAll s.heap vs ((arrOf st').map (·.2)) } ⟨fun j=>match j with | 0=>(sortedAll s.heap vs ((arrOf st').map (·.2))).objs.size | 1=>s.toks | 2=>s.heap.objs.size+1 | 3=>ep | j+4=>f j,fun _=>default,fun _=>.none,fun _ _=>0⟩ ⟨⟨fun b o e _=>sortedAll_old e,Nat.le_of_lt (Nat.lt_of_succ_lt hlt),rfl,rfl⟩,rfl,rfl,by simp [sortS],fun _ h=>(nomatch h),fun x hx=>?_,by simp [sortS]⟩⟩
  rcases List.mem_singleton.mp hx with rfl
  refine ⟨hep.trans ?_,Nat.le_succ _⟩
  have e1:(arrOf st').map (·.2)=⟨au ls f⟩:=by
    rw [he,← hf]
  rw [e1]
noncomputable def lenCS (l:Addr) (xs:List Value) (e:Nat) (k:Int):Sm where
  c:=bi "len" [.ref l]
  mpre:=[]
  rpre:=[(l,lst ⟨xs⟩ e)]
  post _:=[]
  news _:=[]
  res v:=.ok (.ret (.int k (v.a 2)))
theorem aE {w:World} {D:Nat} {l:Addr} {e:Nat} {xs:List Value} {k:Int} (h:xs.length≤1000) (hk:k=xs.length):Ok w D (lenCS l xs e k):=by
  subst hk
  refine ⟨fun _=>rfl,fun A st R C B K _ H=>fnCode (by decide +kernel) plain_len entry_len (args_len1 _) ?_⟩
  have hl:st.heap.IsList l ⟨xs⟩:=⟨_,K.head,rfl,_,rfl⟩
  have hz:((⟨xs⟩:Array Value).size:Int)<2 ^ 63:=by
    have:(⟨xs⟩:Array Value).size=xs.length:=rfl
    omega
  exact wpAny_len_body_list (E:=fun e s'=>R (.error e) s') (Q:=fun r s'=>R (.ok (.ret r)) s') hl hz (H _ (nu [st.heap.objs.size,st.toks+1+1,st.toks+1]) ⟨⟨fun _ _ e _=>e,Nat.le_refl _,rfl,rfl⟩,rfl,rfl,by simp [lenCS],fun _ h=>(nomatch h),fun _ h=>(nomatch h),List.nodup_nil⟩)
structure Dn where
  a:Addr
  ls:List (List Nat)
  f:Nat→Nat
  e:Nat
noncomputable def gled:List Dn→Led
  | []=>[]
  | x::l=>(x.a,lst ⟨au x.ls x.f⟩ x.e)::gled l
noncomputable def aH:List Dn→List Value
  | []=>[]
  | x::l=>aH l++[.ref x.a]
theorem ar:∀ l:List Dn,(aH l).length=l.length
  | []=>rfl
  | x::l=>by show (aH l++[_]).length=_; rw [List.length_append,ar l]; rfl
noncomputable def newsN:List (List (List Nat))→(Nat→Nat→Nat)→Led
  | [],_=>[]
  | l::ls,F=>(F 0 0,lst ⟨au l fun i=>F 0 (i+2)⟩ (F 0 1))::newsN ls fun j=>F (j+1)
noncomputable def finV (dn:List Dn):List (List (List Nat))→(Nat→Nat→Nat)→List Value
  | [],_=>aH dn
  | l::ls,F=>finV (⟨F 0 0,l,fun i=>F 0 (i+2),F 0 1⟩::dn) ls fun j=>F (j+1)
noncomputable def consF (a e:Nat) (f:Nat→Nat) (F:Nat→Nat→Nat):Nat→Nat→Nat:=fun j=>match j with
  | 0=>fun i=>match i with
    | 0=>a
    | i+1=>match i with
      | 0=>e
      | i+1=>f i
  | j+1=>F j
noncomputable def frA (w:World) (k:Tk) (rl lxa ro:Addr) (sg:List Nat) (ts:Tok) (W:Int) (wt:Tok) (nm:Value):Obj:=
  frm #[en w.params (S [114,111,119]) k.a (.ref rl),en w.params (S [115,105,103,110,115]) k.b (.str (S sg) ts),en w.params (S [108,101,120,101,114]) k.c (.ref lxa),en w.params (S [110,97,109,101]) k.d nm,en w.params (S [119,97,105,116,115]) k.e (.int W wt),en w.params (S [114,111,117,110,100,115]) k.f (.ref ro)] 6
noncomputable def tkOf (v:Nv):Tk:=⟨v.a 2,v.a 3,v.a 4,v.a 5,v.a 6,v.a 7,v.a 8,v.a 9,v.a 10⟩
noncomputable def whS (w:World) (x:Lx) (L cd cx rl ro:Addr) (r:R4) (D:Dp) (sg:List Nat) (ts:Tok) (ln:Int) (lt:Tok) (fr:Obj) (qs:List Nm) (ep:Nat) (cv:Option Value) (dn:List Dn) (er:Nat) (lv:List (List (List Nat))):Sm where
  c:=whC (sto 20 4) (rndE L cd cx)
  mpre:=[(L,fr),(x.pb,lst ⟨ae qs⟩ ep),(ro,lst ⟨aH dn⟩ er),(cx,aB cv)]
  rpre:=((cd,aB (some (.ref r.m)))::(x.dct,x.dict w ln lt)::(x.self,⟨.ref 90,some x.dct,.plain,#[]⟩)::r.led D)++gled dn
  post v:=[(L,frD w (tkOf v) rl x.self ro (v.a 11) (v.a 12) sg ts 0 (v.a 13) (v.x 0) (v.x 1)),(x.pb,lst ⟨[]⟩ (v.a 14)),(ro,lst ⟨finV dn lv v.f⟩ (v.a 15)),(cx,v.o 0)]
  news v:=newsN lv v.f
  res _:=.ok .next
section
variable {dn:List Dn} {er:Nat} {lv:List (List (List Nat))} {ls:List (List Nat)} {qs tkn wtn:List Nm} {s4:V4 Nat} {w:World} {d:Nat} {x:Lx} {L it cd cx rl ro ml tl:Addr} {r:R4} {D:Dp} {k:Tk} {sg:List Nat} {ts:Tok} {W:Int} {wt:Tok} {ln:Int} {lt:Tok} {rows:Led} {ps:List Value} {ep:Nat} {ms:List (Int × Tok)} {em:Nat} {tk:List Value} {et:Nat} {cur rem:Int} {cv:Option Value} {ps' tk':List Value} {nm kv:Value} {q:Nm}
theorem in_all (hD:d≤340) (hs:aR sg s4) (hq:∀ q∈qs,q.good s4) {n:Nat} (hl:qs.length=n) (hn:0<n∧n≤6) {tkn wtn:List Nm} (hr:aY D n qs [] [] []=(tkn,wtn)) :
    Ok w d (inR w x L it cd cx rl ro ml tl r.m k sg ts W wt ln lt (r.led D) (frD w k rl x.self ro ml tl sg ts W wt nm kv) (ae qs) ep [] em [] et cur n cv (ae wtn) (ae tkn)):=by
  cases qs with
  | nil=>
    simp at hl
    omega
  | cons q qs=>
    rw [List.length_cons] at hl
    subst hl
    have hqq:=hq q (.head _)
    refine ire (ps:=ae qs) hD hs hqq (by simp) (by simp) ⟨by omega,by omega⟩ (by rw [ac]; omega) (by simp) rfl fun _ et ep em tx nm kv cz=>?_
    have z:=in_loop (x:=x) (L:=L) (it:=it) (cd:=cd) (cx:=cx) (rl:=rl) (ro:=ro) (ml:=ml) (tl:=tl) (r:=r) (D:=D) (W:=W) (wt:=wt) (ln:=ln) (lt:=lt) (ts:=ts) (w:=w) hD hs qs.length k qs [] [q] [(q.k,tx)] ep em et (cur+1) cz nm kv (by omega) (by simp; omega) (fun p hp=>by rcases List.mem_singleton.mp hp with rfl; exact hqq.1) (fun q h=>hq q (.tail _ h)) (by simp; omega) (by simp; omega)
    have e:aY D qs.length qs [q.k] [q] []=(tkn,wtn):=by
      rw [← hr]
      show _=(if _ then _ else _)
      simp
    simp only [List.append_nil,List.map_cons,List.map_nil,e] at z
    have e1:((qs.length+1:Nat):Int)-1=(qs.length:Int):=by omega
    rw [e1]
    exact z
theorem in_first (hD:d≤340) (hs:aR sg s4) (hq:∀ q∈qs,q.good s4) {n:Nat} (hl:qs.length=n+1) (hn:n+1≤6) {tkn wtn:List Nm} (hr:aY D (n+1) qs [] [] []=(tkn,wtn)) :
    Ok w d (inR w x L it cd cx rl ro ml tl r.m k sg ts W wt ln lt (r.led D) (frD8 w k rl x.self ro ml tl sg ts W wt nm) (ae qs) ep [] em [] et cur (n+1) cv (ae wtn) (ae tkn)):=by
  cases qs with
  | nil=>simp at hl
  | cons q qs=>
    rw [List.length_cons] at hl
    have hqq:=hq q (.head _)
    refine ire8 (ps:=ae qs) hD hs hqq (by simp) (by simp) ⟨by omega,by omega⟩ (by rw [ac]; omega) (by simp) rfl fun ki et ep em tx nm kv cz=>?_
    have z:=in_loop (x:=x) (L:=L) (it:=it) (cd:=cd) (cx:=cx) (rl:=rl) (ro:=ro) (ml:=ml) (tl:=tl) (r:=r) (D:=D) (W:=W) (wt:=wt) (ln:=ln) (lt:=lt) (ts:=ts) (w:=w) hD hs n { k with i:=ki } qs [] [q] [(q.k,tx)] ep em et (cur+1) cz nm kv (by omega) (by simp; omega) (fun p hp=>by rcases List.mem_singleton.mp hp with rfl; exact hqq.1) (fun q h=>hq q (.tail _ h)) (by simp; omega) (by simp; omega)
    have e:aY D n qs [q.k] [q] []=(tkn,wtn):=by
      rw [← hr]
      show _=(if _ then _ else _)
      simp
    simp only [List.append_nil,List.map_cons,List.map_nil,e] at z
    have e1:((n:Int)+1)-1=(n:Int):=by omega
    rw [e1]
    exact z
theorem wf1 (hD:d≤280) (hs:aR sg s4) (hq:∀ q∈qs,q.good s4) (hl:qs.length=6) (hr:aY D 6 qs [] [] []=(tkn,wtn)) (ht:tkn.length=1) (hp:ls.Perm (tkn.map fun q=>q.l)) (hls:Rises ls) (hdn:dn.length<100)
    (H:∀ (k:Tk) (ml tl:Addr) (wt ep er:Nat) (nm kv cz:Value) (a e:Nat) (f:Nat→Nat),Ok w d (whS w x L cd cx rl ro r D sg ts ln lt (frD w k rl x.self ro ml tl sg ts (6-1) wt nm kv) wtn ep (some cz) (⟨a,ls,f,e⟩::dn) er lv)):Ok w d (whS w x L cd cx rl ro r D sg ts ln lt (frA w k rl x.self ro sg ts 6 wt nm) qs ep cv dn er (ls::lv)):=by
  refine ytg (((cd,aB (some (.ref r.m)))::(x.dct,x.dict w ln lt)::(x.self,⟨.ref 90,some x.dct,.plain,#[]⟩)::r.led D)) ([gled dn]) ((by simp [whS])) (fun n t=>yd 5 [0,1,2,3] [0,1,12,13,15,3] [4,5,6,7,8,9,10,11] (inR w x L (n+3) cd cx rl ro n (n+1) r.m { k with g:=t+1,h:=t+2 } sg ts 6 wt ln lt (r.led D) (frD8 w { k with g:=t+1,h:=t+2 } rl x.self ro n (n+1) sg ts 6 wt nm) (ae qs) ep [] 0 [] 0 0 6 cv (ae wtn) (ae tkn)) fun v1=>yc [13] (lenCS (n+1) (ae tkn) (v1.a 3) 1) fun v2=>yd 1 [] [] [13] (sortS (n+1) (ae tkn) (v1.a 3) ls) fun v3=>yd 0 [] [2] [] (bj ro (aH dn) er (.ref (v3.a 2)) (aH (⟨v3.a 2,ls,fun j=>v3.a (j+4),v3.a 3⟩::dn))) fun v4=>.nil) (fun n t=>xd (in_first (by omega) hs hq hl (by omega) hr) fun _=>xc (aE (by rw [ac]; omega) (by rw [ac,ht]; rfl)) fun _=>xd (aQ (aC tkn) (by rw [ac]; omega) (by rw [List.map_map]; exact hp) hls) fun _=>xd (aq (by rw [ar]; omega) rfl) fun _=>trivial) (fun n t ω=>((fun v1 v3=>⟨0,[],[0,1,2,3],[4,5,6,7,8,9,10,11,16],whS w x L cd cx rl ro r D sg ts ln lt (frD w { k with g:=t+1,h:=t+2,i:=v1.a 4 } rl x.self ro n (n+1) sg ts (6-1) ((ω 31).v.a 1) (v1.x 0) (v1.x 1)) wtn (v1.a 2) (some (v1.x 2)) (⟨v3.a 2,ls,fun j=>v3.a (j+4),v3.a 3⟩::dn) (er+1) lv,[0],some 0⟩) (ω 15).v (ω 47).v)) (fun n t ω=>H _ _ _ _ _ _ _ _ _ _ _ _) 109 [2,1,0,0,0,2,2,0,2,2,0,0,2,5,5,5,5,5,5,1,0,0,5,5,5,5,7,2,0,0,2,0,2,2,2,6,6,6,6,0,0,2] [1] (fun n t ω vz=>((fun v3=>nu [(vz.a 0),(vz.a 1),vz.a 2,vz.a 3,vz.a 4,vz.a 5,vz.a 6,vz.a 7,vz.a 8,vz.a 9,vz.a 10,vz.a 11,vz.a 12,vz.a 13,vz.a 14,vz.a 15] [vz.o 0] [vz.x 0,vz.x 1] (fun _=>0) ((consF (v3.a 2) (v3.a 3) (fun j=>v3.a (j+4)) vz.f))) (ω 47).v)) [33]
theorem wf2 (hD:d≤280) (hs:aR sg s4) (hq:∀ q∈qs,q.good s4) (hl:qs.length=6) (hr:aY D 6 qs [] [] []=(tkn,wtn)) (ht:tkn.length=2) (hp:ls.Perm (tkn.map fun q=>q.l)) (hls:Rises ls) (hdn:dn.length<100)
    (H:∀ (k:Tk) (ml tl:Addr) (wt ep er:Nat) (nm kv cz:Value) (a e:Nat) (f:Nat→Nat),Ok w d (whS w x L cd cx rl ro r D sg ts ln lt (frD w k rl x.self ro ml tl sg ts (6-2) wt nm kv) wtn ep (some cz) (⟨a,ls,f,e⟩::dn) er lv)):Ok w d (whS w x L cd cx rl ro r D sg ts ln lt (frA w k rl x.self ro sg ts 6 wt nm) qs ep cv dn er (ls::lv)):=by
  refine ytg (((cd,aB (some (.ref r.m)))::(x.dct,x.dict w ln lt)::(x.self,⟨.ref 90,some x.dct,.plain,#[]⟩)::r.led D)) ([gled dn]) ((by simp [whS])) (fun n t=>yd 5 [0,1,2,3] [0,1,12,13,15,3] [4,5,6,7,8,9,10,11] (inR w x L (n+3) cd cx rl ro n (n+1) r.m { k with g:=t+1,h:=t+2 } sg ts 6 wt ln lt (r.led D) (frD8 w { k with g:=t+1,h:=t+2 } rl x.self ro n (n+1) sg ts 6 wt nm) (ae qs) ep [] 0 [] 0 0 6 cv (ae wtn) (ae tkn)) fun v1=>yc [13] (lenCS (n+1) (ae tkn) (v1.a 3) 2) fun v2=>yd 1 [] [] [13] (sortS (n+1) (ae tkn) (v1.a 3) ls) fun v3=>yd 0 [] [2] [] (bj ro (aH dn) er (.ref (v3.a 2)) (aH (⟨v3.a 2,ls,fun j=>v3.a (j+4),v3.a 3⟩::dn))) fun v4=>.nil) (fun n t=>xd (in_first (by omega) hs hq hl (by omega) hr) fun _=>xc (aE (by rw [ac]; omega) (by rw [ac,ht]; rfl)) fun _=>xd (aQ (aC tkn) (by rw [ac]; omega) (by rw [List.map_map]; exact hp) hls) fun _=>xd (aq (by rw [ar]; omega) rfl) fun _=>trivial) (fun n t ω=>((fun v1 v3=>⟨0,[],[0,1,2,3],[4,5,6,7,8,9,10,11,16],whS w x L cd cx rl ro r D sg ts ln lt (frD w { k with g:=t+1,h:=t+2,i:=v1.a 4 } rl x.self ro n (n+1) sg ts (6-2) ((ω 31).v.a 1) (v1.x 0) (v1.x 1)) wtn (v1.a 2) (some (v1.x 2)) (⟨v3.a 2,ls,fun j=>v3.a (j+4),v3.a 3⟩::dn) (er+1) lv,[0],some 0⟩) (ω 15).v (ω 47).v)) (fun n t ω=>H _ _ _ _ _ _ _ _ _ _ _ _) 109 [2,1,0,0,0,2,2,0,2,2,0,0,2,5,5,5,5,5,5,1,0,0,5,5,5,5,7,2,0,0,2,0,2,2,2,6,6,6,6,0,0,2] [1] (fun n t ω vz=>((fun v3=>nu [(vz.a 0),(vz.a 1),vz.a 2,vz.a 3,vz.a 4,vz.a 5,vz.a 6,vz.a 7,vz.a 8,vz.a 9,vz.a 10,vz.a 11,vz.a 12,vz.a 13,vz.a 14,vz.a 15] [vz.o 0] [vz.x 0,vz.x 1] (fun _=>0) ((consF (v3.a 2) (v3.a 3) (fun j=>v3.a (j+4)) vz.f))) (ω 47).v)) [33]
theorem wf3 (hD:d≤280) (hs:aR sg s4) (hq:∀ q∈qs,q.good s4) (hl:qs.length=6) (hr:aY D 6 qs [] [] []=(tkn,wtn)) (ht:tkn.length=3) (hp:ls.Perm (tkn.map fun q=>q.l)) (hls:Rises ls) (hdn:dn.length<100)
    (H:∀ (k:Tk) (ml tl:Addr) (wt ep er:Nat) (nm kv cz:Value) (a e:Nat) (f:Nat→Nat),Ok w d (whS w x L cd cx rl ro r D sg ts ln lt (frD w k rl x.self ro ml tl sg ts (6-3) wt nm kv) wtn ep (some cz) (⟨a,ls,f,e⟩::dn) er lv)):Ok w d (whS w x L cd cx rl ro r D sg ts ln lt (frA w k rl x.self ro sg ts 6 wt nm) qs ep cv dn er (ls::lv)):=by
  refine ytg (((cd,aB (some (.ref r.m)))::(x.dct,x.dict w ln lt)::(x.self,⟨.ref 90,some x.dct,.plain,#[]⟩)::r.led D)) ([gled dn]) ((by simp [whS])) (fun n t=>yd 5 [0,1,2,3] [0,1,12,13,15,3] [4,5,6,7,8,9,10,11] (inR w x L (n+3) cd cx rl ro n (n+1) r.m { k with g:=t+1,h:=t+2 } sg ts 6 wt ln lt (r.led D) (frD8 w { k with g:=t+1,h:=t+2 } rl x.self ro n (n+1) sg ts 6 wt nm) (ae qs) ep [] 0 [] 0 0 6 cv (ae wtn) (ae tkn)) fun v1=>yc [13] (lenCS (n+1) (ae tkn) (v1.a 3) 3) fun v2=>yd 1 [] [] [13] (sortS (n+1) (ae tkn) (v1.a 3) ls) fun v3=>yd 0 [] [2] [] (bj ro (aH dn) er (.ref (v3.a 2)) (aH (⟨v3.a 2,ls,fun j=>v3.a (j+4),v3.a 3⟩::dn))) fun v4=>.nil) (fun n t=>xd (in_first (by omega) hs hq hl (by omega) hr) fun _=>xc (aE (by rw [ac]; omega) (by rw [ac,ht]; rfl)) fun _=>xd (aQ (aC tkn) (by rw [ac]; omega) (by rw [List.map_map]; exact hp) hls) fun _=>xd (aq (by rw [ar]; omega) rfl) fun _=>trivial) (fun n t ω=>((fun v1 v3=>⟨0,[],[0,1,2,3],[4,5,6,7,8,9,10,11,16],whS w x L cd cx rl ro r D sg ts ln lt (frD w { k with g:=t+1,h:=t+2,i:=v1.a 4 } rl x.self ro n (n+1) sg ts (6-3) ((ω 31).v.a 1) (v1.x 0) (v1.x 1)) wtn (v1.a 2) (some (v1.x 2)) (⟨v3.a 2,ls,fun j=>v3.a (j+4),v3.a 3⟩::dn) (er+1) lv,[0],some 0⟩) (ω 15).v (ω 47).v)) (fun n t ω=>H _ _ _ _ _ _ _ _ _ _ _ _) 109 [2,1,0,0,0,2,2,0,2,2,0,0,2,5,5,5,5,5,5,1,0,0,5,5,5,5,7,2,0,0,2,0,2,2,2,6,6,6,6,0,0,2] [1] (fun n t ω vz=>((fun v3=>nu [(vz.a 0),(vz.a 1),vz.a 2,vz.a 3,vz.a 4,vz.a 5,vz.a 6,vz.a 7,vz.a 8,vz.a 9,vz.a 10,vz.a 11,vz.a 12,vz.a 13,vz.a 14,vz.a 15] [vz.o 0] [vz.x 0,vz.x 1] (fun _=>0) ((consF (v3.a 2) (v3.a 3) (fun j=>v3.a (j+4)) vz.f))) (ω 47).v)) [33]
theorem wf4 (hD:d≤280) (hs:aR sg s4) (hq:∀ q∈qs,q.good s4) (hl:qs.length=6) (hr:aY D 6 qs [] [] []=(tkn,wtn)) (ht:tkn.length=4) (hp:ls.Perm (tkn.map fun q=>q.l)) (hls:Rises ls) (hdn:dn.length<100)
    (H:∀ (k:Tk) (ml tl:Addr) (wt ep er:Nat) (nm kv cz:Value) (a e:Nat) (f:Nat→Nat),Ok w d (whS w x L cd cx rl ro r D sg ts ln lt (frD w k rl x.self ro ml tl sg ts (6-4) wt nm kv) wtn ep (some cz) (⟨a,ls,f,e⟩::dn) er lv)):Ok w d (whS w x L cd cx rl ro r D sg ts ln lt (frA w k rl x.self ro sg ts 6 wt nm) qs ep cv dn er (ls::lv)):=by
  refine ytg (((cd,aB (some (.ref r.m)))::(x.dct,x.dict w ln lt)::(x.self,⟨.ref 90,some x.dct,.plain,#[]⟩)::r.led D)) ([gled dn]) ((by simp [whS])) (fun n t=>yd 5 [0,1,2,3] [0,1,12,13,15,3] [4,5,6,7,8,9,10,11] (inR w x L (n+3) cd cx rl ro n (n+1) r.m { k with g:=t+1,h:=t+2 } sg ts 6 wt ln lt (r.led D) (frD8 w { k with g:=t+1,h:=t+2 } rl x.self ro n (n+1) sg ts 6 wt nm) (ae qs) ep [] 0 [] 0 0 6 cv (ae wtn) (ae tkn)) fun v1=>yc [13] (lenCS (n+1) (ae tkn) (v1.a 3) 4) fun v2=>yd 1 [] [] [13] (sortS (n+1) (ae tkn) (v1.a 3) ls) fun v3=>yd 0 [] [2] [] (bj ro (aH dn) er (.ref (v3.a 2)) (aH (⟨v3.a 2,ls,fun j=>v3.a (j+4),v3.a 3⟩::dn))) fun v4=>.nil) (fun n t=>xd (in_first (by omega) hs hq hl (by omega) hr) fun _=>xc (aE (by rw [ac]; omega) (by rw [ac,ht]; rfl)) fun _=>xd (aQ (aC tkn) (by rw [ac]; omega) (by rw [List.map_map]; exact hp) hls) fun _=>xd (aq (by rw [ar]; omega) rfl) fun _=>trivial) (fun n t ω=>((fun v1 v3=>⟨0,[],[0,1,2,3],[4,5,6,7,8,9,10,11,16],whS w x L cd cx rl ro r D sg ts ln lt (frD w { k with g:=t+1,h:=t+2,i:=v1.a 4 } rl x.self ro n (n+1) sg ts (6-4) ((ω 31).v.a 1) (v1.x 0) (v1.x 1)) wtn (v1.a 2) (some (v1.x 2)) (⟨v3.a 2,ls,fun j=>v3.a (j+4),v3.a 3⟩::dn) (er+1) lv,[0],some 0⟩) (ω 15).v (ω 47).v)) (fun n t ω=>H _ _ _ _ _ _ _ _ _ _ _ _) 109 [2,1,0,0,0,2,2,0,2,2,0,0,2,5,5,5,5,5,5,1,0,0,5,5,5,5,7,2,0,0,2,0,2,2,2,6,6,6,6,0,0,2] [1] (fun n t ω vz=>((fun v3=>nu [(vz.a 0),(vz.a 1),vz.a 2,vz.a 3,vz.a 4,vz.a 5,vz.a 6,vz.a 7,vz.a 8,vz.a 9,vz.a 10,vz.a 11,vz.a 12,vz.a 13,vz.a 14,vz.a 15] [vz.o 0] [vz.x 0,vz.x 1] (fun _=>0) ((consF (v3.a 2) (v3.a 3) (fun j=>v3.a (j+4)) vz.f))) (ω 47).v)) [33]
theorem wf5 (hD:d≤280) (hs:aR sg s4) (hq:∀ q∈qs,q.good s4) (hl:qs.length=6) (hr:aY D 6 qs [] [] []=(tkn,wtn)) (ht:tkn.length=5) (hp:ls.Perm (tkn.map fun q=>q.l)) (hls:Rises ls) (hdn:dn.length<100)
    (H:∀ (k:Tk) (ml tl:Addr) (wt ep er:Nat) (nm kv cz:Value) (a e:Nat) (f:Nat→Nat),Ok w d (whS w x L cd cx rl ro r D sg ts ln lt (frD w k rl x.self ro ml tl sg ts (6-5) wt nm kv) wtn ep (some cz) (⟨a,ls,f,e⟩::dn) er lv)):Ok w d (whS w x L cd cx rl ro r D sg ts ln lt (frA w k rl x.self ro sg ts 6 wt nm) qs ep cv dn er (ls::lv)):=by
  refine ytg (((cd,aB (some (.ref r.m)))::(x.dct,x.dict w ln lt)::(x.self,⟨.ref 90,some x.dct,.plain,#[]⟩)::r.led D)) ([gled dn]) ((by simp [whS])) (fun n t=>yd 5 [0,1,2,3] [0,1,12,13,15,3] [4,5,6,7,8,9,10,11] (inR w x L (n+3) cd cx rl ro n (n+1) r.m { k with g:=t+1,h:=t+2 } sg ts 6 wt ln lt (r.led D) (frD8 w { k with g:=t+1,h:=t+2 } rl x.self ro n (n+1) sg ts 6 wt nm) (ae qs) ep [] 0 [] 0 0 6 cv (ae wtn) (ae tkn)) fun v1=>yc [13] (lenCS (n+1) (ae tkn) (v1.a 3) 5) fun v2=>yd 1 [] [] [13] (sortS (n+1) (ae tkn) (v1.a 3) ls) fun v3=>yd 0 [] [2] [] (bj ro (aH dn) er (.ref (v3.a 2)) (aH (⟨v3.a 2,ls,fun j=>v3.a (j+4),v3.a 3⟩::dn))) fun v4=>.nil) (fun n t=>xd (in_first (by omega) hs hq hl (by omega) hr) fun _=>xc (aE (by rw [ac]; omega) (by rw [ac,ht]; rfl)) fun _=>xd (aQ (aC tkn) (by rw [ac]; omega) (by rw [List.map_map]; exact hp) hls) fun _=>xd (aq (by rw [ar]; omega) rfl) fun _=>trivial) (fun n t ω=>((fun v1 v3=>⟨0,[],[0,1,2,3],[4,5,6,7,8,9,10,11,16],whS w x L cd cx rl ro r D sg ts ln lt (frD w { k with g:=t+1,h:=t+2,i:=v1.a 4 } rl x.self ro n (n+1) sg ts (6-5) ((ω 31).v.a 1) (v1.x 0) (v1.x 1)) wtn (v1.a 2) (some (v1.x 2)) (⟨v3.a 2,ls,fun j=>v3.a (j+4),v3.a 3⟩::dn) (er+1) lv,[0],some 0⟩) (ω 15).v (ω 47).v)) (fun n t ω=>H _ _ _ _ _ _ _ _ _ _ _ _) 109 [2,1,0,0,0,2,2,0,2,2,0,0,2,5,5,5,5,5,5,1,0,0,5,5,5,5,7,2,0,0,2,0,2,2,2,6,6,6,6,0,0,2] [1] (fun n t ω vz=>((fun v3=>nu [(vz.a 0),(vz.a 1),vz.a 2,vz.a 3,vz.a 4,vz.a 5,vz.a 6,vz.a 7,vz.a 8,vz.a 9,vz.a 10,vz.a 11,vz.a 12,vz.a 13,vz.a 14,vz.a 15] [vz.o 0] [vz.x 0,vz.x 1] (fun _=>0) ((consF (v3.a 2) (v3.a 3) (fun j=>v3.a (j+4)) vz.f))) (ω 47).v)) [33]
theorem wf6 (hD:d≤280) (hs:aR sg s4) (hq:∀ q∈qs,q.good s4) (hl:qs.length=6) (hr:aY D 6 qs [] [] []=(tkn,wtn)) (ht:tkn.length=6) (hp:ls.Perm (tkn.map fun q=>q.l)) (hls:Rises ls) (hdn:dn.length<100)
    (H:∀ (k:Tk) (ml tl:Addr) (wt ep er:Nat) (nm kv cz:Value) (a e:Nat) (f:Nat→Nat),Ok w d (whS w x L cd cx rl ro r D sg ts ln lt (frD w k rl x.self ro ml tl sg ts (6-6) wt nm kv) wtn ep (some cz) (⟨a,ls,f,e⟩::dn) er lv)):Ok w d (whS w x L cd cx rl ro r D sg ts ln lt (frA w k rl x.self ro sg ts 6 wt nm) qs ep cv dn er (ls::lv)):=by
  refine ytg (((cd,aB (some (.ref r.m)))::(x.dct,x.dict w ln lt)::(x.self,⟨.ref 90,some x.dct,.plain,#[]⟩)::r.led D)) ([gled dn]) ((by simp [whS])) (fun n t=>yd 5 [0,1,2,3] [0,1,12,13,15,3] [4,5,6,7,8,9,10,11] (inR w x L (n+3) cd cx rl ro n (n+1) r.m { k with g:=t+1,h:=t+2 } sg ts 6 wt ln lt (r.led D) (frD8 w { k with g:=t+1,h:=t+2 } rl x.self ro n (n+1) sg ts 6 wt nm) (ae qs) ep [] 0 [] 0 0 6 cv (ae wtn) (ae tkn)) fun v1=>yc [13] (lenCS (n+1) (ae tkn) (v1.a 3) 6) fun v2=>yd 1 [] [] [13] (sortS (n+1) (ae tkn) (v1.a 3) ls) fun v3=>yd 0 [] [2] [] (bj ro (aH dn) er (.ref (v3.a 2)) (aH (⟨v3.a 2,ls,fun j=>v3.a (j+4),v3.a 3⟩::dn))) fun v4=>.nil) (fun n t=>xd (in_first (by omega) hs hq hl (by omega) hr) fun _=>xc (aE (by rw [ac]; omega) (by rw [ac,ht]; rfl)) fun _=>xd (aQ (aC tkn) (by rw [ac]; omega) (by rw [List.map_map]; exact hp) hls) fun _=>xd (aq (by rw [ar]; omega) rfl) fun _=>trivial) (fun n t ω=>((fun v1 v3=>⟨0,[],[0,1,2,3],[4,5,6,7,8,9,10,11,16],whS w x L cd cx rl ro r D sg ts ln lt (frD w { k with g:=t+1,h:=t+2,i:=v1.a 4 } rl x.self ro n (n+1) sg ts (6-6) ((ω 31).v.a 1) (v1.x 0) (v1.x 1)) wtn (v1.a 2) (some (v1.x 2)) (⟨v3.a 2,ls,fun j=>v3.a (j+4),v3.a 3⟩::dn) (er+1) lv,[0],some 0⟩) (ω 15).v (ω 47).v)) (fun n t ω=>H _ _ _ _ _ _ _ _ _ _ _ _) 109 [2,1,0,0,0,2,2,0,2,2,0,0,2,5,5,5,5,5,5,1,0,0,5,5,5,5,7,2,0,0,2,0,2,2,2,6,6,6,6,0,0,2] [1] (fun n t ω vz=>((fun v3=>nu [(vz.a 0),(vz.a 1),vz.a 2,vz.a 3,vz.a 4,vz.a 5,vz.a 6,vz.a 7,vz.a 8,vz.a 9,vz.a 10,vz.a 11,vz.a 12,vz.a 13,vz.a 14,vz.a 15] [vz.o 0] [vz.x 0,vz.x 1] (fun _=>0) ((consF (v3.a 2) (v3.a 3) (fun j=>v3.a (j+4)) vz.f))) (ω 47).v)) [33]
theorem wl1_1 (hD:d≤280) (hs:aR sg s4) (hq:∀ q∈qs,q.good s4) (hl:qs.length=1) (hr:aY D 1 qs [] [] []=(tkn,wtn)) (ht:tkn.length=1) (hp:ls.Perm (tkn.map fun q=>q.l)) (hls:Rises ls) (hdn:dn.length<100)
    (H:∀ (k:Tk) (ml tl:Addr) (wt ep er:Nat) (nm kv cz:Value) (a e:Nat) (f:Nat→Nat),Ok w d (whS w x L cd cx rl ro r D sg ts ln lt (frD w k rl x.self ro ml tl sg ts (1-1) wt nm kv) wtn ep (some cz) (⟨a,ls,f,e⟩::dn) er lv)):Ok w d (whS w x L cd cx rl ro r D sg ts ln lt (frD w k rl x.self ro ml tl sg ts 1 wt nm kv) qs ep cv dn er (ls::lv)):=by
  refine ytg (((cd,aB (some (.ref r.m)))::(x.dct,x.dict w ln lt)::(x.self,⟨.ref 90,some x.dct,.plain,#[]⟩)::r.led D)) ([gled dn]) ((by simp [whS])) (fun n t=>yd 5 [0,1,2,3] [0,1,12,13,15,3] [4,5,6,7,8,9,10,11] (inR w x L (n+3) cd cx rl ro n (n+1) r.m k sg ts 1 wt ln lt (r.led D) (frD w k rl x.self ro n (n+1) sg ts 1 wt nm kv) (ae qs) ep [] 0 [] 0 0 1 cv (ae wtn) (ae tkn)) fun v1=>yc [13] (lenCS (n+1) (ae tkn) (v1.a 3) 1) fun v2=>yd 1 [] [] [13] (sortS (n+1) (ae tkn) (v1.a 3) ls) fun v3=>yd 0 [] [2] [] (bj ro (aH dn) er (.ref (v3.a 2)) (aH (⟨v3.a 2,ls,fun j=>v3.a (j+4),v3.a 3⟩::dn))) fun v4=>.nil) (fun n t=>xd (in_all (by omega) hs hq hl (by omega) hr) fun _=>xc (aE (by rw [ac]; omega) (by rw [ac,ht]; rfl)) fun _=>xd (aQ (aC tkn) (by rw [ac]; omega) (by rw [List.map_map]; exact hp) hls) fun _=>xd (aq (by rw [ar]; omega) rfl) fun _=>trivial) (fun n t ω=>((fun v1 v3=>⟨0,[],[0,1,2,3],[4,5,6,7,8,9,10,11,16],whS w x L cd cx rl ro r D sg ts ln lt (frD w { k with i:=v1.a 4 } rl x.self ro n (n+1) sg ts (1-1) ((ω 31).v.a 1) (v1.x 0) (v1.x 1)) wtn (v1.a 2) (some (v1.x 2)) (⟨v3.a 2,ls,fun j=>v3.a (j+4),v3.a 3⟩::dn) (er+1) lv,[0],some 0⟩) (ω 15).v (ω 47).v)) (fun n t ω=>H _ _ _ _ _ _ _ _ _ _ _ _) 109 [2,1,0,0,0,2,2,0,2,2,0,0,2,5,5,5,5,5,5,1,0,0,5,5,5,5,7,2,0,0,2,0,2,2,2,6,6,6,6,0,0,2] [1] (fun n t ω vz=>((fun v3=>nu [(vz.a 0),(vz.a 1),vz.a 2,vz.a 3,vz.a 4,vz.a 5,vz.a 6,vz.a 7,vz.a 8,vz.a 9,vz.a 10,vz.a 11,vz.a 12,vz.a 13,vz.a 14,vz.a 15] [vz.o 0] [vz.x 0,vz.x 1] (fun _=>0) ((consF (v3.a 2) (v3.a 3) (fun j=>v3.a (j+4)) vz.f))) (ω 47).v)) [33]
theorem wl2_1 (hD:d≤280) (hs:aR sg s4) (hq:∀ q∈qs,q.good s4) (hl:qs.length=2) (hr:aY D 2 qs [] [] []=(tkn,wtn)) (ht:tkn.length=1) (hp:ls.Perm (tkn.map fun q=>q.l)) (hls:Rises ls) (hdn:dn.length<100)
    (H:∀ (k:Tk) (ml tl:Addr) (wt ep er:Nat) (nm kv cz:Value) (a e:Nat) (f:Nat→Nat),Ok w d (whS w x L cd cx rl ro r D sg ts ln lt (frD w k rl x.self ro ml tl sg ts (2-1) wt nm kv) wtn ep (some cz) (⟨a,ls,f,e⟩::dn) er lv)):Ok w d (whS w x L cd cx rl ro r D sg ts ln lt (frD w k rl x.self ro ml tl sg ts 2 wt nm kv) qs ep cv dn er (ls::lv)):=by
  refine ytg (((cd,aB (some (.ref r.m)))::(x.dct,x.dict w ln lt)::(x.self,⟨.ref 90,some x.dct,.plain,#[]⟩)::r.led D)) ([gled dn]) ((by simp [whS])) (fun n t=>yd 5 [0,1,2,3] [0,1,12,13,15,3] [4,5,6,7,8,9,10,11] (inR w x L (n+3) cd cx rl ro n (n+1) r.m k sg ts 2 wt ln lt (r.led D) (frD w k rl x.self ro n (n+1) sg ts 2 wt nm kv) (ae qs) ep [] 0 [] 0 0 2 cv (ae wtn) (ae tkn)) fun v1=>yc [13] (lenCS (n+1) (ae tkn) (v1.a 3) 1) fun v2=>yd 1 [] [] [13] (sortS (n+1) (ae tkn) (v1.a 3) ls) fun v3=>yd 0 [] [2] [] (bj ro (aH dn) er (.ref (v3.a 2)) (aH (⟨v3.a 2,ls,fun j=>v3.a (j+4),v3.a 3⟩::dn))) fun v4=>.nil) (fun n t=>xd (in_all (by omega) hs hq hl (by omega) hr) fun _=>xc (aE (by rw [ac]; omega) (by rw [ac,ht]; rfl)) fun _=>xd (aQ (aC tkn) (by rw [ac]; omega) (by rw [List.map_map]; exact hp) hls) fun _=>xd (aq (by rw [ar]; omega) rfl) fun _=>trivial) (fun n t ω=>((fun v1 v3=>⟨0,[],[0,1,2,3],[4,5,6,7,8,9,10,11,16],whS w x L cd cx rl ro r D sg ts ln lt (frD w { k with i:=v1.a 4 } rl x.self ro n (n+1) sg ts (2-1) ((ω 31).v.a 1) (v1.x 0) (v1.x 1)) wtn (v1.a 2) (some (v1.x 2)) (⟨v3.a 2,ls,fun j=>v3.a (j+4),v3.a 3⟩::dn) (er+1) lv,[0],some 0⟩) (ω 15).v (ω 47).v)) (fun n t ω=>H _ _ _ _ _ _ _ _ _ _ _ _) 109 [2,1,0,0,0,2,2,0,2,2,0,0,2,5,5,5,5,5,5,1,0,0,5,5,5,5,7,2,0,0,2,0,2,2,2,6,6,6,6,0,0,2] [1] (fun n t ω vz=>((fun v3=>nu [(vz.a 0),(vz.a 1),vz.a 2,vz.a 3,vz.a 4,vz.a 5,vz.a 6,vz.a 7,vz.a 8,vz.a 9,vz.a 10,vz.a 11,vz.a 12,vz.a 13,vz.a 14,vz.a 15] [vz.o 0] [vz.x 0,vz.x 1] (fun _=>0) ((consF (v3.a 2) (v3.a 3) (fun j=>v3.a (j+4)) vz.f))) (ω 47).v)) [33]
theorem wl2_2 (hD:d≤280) (hs:aR sg s4) (hq:∀ q∈qs,q.good s4) (hl:qs.length=2) (hr:aY D 2 qs [] [] []=(tkn,wtn)) (ht:tkn.length=2) (hp:ls.Perm (tkn.map fun q=>q.l)) (hls:Rises ls) (hdn:dn.length<100)
    (H:∀ (k:Tk) (ml tl:Addr) (wt ep er:Nat) (nm kv cz:Value) (a e:Nat) (f:Nat→Nat),Ok w d (whS w x L cd cx rl ro r D sg ts ln lt (frD w k rl x.self ro ml tl sg ts (2-2) wt nm kv) wtn ep (some cz) (⟨a,ls,f,e⟩::dn) er lv)):Ok w d (whS w x L cd cx rl ro r D sg ts ln lt (frD w k rl x.self ro ml tl sg ts 2 wt nm kv) qs ep cv dn er (ls::lv)):=by
  refine ytg (((cd,aB (some (.ref r.m)))::(x.dct,x.dict w ln lt)::(x.self,⟨.ref 90,some x.dct,.plain,#[]⟩)::r.led D)) ([gled dn]) ((by simp [whS])) (fun n t=>yd 5 [0,1,2,3] [0,1,12,13,15,3] [4,5,6,7,8,9,10,11] (inR w x L (n+3) cd cx rl ro n (n+1) r.m k sg ts 2 wt ln lt (r.led D) (frD w k rl x.self ro n (n+1) sg ts 2 wt nm kv) (ae qs) ep [] 0 [] 0 0 2 cv (ae wtn) (ae tkn)) fun v1=>yc [13] (lenCS (n+1) (ae tkn) (v1.a 3) 2) fun v2=>yd 1 [] [] [13] (sortS (n+1) (ae tkn) (v1.a 3) ls) fun v3=>yd 0 [] [2] [] (bj ro (aH dn) er (.ref (v3.a 2)) (aH (⟨v3.a 2,ls,fun j=>v3.a (j+4),v3.a 3⟩::dn))) fun v4=>.nil) (fun n t=>xd (in_all (by omega) hs hq hl (by omega) hr) fun _=>xc (aE (by rw [ac]; omega) (by rw [ac,ht]; rfl)) fun _=>xd (aQ (aC tkn) (by rw [ac]; omega) (by rw [List.map_map]; exact hp) hls) fun _=>xd (aq (by rw [ar]; omega) rfl) fun _=>trivial) (fun n t ω=>((fun v1 v3=>⟨0,[],[0,1,2,3],[4,5,6,7,8,9,10,11,16],whS w x L cd cx rl ro r D sg ts ln lt (frD w { k with i:=v1.a 4 } rl x.self ro n (n+1) sg ts (2-2) ((ω 31).v.a 1) (v1.x 0) (v1.x 1)) wtn (v1.a 2) (some (v1.x 2)) (⟨v3.a 2,ls,fun j=>v3.a (j+4),v3.a 3⟩::dn) (er+1) lv,[0],some 0⟩) (ω 15).v (ω 47).v)) (fun n t ω=>H _ _ _ _ _ _ _ _ _ _ _ _) 109 [2,1,0,0,0,2,2,0,2,2,0,0,2,5,5,5,5,5,5,1,0,0,5,5,5,5,7,2,0,0,2,0,2,2,2,6,6,6,6,0,0,2] [1] (fun n t ω vz=>((fun v3=>nu [(vz.a 0),(vz.a 1),vz.a 2,vz.a 3,vz.a 4,vz.a 5,vz.a 6,vz.a 7,vz.a 8,vz.a 9,vz.a 10,vz.a 11,vz.a 12,vz.a 13,vz.a 14,vz.a 15] [vz.o 0] [vz.x 0,vz.x 1] (fun _=>0) ((consF (v3.a 2) (v3.a 3) (fun j=>v3.a (j+4)) vz.f))) (ω 47).v)) [33]
theorem wl3_1 (hD:d≤280) (hs:aR sg s4) (hq:∀ q∈qs,q.good s4) (hl:qs.length=3) (hr:aY D 3 qs [] [] []=(tkn,wtn)) (ht:tkn.length=1) (hp:ls.Perm (tkn.map fun q=>q.l)) (hls:Rises ls) (hdn:dn.length<100)
    (H:∀ (k:Tk) (ml tl:Addr) (wt ep er:Nat) (nm kv cz:Value) (a e:Nat) (f:Nat→Nat),Ok w d (whS w x L cd cx rl ro r D sg ts ln lt (frD w k rl x.self ro ml tl sg ts (3-1) wt nm kv) wtn ep (some cz) (⟨a,ls,f,e⟩::dn) er lv)):Ok w d (whS w x L cd cx rl ro r D sg ts ln lt (frD w k rl x.self ro ml tl sg ts 3 wt nm kv) qs ep cv dn er (ls::lv)):=by
  refine ytg (((cd,aB (some (.ref r.m)))::(x.dct,x.dict w ln lt)::(x.self,⟨.ref 90,some x.dct,.plain,#[]⟩)::r.led D)) ([gled dn]) ((by simp [whS])) (fun n t=>yd 5 [0,1,2,3] [0,1,12,13,15,3] [4,5,6,7,8,9,10,11] (inR w x L (n+3) cd cx rl ro n (n+1) r.m k sg ts 3 wt ln lt (r.led D) (frD w k rl x.self ro n (n+1) sg ts 3 wt nm kv) (ae qs) ep [] 0 [] 0 0 3 cv (ae wtn) (ae tkn)) fun v1=>yc [13] (lenCS (n+1) (ae tkn) (v1.a 3) 1) fun v2=>yd 1 [] [] [13] (sortS (n+1) (ae tkn) (v1.a 3) ls) fun v3=>yd 0 [] [2] [] (bj ro (aH dn) er (.ref (v3.a 2)) (aH (⟨v3.a 2,ls,fun j=>v3.a (j+4),v3.a 3⟩::dn))) fun v4=>.nil) (fun n t=>xd (in_all (by omega) hs hq hl (by omega) hr) fun _=>xc (aE (by rw [ac]; omega) (by rw [ac,ht]; rfl)) fun _=>xd (aQ (aC tkn) (by rw [ac]; omega) (by rw [List.map_map]; exact hp) hls) fun _=>xd (aq (by rw [ar]; omega) rfl) fun _=>trivial) (fun n t ω=>((fun v1 v3=>⟨0,[],[0,1,2,3],[4,5,6,7,8,9,10,11,16],whS w x L cd cx rl ro r D sg ts ln lt (frD w { k with i:=v1.a 4 } rl x.self ro n (n+1) sg ts (3-1) ((ω 31).v.a 1) (v1.x 0) (v1.x 1)) wtn (v1.a 2) (some (v1.x 2)) (⟨v3.a 2,ls,fun j=>v3.a (j+4),v3.a 3⟩::dn) (er+1) lv,[0],some 0⟩) (ω 15).v (ω 47).v)) (fun n t ω=>H _ _ _ _ _ _ _ _ _ _ _ _) 109 [2,1,0,0,0,2,2,0,2,2,0,0,2,5,5,5,5,5,5,1,0,0,5,5,5,5,7,2,0,0,2,0,2,2,2,6,6,6,6,0,0,2] [1] (fun n t ω vz=>((fun v3=>nu [(vz.a 0),(vz.a 1),vz.a 2,vz.a 3,vz.a 4,vz.a 5,vz.a 6,vz.a 7,vz.a 8,vz.a 9,vz.a 10,vz.a 11,vz.a 12,vz.a 13,vz.a 14,vz.a 15] [vz.o 0] [vz.x 0,vz.x 1] (fun _=>0) ((consF (v3.a 2) (v3.a 3) (fun j=>v3.a (j+4)) vz.f))) (ω 47).v)) [33]
theorem wl3_2 (hD:d≤280) (hs:aR sg s4) (hq:∀ q∈qs,q.good s4) (hl:qs.length=3) (hr:aY D 3 qs [] [] []=(tkn,wtn)) (ht:tkn.length=2) (hp:ls.Perm (tkn.map fun q=>q.l)) (hls:Rises ls) (hdn:dn.length<100)
    (H:∀ (k:Tk) (ml tl:Addr) (wt ep er:Nat) (nm kv cz:Value) (a e:Nat) (f:Nat→Nat),Ok w d (whS w x L cd cx rl ro r D sg ts ln lt (frD w k rl x.self ro ml tl sg ts (3-2) wt nm kv) wtn ep (some cz) (⟨a,ls,f,e⟩::dn) er lv)):Ok w d (whS w x L cd cx rl ro r D sg ts ln lt (frD w k rl x.self ro ml tl sg ts 3 wt nm kv) qs ep cv dn er (ls::lv)):=by
  refine ytg (((cd,aB (some (.ref r.m)))::(x.dct,x.dict w ln lt)::(x.self,⟨.ref 90,some x.dct,.plain,#[]⟩)::r.led D)) ([gled dn]) ((by simp [whS])) (fun n t=>yd 5 [0,1,2,3] [0,1,12,13,15,3] [4,5,6,7,8,9,10,11] (inR w x L (n+3) cd cx rl ro n (n+1) r.m k sg ts 3 wt ln lt (r.led D) (frD w k rl x.self ro n (n+1) sg ts 3 wt nm kv) (ae qs) ep [] 0 [] 0 0 3 cv (ae wtn) (ae tkn)) fun v1=>yc [13] (lenCS (n+1) (ae tkn) (v1.a 3) 2) fun v2=>yd 1 [] [] [13] (sortS (n+1) (ae tkn) (v1.a 3) ls) fun v3=>yd 0 [] [2] [] (bj ro (aH dn) er (.ref (v3.a 2)) (aH (⟨v3.a 2,ls,fun j=>v3.a (j+4),v3.a 3⟩::dn))) fun v4=>.nil) (fun n t=>xd (in_all (by omega) hs hq hl (by omega) hr) fun _=>xc (aE (by rw [ac]; omega) (by rw [ac,ht]; rfl)) fun _=>xd (aQ (aC tkn) (by rw [ac]; omega) (by rw [List.map_map]; exact hp) hls) fun _=>xd (aq (by rw [ar]; omega) rfl) fun _=>trivial) (fun n t ω=>((fun v1 v3=>⟨0,[],[0,1,2,3],[4,5,6,7,8,9,10,11,16],whS w x L cd cx rl ro r D sg ts ln lt (frD w { k with i:=v1.a 4 } rl x.self ro n (n+1) sg ts (3-2) ((ω 31).v.a 1) (v1.x 0) (v1.x 1)) wtn (v1.a 2) (some (v1.x 2)) (⟨v3.a 2,ls,fun j=>v3.a (j+4),v3.a 3⟩::dn) (er+1) lv,[0],some 0⟩) (ω 15).v (ω 47).v)) (fun n t ω=>H _ _ _ _ _ _ _ _ _ _ _ _) 109 [2,1,0,0,0,2,2,0,2,2,0,0,2,5,5,5,5,5,5,1,0,0,5,5,5,5,7,2,0,0,2,0,2,2,2,6,6,6,6,0,0,2] [1] (fun n t ω vz=>((fun v3=>nu [(vz.a 0),(vz.a 1),vz.a 2,vz.a 3,vz.a 4,vz.a 5,vz.a 6,vz.a 7,vz.a 8,vz.a 9,vz.a 10,vz.a 11,vz.a 12,vz.a 13,vz.a 14,vz.a 15] [vz.o 0] [vz.x 0,vz.x 1] (fun _=>0) ((consF (v3.a 2) (v3.a 3) (fun j=>v3.a (j+4)) vz.f))) (ω 47).v)) [33]
theorem wl3_3 (hD:d≤280) (hs:aR sg s4) (hq:∀ q∈qs,q.good s4) (hl:qs.length=3) (hr:aY D 3 qs [] [] []=(tkn,wtn)) (ht:tkn.length=3) (hp:ls.Perm (tkn.map fun q=>q.l)) (hls:Rises ls) (hdn:dn.length<100)
    (H:∀ (k:Tk) (ml tl:Addr) (wt ep er:Nat) (nm kv cz:Value) (a e:Nat) (f:Nat→Nat),Ok w d (whS w x L cd cx rl ro r D sg ts ln lt (frD w k rl x.self ro ml tl sg ts (3-3) wt nm kv) wtn ep (some cz) (⟨a,ls,f,e⟩::dn) er lv)):Ok w d (whS w x L cd cx rl ro r D sg ts ln lt (frD w k rl x.self ro ml tl sg ts 3 wt nm kv) qs ep cv dn er (ls::lv)):=by
  refine ytg (((cd,aB (some (.ref r.m)))::(x.dct,x.dict w ln lt)::(x.self,⟨.ref 90,some x.dct,.plain,#[]⟩)::r.led D)) ([gled dn]) ((by simp [whS])) (fun n t=>yd 5 [0,1,2,3] [0,1,12,13,15,3] [4,5,6,7,8,9,10,11] (inR w x L (n+3) cd cx rl ro n (n+1) r.m k sg ts 3 wt ln lt (r.led D) (frD w k rl x.self ro n (n+1) sg ts 3 wt nm kv) (ae qs) ep [] 0 [] 0 0 3 cv (ae wtn) (ae tkn)) fun v1=>yc [13] (lenCS (n+1) (ae tkn) (v1.a 3) 3) fun v2=>yd 1 [] [] [13] (sortS (n+1) (ae tkn) (v1.a 3) ls) fun v3=>yd 0 [] [2] [] (bj ro (aH dn) er (.ref (v3.a 2)) (aH (⟨v3.a 2,ls,fun j=>v3.a (j+4),v3.a 3⟩::dn))) fun v4=>.nil) (fun n t=>xd (in_all (by omega) hs hq hl (by omega) hr) fun _=>xc (aE (by rw [ac]; omega) (by rw [ac,ht]; rfl)) fun _=>xd (aQ (aC tkn) (by rw [ac]; omega) (by rw [List.map_map]; exact hp) hls) fun _=>xd (aq (by rw [ar]; omega) rfl) fun _=>trivial) (fun n t ω=>((fun v1 v3=>⟨0,[],[0,1,2,3],[4,5,6,7,8,9,10,11,16],whS w x L cd cx rl ro r D sg ts ln lt (frD w { k with i:=v1.a 4 } rl x.self ro n (n+1) sg ts (3-3) ((ω 31).v.a 1) (v1.x 0) (v1.x 1)) wtn (v1.a 2) (some (v1.x 2)) (⟨v3.a 2,ls,fun j=>v3.a (j+4),v3.a 3⟩::dn) (er+1) lv,[0],some 0⟩) (ω 15).v (ω 47).v)) (fun n t ω=>H _ _ _ _ _ _ _ _ _ _ _ _) 109 [2,1,0,0,0,2,2,0,2,2,0,0,2,5,5,5,5,5,5,1,0,0,5,5,5,5,7,2,0,0,2,0,2,2,2,6,6,6,6,0,0,2] [1] (fun n t ω vz=>((fun v3=>nu [(vz.a 0),(vz.a 1),vz.a 2,vz.a 3,vz.a 4,vz.a 5,vz.a 6,vz.a 7,vz.a 8,vz.a 9,vz.a 10,vz.a 11,vz.a 12,vz.a 13,vz.a 14,vz.a 15] [vz.o 0] [vz.x 0,vz.x 1] (fun _=>0) ((consF (v3.a 2) (v3.a 3) (fun j=>v3.a (j+4)) vz.f))) (ω 47).v)) [33]
theorem wl4_1 (hD:d≤280) (hs:aR sg s4) (hq:∀ q∈qs,q.good s4) (hl:qs.length=4) (hr:aY D 4 qs [] [] []=(tkn,wtn)) (ht:tkn.length=1) (hp:ls.Perm (tkn.map fun q=>q.l)) (hls:Rises ls) (hdn:dn.length<100)
    (H:∀ (k:Tk) (ml tl:Addr) (wt ep er:Nat) (nm kv cz:Value) (a e:Nat) (f:Nat→Nat),Ok w d (whS w x L cd cx rl ro r D sg ts ln lt (frD w k rl x.self ro ml tl sg ts (4-1) wt nm kv) wtn ep (some cz) (⟨a,ls,f,e⟩::dn) er lv)):Ok w d (whS w x L cd cx rl ro r D sg ts ln lt (frD w k rl x.self ro ml tl sg ts 4 wt nm kv) qs ep cv dn er (ls::lv)):=by
  refine ytg (((cd,aB (some (.ref r.m)))::(x.dct,x.dict w ln lt)::(x.self,⟨.ref 90,some x.dct,.plain,#[]⟩)::r.led D)) ([gled dn]) ((by simp [whS])) (fun n t=>yd 5 [0,1,2,3] [0,1,12,13,15,3] [4,5,6,7,8,9,10,11] (inR w x L (n+3) cd cx rl ro n (n+1) r.m k sg ts 4 wt ln lt (r.led D) (frD w k rl x.self ro n (n+1) sg ts 4 wt nm kv) (ae qs) ep [] 0 [] 0 0 4 cv (ae wtn) (ae tkn)) fun v1=>yc [13] (lenCS (n+1) (ae tkn) (v1.a 3) 1) fun v2=>yd 1 [] [] [13] (sortS (n+1) (ae tkn) (v1.a 3) ls) fun v3=>yd 0 [] [2] [] (bj ro (aH dn) er (.ref (v3.a 2)) (aH (⟨v3.a 2,ls,fun j=>v3.a (j+4),v3.a 3⟩::dn))) fun v4=>.nil) (fun n t=>xd (in_all (by omega) hs hq hl (by omega) hr) fun _=>xc (aE (by rw [ac]; omega) (by rw [ac,ht]; rfl)) fun _=>xd (aQ (aC tkn) (by rw [ac]; omega) (by rw [List.map_map]; exact hp) hls) fun _=>xd (aq (by rw [ar]; omega) rfl) fun _=>trivial) (fun n t ω=>((fun v1 v3=>⟨0,[],[0,1,2,3],[4,5,6,7,8,9,10,11,16],whS w x L cd cx rl ro r D sg ts ln lt (frD w { k with i:=v1.a 4 } rl x.self ro n (n+1) sg ts (4-1) ((ω 31).v.a 1) (v1.x 0) (v1.x 1)) wtn (v1.a 2) (some (v1.x 2)) (⟨v3.a 2,ls,fun j=>v3.a (j+4),v3.a 3⟩::dn) (er+1) lv,[0],some 0⟩) (ω 15).v (ω 47).v)) (fun n t ω=>H _ _ _ _ _ _ _ _ _ _ _ _) 109 [2,1,0,0,0,2,2,0,2,2,0,0,2,5,5,5,5,5,5,1,0,0,5,5,5,5,7,2,0,0,2,0,2,2,2,6,6,6,6,0,0,2] [1] (fun n t ω vz=>((fun v3=>nu [(vz.a 0),(vz.a 1),vz.a 2,vz.a 3,vz.a 4,vz.a 5,vz.a 6,vz.a 7,vz.a 8,vz.a 9,vz.a 10,vz.a 11,vz.a 12,vz.a 13,vz.a 14,vz.a 15] [vz.o 0] [vz.x 0,vz.x 1] (fun _=>0) ((consF (v3.a 2) (v3.a 3) (fun j=>v3.a (j+4)) vz.f))) (ω 47).v)) [33]
theorem wl4_2 (hD:d≤280) (hs:aR sg s4) (hq:∀ q∈qs,q.good s4) (hl:qs.length=4) (hr:aY D 4 qs [] [] []=(tkn,wtn)) (ht:tkn.length=2) (hp:ls.Perm (tkn.map fun q=>q.l)) (hls:Rises ls) (hdn:dn.length<100)
    (H:∀ (k:Tk) (ml tl:Addr) (wt ep er:Nat) (nm kv cz:Value) (a e:Nat) (f:Nat→Nat),Ok w d (whS w x L cd cx rl ro r D sg ts ln lt (frD w k rl x.self ro ml tl sg ts (4-2) wt nm kv) wtn ep (some cz) (⟨a,ls,f,e⟩::dn) er lv)):Ok w d (whS w x L cd cx rl ro r D sg ts ln lt (frD w k rl x.self ro ml tl sg ts 4 wt nm kv) qs ep cv dn er (ls::lv)):=by
  refine ytg (((cd,aB (some (.ref r.m)))::(x.dct,x.dict w ln lt)::(x.self,⟨.ref 90,some x.dct,.plain,#[]⟩)::r.led D)) ([gled dn]) ((by simp [whS])) (fun n t=>yd 5 [0,1,2,3] [0,1,12,13,15,3] [4,5,6,7,8,9,10,11] (inR w x L (n+3) cd cx rl ro n (n+1) r.m k sg ts 4 wt ln lt (r.led D) (frD w k rl x.self ro n (n+1) sg ts 4 wt nm kv) (ae qs) ep [] 0 [] 0 0 4 cv (ae wtn) (ae tkn)) fun v1=>yc [13] (lenCS (n+1) (ae tkn) (v1.a 3) 2) fun v2=>yd 1 [] [] [13] (sortS (n+1) (ae tkn) (v1.a 3) ls) fun v3=>yd 0 [] [2] [] (bj ro (aH dn) er (.ref (v3.a 2)) (aH (⟨v3.a 2,ls,fun j=>v3.a (j+4),v3.a 3⟩::dn))) fun v4=>.nil) (fun n t=>xd (in_all (by omega) hs hq hl (by omega) hr) fun _=>xc (aE (by rw [ac]; omega) (by rw [ac,ht]; rfl)) fun _=>xd (aQ (aC tkn) (by rw [ac]; omega) (by rw [List.map_map]; exact hp) hls) fun _=>xd (aq (by rw [ar]; omega) rfl) fun _=>trivial) (fun n t ω=>((fun v1 v3=>⟨0,[],[0,1,2,3],[4,5,6,7,8,9,10,11,16],whS w x L cd cx rl ro r D sg ts ln lt (frD w { k with i:=v1.a 4 } rl x.self ro n (n+1) sg ts (4-2) ((ω 31).v.a 1) (v1.x 0) (v1.x 1)) wtn (v1.a 2) (some (v1.x 2)) (⟨v3.a 2,ls,fun j=>v3.a (j+4),v3.a 3⟩::dn) (er+1) lv,[0],some 0⟩) (ω 15).v (ω 47).v)) (fun n t ω=>H _ _ _ _ _ _ _ _ _ _ _ _) 109 [2,1,0,0,0,2,2,0,2,2,0,0,2,5,5,5,5,5,5,1,0,0,5,5,5,5,7,2,0,0,2,0,2,2,2,6,6,6,6,0,0,2] [1] (fun n t ω vz=>((fun v3=>nu [(vz.a 0),(vz.a 1),vz.a 2,vz.a 3,vz.a 4,vz.a 5,vz.a 6,vz.a 7,vz.a 8,vz.a 9,vz.a 10,vz.a 11,vz.a 12,vz.a 13,vz.a 14,vz.a 15] [vz.o 0] [vz.x 0,vz.x 1] (fun _=>0) ((consF (v3.a 2) (v3.a 3) (fun j=>v3.a (j+4)) vz.f))) (ω 47).v)) [33]
theorem wl4_3 (hD:d≤280) (hs:aR sg s4) (hq:∀ q∈qs,q.good s4) (hl:qs.length=4) (hr:aY D 4 qs [] [] []=(tkn,wtn)) (ht:tkn.length=3) (hp:ls.Perm (tkn.map fun q=>q.l)) (hls:Rises ls) (hdn:dn.length<100)
    (H:∀ (k:Tk) (ml tl:Addr) (wt ep er:Nat) (nm kv cz:Value) (a e:Nat) (f:Nat→Nat),Ok w d (whS w x L cd cx rl ro r D sg ts ln lt (frD w k rl x.self ro ml tl sg ts (4-3) wt nm kv) wtn ep (some cz) (⟨a,ls,f,e⟩::dn) er lv)):Ok w d (whS w x L cd cx rl ro r D sg ts ln lt (frD w k rl x.self ro ml tl sg ts 4 wt nm kv) qs ep cv dn er (ls::lv)):=by
  refine ytg (((cd,aB (some (.ref r.m)))::(x.dct,x.dict w ln lt)::(x.self,⟨.ref 90,some x.dct,.plain,#[]⟩)::r.led D)) ([gled dn]) ((by simp [whS])) (fun n t=>yd 5 [0,1,2,3] [0,1,12,13,15,3] [4,5,6,7,8,9,10,11] (inR w x L (n+3) cd cx rl ro n (n+1) r.m k sg ts 4 wt ln lt (r.led D) (frD w k rl x.self ro n (n+1) sg ts 4 wt nm kv) (ae qs) ep [] 0 [] 0 0 4 cv (ae wtn) (ae tkn)) fun v1=>yc [13] (lenCS (n+1) (ae tkn) (v1.a 3) 3) fun v2=>yd 1 [] [] [13] (sortS (n+1) (ae tkn) (v1.a 3) ls) fun v3=>yd 0 [] [2] [] (bj ro (aH dn) er (.ref (v3.a 2)) (aH (⟨v3.a 2,ls,fun j=>v3.a (j+4),v3.a 3⟩::dn))) fun v4=>.nil) (fun n t=>xd (in_all (by omega) hs hq hl (by omega) hr) fun _=>xc (aE (by rw [ac]; omega) (by rw [ac,ht]; rfl)) fun _=>xd (aQ (aC tkn) (by rw [ac]; omega) (by rw [List.map_map]; exact hp) hls) fun _=>xd (aq (by rw [ar]; omega) rfl) fun _=>trivial) (fun n t ω=>((fun v1 v3=>⟨0,[],[0,1,2,3],[4,5,6,7,8,9,10,11,16],whS w x L cd cx rl ro r D sg ts ln lt (frD w { k with i:=v1.a 4 } rl x.self ro n (n+1) sg ts (4-3) ((ω 31).v.a 1) (v1.x 0) (v1.x 1)) wtn (v1.a 2) (some (v1.x 2)) (⟨v3.a 2,ls,fun j=>v3.a (j+4),v3.a 3⟩::dn) (er+1) lv,[0],some 0⟩) (ω 15).v (ω 47).v)) (fun n t ω=>H _ _ _ _ _ _ _ _ _ _ _ _) 109 [2,1,0,0,0,2,2,0,2,2,0,0,2,5,5,5,5,5,5,1,0,0,5,5,5,5,7,2,0,0,2,0,2,2,2,6,6,6,6,0,0,2] [1] (fun n t ω vz=>((fun v3=>nu [(vz.a 0),(vz.a 1),vz.a 2,vz.a 3,vz.a 4,vz.a 5,vz.a 6,vz.a 7,vz.a 8,vz.a 9,vz.a 10,vz.a 11,vz.a 12,vz.a 13,vz.a 14,vz.a 15] [vz.o 0] [vz.x 0,vz.x 1] (fun _=>0) ((consF (v3.a 2) (v3.a 3) (fun j=>v3.a (j+4)) vz.f))) (ω 47).v)) [33]
theorem wl4_4 (hD:d≤280) (hs:aR sg s4) (hq:∀ q∈qs,q.good s4) (hl:qs.length=4) (hr:aY D 4 qs [] [] []=(tkn,wtn)) (ht:tkn.length=4) (hp:ls.Perm (tkn.map fun q=>q.l)) (hls:Rises ls) (hdn:dn.length<100)
    (H:∀ (k:Tk) (ml tl:Addr) (wt ep er:Nat) (nm kv cz:Value) (a e:Nat) (f:Nat→Nat),Ok w d (whS w x L cd cx rl ro r D sg ts ln lt (frD w k rl x.self ro ml tl sg ts (4-4) wt nm kv) wtn ep (some cz) (⟨a,ls,f,e⟩::dn) er lv)):Ok w d (whS w x L cd cx rl ro r D sg ts ln lt (frD w k rl x.self ro ml tl sg ts 4 wt nm kv) qs ep cv dn er (ls::lv)):=by
  refine ytg (((cd,aB (some (.ref r.m)))::(x.dct,x.dict w ln lt)::(x.self,⟨.ref 90,some x.dct,.plain,#[]⟩)::r.led D)) ([gled dn]) ((by simp [whS])) (fun n t=>yd 5 [0,1,2,3] [0,1,12,13,15,3] [4,5,6,7,8,9,10,11] (inR w x L (n+3) cd cx rl ro n (n+1) r.m k sg ts 4 wt ln lt (r.led D) (frD w k rl x.self ro n (n+1) sg ts 4 wt nm kv) (ae qs) ep [] 0 [] 0 0 4 cv (ae wtn) (ae tkn)) fun v1=>yc [13] (lenCS (n+1) (ae tkn) (v1.a 3) 4) fun v2=>yd 1 [] [] [13] (sortS (n+1) (ae tkn) (v1.a 3) ls) fun v3=>yd 0 [] [2] [] (bj ro (aH dn) er (.ref (v3.a 2)) (aH (⟨v3.a 2,ls,fun j=>v3.a (j+4),v3.a 3⟩::dn))) fun v4=>.nil) (fun n t=>xd (in_all (by omega) hs hq hl (by omega) hr) fun _=>xc (aE (by rw [ac]; omega) (by rw [ac,ht]; rfl)) fun _=>xd (aQ (aC tkn) (by rw [ac]; omega) (by rw [List.map_map]; exact hp) hls) fun _=>xd (aq (by rw [ar]; omega) rfl) fun _=>trivial) (fun n t ω=>((fun v1 v3=>⟨0,[],[0,1,2,3],[4,5,6,7,8,9,10,11,16],whS w x L cd cx rl ro r D sg ts ln lt (frD w { k with i:=v1.a 4 } rl x.self ro n (n+1) sg ts (4-4) ((ω 31).v.a 1) (v1.x 0) (v1.x 1)) wtn (v1.a 2) (some (v1.x 2)) (⟨v3.a 2,ls,fun j=>v3.a (j+4),v3.a 3⟩::dn) (er+1) lv,[0],some 0⟩) (ω 15).v (ω 47).v)) (fun n t ω=>H _ _ _ _ _ _ _ _ _ _ _ _) 109 [2,1,0,0,0,2,2,0,2,2,0,0,2,5,5,5,5,5,5,1,0,0,5,5,5,5,7,2,0,0,2,0,2,2,2,6,6,6,6,0,0,2] [1] (fun n t ω vz=>((fun v3=>nu [(vz.a 0),(vz.a 1),vz.a 2,vz.a 3,vz.a 4,vz.a 5,vz.a 6,vz.a 7,vz.a 8,vz.a 9,vz.a 10,vz.a 11,vz.a 12,vz.a 13,vz.a 14,vz.a 15] [vz.o 0] [vz.x 0,vz.x 1] (fun _=>0) ((consF (v3.a 2) (v3.a 3) (fun j=>v3.a (j+4)) vz.f))) (ω 47).v)) [33]
theorem wl5_1 (hD:d≤280) (hs:aR sg s4) (hq:∀ q∈qs,q.good s4) (hl:qs.length=5) (hr:aY D 5 qs [] [] []=(tkn,wtn)) (ht:tkn.length=1) (hp:ls.Perm (tkn.map fun q=>q.l)) (hls:Rises ls) (hdn:dn.length<100)
    (H:∀ (k:Tk) (ml tl:Addr) (wt ep er:Nat) (nm kv cz:Value) (a e:Nat) (f:Nat→Nat),Ok w d (whS w x L cd cx rl ro r D sg ts ln lt (frD w k rl x.self ro ml tl sg ts (5-1) wt nm kv) wtn ep (some cz) (⟨a,ls,f,e⟩::dn) er lv)):Ok w d (whS w x L cd cx rl ro r D sg ts ln lt (frD w k rl x.self ro ml tl sg ts 5 wt nm kv) qs ep cv dn er (ls::lv)):=by
  refine ytg (((cd,aB (some (.ref r.m)))::(x.dct,x.dict w ln lt)::(x.self,⟨.ref 90,some x.dct,.plain,#[]⟩)::r.led D)) ([gled dn]) ((by simp [whS])) (fun n t=>yd 5 [0,1,2,3] [0,1,12,13,15,3] [4,5,6,7,8,9,10,11] (inR w x L (n+3) cd cx rl ro n (n+1) r.m k sg ts 5 wt ln lt (r.led D) (frD w k rl x.self ro n (n+1) sg ts 5 wt nm kv) (ae qs) ep [] 0 [] 0 0 5 cv (ae wtn) (ae tkn)) fun v1=>yc [13] (lenCS (n+1) (ae tkn) (v1.a 3) 1) fun v2=>yd 1 [] [] [13] (sortS (n+1) (ae tkn) (v1.a 3) ls) fun v3=>yd 0 [] [2] [] (bj ro (aH dn) er (.ref (v3.a 2)) (aH (⟨v3.a 2,ls,fun j=>v3.a (j+4),v3.a 3⟩::dn))) fun v4=>.nil) (fun n t=>xd (in_all (by omega) hs hq hl (by omega) hr) fun _=>xc (aE (by rw [ac]; omega) (by rw [ac,ht]; rfl)) fun _=>xd (aQ (aC tkn) (by rw [ac]; omega) (by rw [List.map_map]; exact hp) hls) fun _=>xd (aq (by rw [ar]; omega) rfl) fun _=>trivial) (fun n t ω=>((fun v1 v3=>⟨0,[],[0,1,2,3],[4,5,6,7,8,9,10,11,16],whS w x L cd cx rl ro r D sg ts ln lt (frD w { k with i:=v1.a 4 } rl x.self ro n (n+1) sg ts (5-1) ((ω 31).v.a 1) (v1.x 0) (v1.x 1)) wtn (v1.a 2) (some (v1.x 2)) (⟨v3.a 2,ls,fun j=>v3.a (j+4),v3.a 3⟩::dn) (er+1) lv,[0],some 0⟩) (ω 15).v (ω 47).v)) (fun n t ω=>H _ _ _ _ _ _ _ _ _ _ _ _) 109 [2,1,0,0,0,2,2,0,2,2,0,0,2,5,5,5,5,5,5,1,0,0,5,5,5,5,7,2,0,0,2,0,2,2,2,6,6,6,6,0,0,2] [1] (fun n t ω vz=>((fun v3=>nu [(vz.a 0),(vz.a 1),vz.a 2,vz.a 3,vz.a 4,vz.a 5,vz.a 6,vz.a 7,vz.a 8,vz.a 9,vz.a 10,vz.a 11,vz.a 12,vz.a 13,vz.a 14,vz.a 15] [vz.o 0] [vz.x 0,vz.x 1] (fun _=>0) ((consF (v3.a 2) (v3.a 3) (fun j=>v3.a (j+4)) vz.f))) (ω 47).v)) [33]
theorem wl5_2 (hD:d≤280) (hs:aR sg s4) (hq:∀ q∈qs,q.good s4) (hl:qs.length=5) (hr:aY D 5 qs [] [] []=(tkn,wtn)) (ht:tkn.length=2) (hp:ls.Perm (tkn.map fun q=>q.l)) (hls:Rises ls) (hdn:dn.length<100)
    (H:∀ (k:Tk) (ml tl:Addr) (wt ep er:Nat) (nm kv cz:Value) (a e:Nat) (f:Nat→Nat),Ok w d (whS w x L cd cx rl ro r D sg ts ln lt (frD w k rl x.self ro ml tl sg ts (5-2) wt nm kv) wtn ep (some cz) (⟨a,ls,f,e⟩::dn) er lv)):Ok w d (whS w x L cd cx rl ro r D sg ts ln lt (frD w k rl x.self ro ml tl sg ts 5 wt nm kv) qs ep cv dn er (ls::lv)):=by
  refine ytg (((cd,aB (some (.ref r.m)))::(x.dct,x.dict w ln lt)::(x.self,⟨.ref 90,some x.dct,.plain,#[]⟩)::r.led D)) ([gled dn]) ((by simp [whS])) (fun n t=>yd 5 [0,1,2,3] [0,1,12,13,15,3] [4,5,6,7,8,9,10,11] (inR w x L (n+3) cd cx rl ro n (n+1) r.m k sg ts 5 wt ln lt (r.led D) (frD w k rl x.self ro n (n+1) sg ts 5 wt nm kv) (ae qs) ep [] 0 [] 0 0 5 cv (ae wtn) (ae tkn)) fun v1=>yc [13] (lenCS (n+1) (ae tkn) (v1.a 3) 2) fun v2=>yd 1 [] [] [13] (sortS (n+1) (ae tkn) (v1.a 3) ls) fun v3=>yd 0 [] [2] [] (bj ro (aH dn) er (.ref (v3.a 2)) (aH (⟨v3.a 2,ls,fun j=>v3.a (j+4),v3.a 3⟩::dn))) fun v4=>.nil) (fun n t=>xd (in_all (by omega) hs hq hl (by omega) hr) fun _=>xc (aE (by rw [ac]; omega) (by rw [ac,ht]; rfl)) fun _=>xd (aQ (aC tkn) (by rw [ac]; omega) (by rw [List.map_map]; exact hp) hls) fun _=>xd (aq (by rw [ar]; omega) rfl) fun _=>trivial) (fun n t ω=>((fun v1 v3=>⟨0,[],[0,1,2,3],[4,5,6,7,8,9,10,11,16],whS w x L cd cx rl ro r D sg ts ln lt (frD w { k with i:=v1.a 4 } rl x.self ro n (n+1) sg ts (5-2) ((ω 31).v.a 1) (v1.x 0) (v1.x 1)) wtn (v1.a 2) (some (v1.x 2)) (⟨v3.a 2,ls,fun j=>v3.a (j+4),v3.a 3⟩::dn) (er+1) lv,[0],some 0⟩) (ω 15).v (ω 47).v)) (fun n t ω=>H _ _ _ _ _ _ _ _ _ _ _ _) 109 [2,1,0,0,0,2,2,0,2,2,0,0,2,5,5,5,5,5,5,1,0,0,5,5,5,5,7,2,0,0,2,0,2,2,2,6,6,6,6,0,0,2] [1] (fun n t ω vz=>((fun v3=>nu [(vz.a 0),(vz.a 1),vz.a 2,vz.a 3,vz.a 4,vz.a 5,vz.a 6,vz.a 7,vz.a 8,vz.a 9,vz.a 10,vz.a 11,vz.a 12,vz.a 13,vz.a 14,vz.a 15] [vz.o 0] [vz.x 0,vz.x 1] (fun _=>0) ((consF (v3.a 2) (v3.a 3) (fun j=>v3.a (j+4)) vz.f))) (ω 47).v)) [33]
theorem wl5_3 (hD:d≤280) (hs:aR sg s4) (hq:∀ q∈qs,q.good s4) (hl:qs.length=5) (hr:aY D 5 qs [] [] []=(tkn,wtn)) (ht:tkn.length=3) (hp:ls.Perm (tkn.map fun q=>q.l)) (hls:Rises ls) (hdn:dn.length<100)
    (H:∀ (k:Tk) (ml tl:Addr) (wt ep er:Nat) (nm kv cz:Value) (a e:Nat) (f:Nat→Nat),Ok w d (whS w x L cd cx rl ro r D sg ts ln lt (frD w k rl x.self ro ml tl sg ts (5-3) wt nm kv) wtn ep (some cz) (⟨a,ls,f,e⟩::dn) er lv)):Ok w d (whS w x L cd cx rl ro r D sg ts ln lt (frD w k rl x.self ro ml tl sg ts 5 wt nm kv) qs ep cv dn er (ls::lv)):=by
  refine ytg (((cd,aB (some (.ref r.m)))::(x.dct,x.dict w ln lt)::(x.self,⟨.ref 90,some x.dct,.plain,#[]⟩)::r.led D)) ([gled dn]) ((by simp [whS])) (fun n t=>yd 5 [0,1,2,3] [0,1,12,13,15,3] [4,5,6,7,8,9,10,11] (inR w x L (n+3) cd cx rl ro n (n+1) r.m k sg ts 5 wt ln lt (r.led D) (frD w k rl x.self ro n (n+1) sg ts 5 wt nm kv) (ae qs) ep [] 0 [] 0 0 5 cv (ae wtn) (ae tkn)) fun v1=>yc [13] (lenCS (n+1) (ae tkn) (v1.a 3) 3) fun v2=>yd 1 [] [] [13] (sortS (n+1) (ae tkn) (v1.a 3) ls) fun v3=>yd 0 [] [2] [] (bj ro (aH dn) er (.ref (v3.a 2)) (aH (⟨v3.a 2,ls,fun j=>v3.a (j+4),v3.a 3⟩::dn))) fun v4=>.nil) (fun n t=>xd (in_all (by omega) hs hq hl (by omega) hr) fun _=>xc (aE (by rw [ac]; omega) (by rw [ac,ht]; rfl)) fun _=>xd (aQ (aC tkn) (by rw [ac]; omega) (by rw [List.map_map]; exact hp) hls) fun _=>xd (aq (by rw [ar]; omega) rfl) fun _=>trivial) (fun n t ω=>((fun v1 v3=>⟨0,[],[0,1,2,3],[4,5,6,7,8,9,10,11,16],whS w x L cd cx rl ro r D sg ts ln lt (frD w { k with i:=v1.a 4 } rl x.self ro n (n+1) sg ts (5-3) ((ω 31).v.a 1) (v1.x 0) (v1.x 1)) wtn (v1.a 2) (some (v1.x 2)) (⟨v3.a 2,ls,fun j=>v3.a (j+4),v3.a 3⟩::dn) (er+1) lv,[0],some 0⟩) (ω 15).v (ω 47).v)) (fun n t ω=>H _ _ _ _ _ _ _ _ _ _ _ _) 109 [2,1,0,0,0,2,2,0,2,2,0,0,2,5,5,5,5,5,5,1,0,0,5,5,5,5,7,2,0,0,2,0,2,2,2,6,6,6,6,0,0,2] [1] (fun n t ω vz=>((fun v3=>nu [(vz.a 0),(vz.a 1),vz.a 2,vz.a 3,vz.a 4,vz.a 5,vz.a 6,vz.a 7,vz.a 8,vz.a 9,vz.a 10,vz.a 11,vz.a 12,vz.a 13,vz.a 14,vz.a 15] [vz.o 0] [vz.x 0,vz.x 1] (fun _=>0) ((consF (v3.a 2) (v3.a 3) (fun j=>v3.a (j+4)) vz.f))) (ω 47).v)) [33]
theorem wl5_4 (hD:d≤280) (hs:aR sg s4) (hq:∀ q∈qs,q.good s4) (hl:qs.length=5) (hr:aY D 5 qs [] [] []=(tkn,wtn)) (ht:tkn.length=4) (hp:ls.Perm (tkn.map fun q=>q.l)) (hls:Rises ls) (hdn:dn.length<100)
    (H:∀ (k:Tk) (ml tl:Addr) (wt ep er:Nat) (nm kv cz:Value) (a e:Nat) (f:Nat→Nat),Ok w d (whS w x L cd cx rl ro r D sg ts ln lt (frD w k rl x.self ro ml tl sg ts (5-4) wt nm kv) wtn ep (some cz) (⟨a,ls,f,e⟩::dn) er lv)):Ok w d (whS w x L cd cx rl ro r D sg ts ln lt (frD w k rl x.self ro ml tl sg ts 5 wt nm kv) qs ep cv dn er (ls::lv)):=by
  refine ytg (((cd,aB (some (.ref r.m)))::(x.dct,x.dict w ln lt)::(x.self,⟨.ref 90,some x.dct,.plain,#[]⟩)::r.led D)) ([gled dn]) ((by simp [whS])) (fun n t=>yd 5 [0,1,2,3] [0,1,12,13,15,3] [4,5,6,7,8,9,10,11] (inR w x L (n+3) cd cx rl ro n (n+1) r.m k sg ts 5 wt ln lt (r.led D) (frD w k rl x.self ro n (n+1) sg ts 5 wt nm kv) (ae qs) ep [] 0 [] 0 0 5 cv (ae wtn) (ae tkn)) fun v1=>yc [13] (lenCS (n+1) (ae tkn) (v1.a 3) 4) fun v2=>yd 1 [] [] [13] (sortS (n+1) (ae tkn) (v1.a 3) ls) fun v3=>yd 0 [] [2] [] (bj ro (aH dn) er (.ref (v3.a 2)) (aH (⟨v3.a 2,ls,fun j=>v3.a (j+4),v3.a 3⟩::dn))) fun v4=>.nil) (fun n t=>xd (in_all (by omega) hs hq hl (by omega) hr) fun _=>xc (aE (by rw [ac]; omega) (by rw [ac,ht]; rfl)) fun _=>xd (aQ (aC tkn) (by rw [ac]; omega) (by rw [List.map_map]; exact hp) hls) fun _=>xd (aq (by rw [ar]; omega) rfl) fun _=>trivial) (fun n t ω=>((fun v1 v3=>⟨0,[],[0,1,2,3],[4,5,6,7,8,9,10,11,16],whS w x L cd cx rl ro r D sg ts ln lt (frD w { k with i:=v1.a 4 } rl x.self ro n (n+1) sg ts (5-4) ((ω 31).v.a 1) (v1.x 0) (v1.x 1)) wtn (v1.a 2) (some (v1.x 2)) (⟨v3.a 2,ls,fun j=>v3.a (j+4),v3.a 3⟩::dn) (er+1) lv,[0],some 0⟩) (ω 15).v (ω 47).v)) (fun n t ω=>H _ _ _ _ _ _ _ _ _ _ _ _) 109 [2,1,0,0,0,2,2,0,2,2,0,0,2,5,5,5,5,5,5,1,0,0,5,5,5,5,7,2,0,0,2,0,2,2,2,6,6,6,6,0,0,2] [1] (fun n t ω vz=>((fun v3=>nu [(vz.a 0),(vz.a 1),vz.a 2,vz.a 3,vz.a 4,vz.a 5,vz.a 6,vz.a 7,vz.a 8,vz.a 9,vz.a 10,vz.a 11,vz.a 12,vz.a 13,vz.a 14,vz.a 15] [vz.o 0] [vz.x 0,vz.x 1] (fun _=>0) ((consF (v3.a 2) (v3.a 3) (fun j=>v3.a (j+4)) vz.f))) (ω 47).v)) [33]
theorem wl5_5 (hD:d≤280) (hs:aR sg s4) (hq:∀ q∈qs,q.good s4) (hl:qs.length=5) (hr:aY D 5 qs [] [] []=(tkn,wtn)) (ht:tkn.length=5) (hp:ls.Perm (tkn.map fun q=>q.l)) (hls:Rises ls) (hdn:dn.length<100)
    (H:∀ (k:Tk) (ml tl:Addr) (wt ep er:Nat) (nm kv cz:Value) (a e:Nat) (f:Nat→Nat),Ok w d (whS w x L cd cx rl ro r D sg ts ln lt (frD w k rl x.self ro ml tl sg ts (5-5) wt nm kv) wtn ep (some cz) (⟨a,ls,f,e⟩::dn) er lv)):Ok w d (whS w x L cd cx rl ro r D sg ts ln lt (frD w k rl x.self ro ml tl sg ts 5 wt nm kv) qs ep cv dn er (ls::lv)):=by
  refine ytg (((cd,aB (some (.ref r.m)))::(x.dct,x.dict w ln lt)::(x.self,⟨.ref 90,some x.dct,.plain,#[]⟩)::r.led D)) ([gled dn]) ((by simp [whS])) (fun n t=>yd 5 [0,1,2,3] [0,1,12,13,15,3] [4,5,6,7,8,9,10,11] (inR w x L (n+3) cd cx rl ro n (n+1) r.m k sg ts 5 wt ln lt (r.led D) (frD w k rl x.self ro n (n+1) sg ts 5 wt nm kv) (ae qs) ep [] 0 [] 0 0 5 cv (ae wtn) (ae tkn)) fun v1=>yc [13] (lenCS (n+1) (ae tkn) (v1.a 3) 5) fun v2=>yd 1 [] [] [13] (sortS (n+1) (ae tkn) (v1.a 3) ls) fun v3=>yd 0 [] [2] [] (bj ro (aH dn) er (.ref (v3.a 2)) (aH (⟨v3.a 2,ls,fun j=>v3.a (j+4),v3.a 3⟩::dn))) fun v4=>.nil) (fun n t=>xd (in_all (by omega) hs hq hl (by omega) hr) fun _=>xc (aE (by rw [ac]; omega) (by rw [ac,ht]; rfl)) fun _=>xd (aQ (aC tkn) (by rw [ac]; omega) (by rw [List.map_map]; exact hp) hls) fun _=>xd (aq (by rw [ar]; omega) rfl) fun _=>trivial) (fun n t ω=>((fun v1 v3=>⟨0,[],[0,1,2,3],[4,5,6,7,8,9,10,11,16],whS w x L cd cx rl ro r D sg ts ln lt (frD w { k with i:=v1.a 4 } rl x.self ro n (n+1) sg ts (5-5) ((ω 31).v.a 1) (v1.x 0) (v1.x 1)) wtn (v1.a 2) (some (v1.x 2)) (⟨v3.a 2,ls,fun j=>v3.a (j+4),v3.a 3⟩::dn) (er+1) lv,[0],some 0⟩) (ω 15).v (ω 47).v)) (fun n t ω=>H _ _ _ _ _ _ _ _ _ _ _ _) 109 [2,1,0,0,0,2,2,0,2,2,0,0,2,5,5,5,5,5,5,1,0,0,5,5,5,5,7,2,0,0,2,0,2,2,2,6,6,6,6,0,0,2] [1] (fun n t ω vz=>((fun v3=>nu [(vz.a 0),(vz.a 1),vz.a 2,vz.a 3,vz.a 4,vz.a 5,vz.a 6,vz.a 7,vz.a 8,vz.a 9,vz.a 10,vz.a 11,vz.a 12,vz.a 13,vz.a 14,vz.a 15] [vz.o 0] [vz.x 0,vz.x 1] (fun _=>0) ((consF (v3.a 2) (v3.a 3) (fun j=>v3.a (j+4)) vz.f))) (ω 47).v)) [33]
theorem wh_exit (hD:d≤700) {cz:Value}:Ok w d (whS w x L cd cx rl ro r D sg ts ln lt (frD w k rl x.self ro ml tl sg ts 0 wt nm kv) [] ep (some cz) dn er []):=by
  refine yg (((cd,aB (some (.ref r.m)))::(x.dct,x.dict w ln lt)::(x.self,⟨.ref 90,some x.dct,.plain,#[]⟩)::r.led D)) ([gled dn]) ((by simp [whS])) (fun n t=>.nil) (fun n t=>trivial) 8 [2,1,0,0] [] (fun n t ω=>nu [n,(t+1),k.a,k.b,k.c,k.d,k.e,k.f,k.g,k.h,k.i,ml,tl,wt,ep,er] [aB (some cz)] [nm,kv])
theorem wh_first (hD:d≤280) (hs:aR sg s4) (hq:∀ q∈qs,q.good s4) (hW:qs.length=6) (hr:aY D 6 qs [] [] []=(tkn,wtn)) (hL:1≤tkn.length∧tkn.length≤6) (hp:ls.Perm (tkn.map fun q=>q.l)) (hls:Rises ls) (hdn:dn.length<100)
    (H:∀ (k:Tk) (ml tl:Addr) (wt ep er:Nat) (nm kv cz:Value) (a e:Nat) (f:Nat→Nat) (Wi:Int),Wi=6-tkn.length→Ok w d (whS w x L cd cx rl ro r D sg ts ln lt (frD w k rl x.self ro ml tl sg ts Wi wt nm kv) wtn ep (some cz) (⟨a,ls,f,e⟩::dn) er lv)) :
    Ok w d (whS w x L cd cx rl ro r D sg ts ln lt (frA w k rl x.self ro sg ts 6 wt nm) qs ep cv dn er (ls::lv)):=by
  obtain hL | hL | hL | hL | hL | hL:tkn.length=1 ∨ tkn.length=2 ∨ tkn.length=3 ∨ tkn.length=4 ∨ tkn.length=5 ∨ tkn.length=6:=by omega
  · exact wf1 hD hs hq hW hr hL hp hls hdn fun k ml tl wt ep er nm kv cz a e f=>H k ml tl wt ep er nm kv cz a e f _ (by rw [hL]; rfl)
  · exact wf2 hD hs hq hW hr hL hp hls hdn fun k ml tl wt ep er nm kv cz a e f=>H k ml tl wt ep er nm kv cz a e f _ (by rw [hL]; rfl)
  · exact wf3 hD hs hq hW hr hL hp hls hdn fun k ml tl wt ep er nm kv cz a e f=>H k ml tl wt ep er nm kv cz a e f _ (by rw [hL]; rfl)
  · exact wf4 hD hs hq hW hr hL hp hls hdn fun k ml tl wt ep er nm kv cz a e f=>H k ml tl wt ep er nm kv cz a e f _ (by rw [hL]; rfl)
  · exact wf5 hD hs hq hW hr hL hp hls hdn fun k ml tl wt ep er nm kv cz a e f=>H k ml tl wt ep er nm kv cz a e f _ (by rw [hL]; rfl)
  · exact wf6 hD hs hq hW hr hL hp hls hdn fun k ml tl wt ep er nm kv cz a e f=>H k ml tl wt ep er nm kv cz a e f _ (by rw [hL]; rfl)
theorem wh_later (hD:d≤280) (hs:aR sg s4) (hq:∀ q∈qs,q.good s4) (hW:1≤qs.length∧qs.length≤5) (hr:aY D qs.length qs [] [] []=(tkn,wtn)) (hL:1≤tkn.length∧tkn.length≤qs.length) (hp:ls.Perm (tkn.map fun q=>q.l)) (hls:Rises ls) (hdn:dn.length<100)
    (H:∀ (k:Tk) (ml tl:Addr) (wt ep er:Nat) (nm kv cz:Value) (a e:Nat) (f:Nat→Nat) (Wi:Int),Wi=qs.length-tkn.length→Ok w d (whS w x L cd cx rl ro r D sg ts ln lt (frD w k rl x.self ro ml tl sg ts Wi wt nm kv) wtn ep (some cz) (⟨a,ls,f,e⟩::dn) er lv)) :
    Ok w d (whS w x L cd cx rl ro r D sg ts ln lt (frD w k rl x.self ro ml tl sg ts qs.length wt nm kv) qs ep cv dn er (ls::lv)):=by
  obtain hW | hW | hW | hW | hW:qs.length=1 ∨ qs.length=2 ∨ qs.length=3 ∨ qs.length=4 ∨ qs.length=5:=by omega
  · rw [hW] at hr hL H ⊢
    obtain hL:tkn.length=1:=by omega
    · exact wl1_1 hD hs hq hW hr hL hp hls hdn fun k ml tl wt ep er nm kv cz a e f=>H k ml tl wt ep er nm kv cz a e f _ (by rw [hL]; rfl)
  · rw [hW] at hr hL H ⊢
    obtain hL | hL:tkn.length=1 ∨ tkn.length=2:=by omega
    · exact wl2_1 hD hs hq hW hr hL hp hls hdn fun k ml tl wt ep er nm kv cz a e f=>H k ml tl wt ep er nm kv cz a e f _ (by rw [hL]; rfl)
    · exact wl2_2 hD hs hq hW hr hL hp hls hdn fun k ml tl wt ep er nm kv cz a e f=>H k ml tl wt ep er nm kv cz a e f _ (by rw [hL]; rfl)
  · rw [hW] at hr hL H ⊢
    obtain hL | hL | hL:tkn.length=1 ∨ tkn.length=2 ∨ tkn.length=3:=by omega
    · exact wl3_1 hD hs hq hW hr hL hp hls hdn fun k ml tl wt ep er nm kv cz a e f=>H k ml tl wt ep er nm kv cz a e f _ (by rw [hL]; rfl)
    · exact wl3_2 hD hs hq hW hr hL hp hls hdn fun k ml tl wt ep er nm kv cz a e f=>H k ml tl wt ep er nm kv cz a e f _ (by rw [hL]; rfl)
    · exact wl3_3 hD hs hq hW hr hL hp hls hdn fun k ml tl wt ep er nm kv cz a e f=>H k ml tl wt ep er nm kv cz a e f _ (by rw [hL]; rfl)
  · rw [hW] at hr hL H ⊢
    obtain hL | hL | hL | hL:tkn.length=1 ∨ tkn.length=2 ∨ tkn.length=3 ∨ tkn.length=4:=by omega
    · exact wl4_1 hD hs hq hW hr hL hp hls hdn fun k ml tl wt ep er nm kv cz a e f=>H k ml tl wt ep er nm kv cz a e f _ (by rw [hL]; rfl)
    · exact wl4_2 hD hs hq hW hr hL hp hls hdn fun k ml tl wt ep er nm kv cz a e f=>H k ml tl wt ep er nm kv cz a e f _ (by rw [hL]; rfl)
    · exact wl4_3 hD hs hq hW hr hL hp hls hdn fun k ml tl wt ep er nm kv cz a e f=>H k ml tl wt ep er nm kv cz a e f _ (by rw [hL]; rfl)
    · exact wl4_4 hD hs hq hW hr hL hp hls hdn fun k ml tl wt ep er nm kv cz a e f=>H k ml tl wt ep er nm kv cz a e f _ (by rw [hL]; rfl)
  · rw [hW] at hr hL H ⊢
    obtain hL | hL | hL | hL | hL:tkn.length=1 ∨ tkn.length=2 ∨ tkn.length=3 ∨ tkn.length=4 ∨ tkn.length=5:=by omega
    · exact wl5_1 hD hs hq hW hr hL hp hls hdn fun k ml tl wt ep er nm kv cz a e f=>H k ml tl wt ep er nm kv cz a e f _ (by rw [hL]; rfl)
    · exact wl5_2 hD hs hq hW hr hL hp hls hdn fun k ml tl wt ep er nm kv cz a e f=>H k ml tl wt ep er nm kv cz a e f _ (by rw [hL]; rfl)
    · exact wl5_3 hD hs hq hW hr hL hp hls hdn fun k ml tl wt ep er nm kv cz a e f=>H k ml tl wt ep er nm kv cz a e f _ (by rw [hL]; rfl)
    · exact wl5_4 hD hs hq hW hr hL hp hls hdn fun k ml tl wt ep er nm kv cz a e f=>H k ml tl wt ep er nm kv cz a e f _ (by rw [hL]; rfl)
    · exact wl5_5 hD hs hq hW hr hL hp hls hdn fun k ml tl wt ep er nm kv cz a e f=>H k ml tl wt ep er nm kv cz a e f _ (by rw [hL]; rfl)
end
noncomputable def sortL (l:List (List Nat)):List (List Nat):=l.mergeSort fun a b=>!(decide (b<a))
theorem sortL_perm (l:List (List Nat)):(sortL l).Perm l:=List.mergeSort_perm _ _
theorem sortL_rises (l:List (List Nat)):Rises (sortL l):=by
  have z:=List.pairwise_mergeSort (le:=fun a b:List Nat=>!(decide (b<a))) (fun a b c h1 h2=>by
    have h1':¬ b<a:=by simpa using h1
    have h2':¬ c<b:=by simpa using h2
    simpa using ltt h1' h2') (fun a b=>by
    by_cases h:b<a
    · have:¬ a<b:=fun h'=>List.lt_asymm h h'
      simp [this]
    · simp [h]) l
  exact z.imp fun h=>by simpa using h
noncomputable def rndsF (D:Dp):Nat→List Nm→List (List Nm)
  | 0,_=>[]
  | n+1,qs=>match qs with
    | []=>[]
    | _::_=>(aY D qs.length qs [] [] []).1::rndsF D n (aY D qs.length qs [] [] []).2
noncomputable def bk (l:List (List Nm)):List (List (List Nat)):=l.map fun tk=>sortL (tk.map fun q=>q.l)
theorem rndF_len {D:Dp}:∀ (n:Nat) (qs:List Nm) (ms:List Int) (tk wt:List Nm),n≤qs.length→(aY D n qs ms tk wt).1.length+(aY D n qs ms tk wt).2.length=tk.length+wt.length+qs.length
  | 0,qs,ms,tk,wt,_=>by simp [aY]; omega
  | n+1,[],ms,tk,wt,h=>absurd h (by simp)
  | n+1,q::qs,ms,tk,wt,h=>by
    rw [List.length_cons] at h
    unfold aY
    split
    · rw [rndF_len n qs _ _ _ (by omega)]; simp; omega
    · rw [rndF_len n qs _ _ _ (by omega)]; simp; omega
theorem rndF_tk {D:Dp}:∀ (n:Nat) (qs:List Nm) (ms:List Int) (tk wt:List Nm),tk.length≤(aY D n qs ms tk wt).1.length
  | 0,qs,ms,tk,wt=>Nat.le_refl _
  | n+1,[],ms,tk,wt=>Nat.le_refl _
  | n+1,q::qs,ms,tk,wt=>by
    unfold aY
    split
    · exact Nat.le_trans (by simp) (rndF_tk n qs _ _ _)
    · exact rndF_tk n qs _ _ _
theorem rndF_pos {D:Dp} {q:Nm} {qs:List Nm} {n:Nat}:1≤(aY D (n+1) (q::qs) [] [] []).1.length:=by
  unfold aY
  rw [if_pos (by simp)]
  exact rndF_tk n qs _ [q] []
theorem rndF_mem {D:Dp} {P:Nm→Prop}:∀ (n:Nat) (qs:List Nm) (ms:List Int) (tk wt:List Nm),(∀ q∈qs,P q)→(∀ q∈tk,P q)→(∀ q∈wt,P q)→(∀ q∈(aY D n qs ms tk wt).1,P q)∧∀ q∈(aY D n qs ms tk wt).2,P q
  | 0,qs,ms,tk,wt,h1,h2,h3=>⟨h2,fun q hq=>(List.mem_append.mp hq).elim (h1 q) (h3 q)⟩
  | n+1,[],ms,tk,wt,h1,h2,h3=>⟨h2,h3⟩
  | n+1,q::qs,ms,tk,wt,h1,h2,h3=>by
    have h1':∀ q∈qs,P q:=fun p hp=>h1 p (.tail _ hp)
    have hq:=h1 q (.head _)
    unfold aY
    split
    · exact rndF_mem n qs _ _ _ h1' (fun p hp=>(List.mem_append.mp hp).elim (h2 p) fun hp=>by rcases List.mem_singleton.mp hp with rfl; exact hq) h3
    · exact rndF_mem n qs _ _ _ h1' h2 (fun p hp=>(List.mem_append.mp hp).elim (h3 p) fun hp=>by rcases List.mem_singleton.mp hp with rfl; exact hq)
section
variable {dn:List Dn} {er:Nat} {lv:List (List (List Nat))} {ls:List (List Nat)} {qs tkn wtn:List Nm} {s4:V4 Nat} {w:World} {d:Nat} {x:Lx} {L it cd cx rl ro ml tl:Addr} {r:R4} {D:Dp} {k:Tk} {sg:List Nat} {ts:Tok} {W:Int} {wt:Tok} {ln:Int} {lt:Tok} {rows:Led} {ps:List Value} {ep:Nat} {ms:List (Int × Tok)} {em:Nat} {tk:List Value} {et:Nat} {cur rem:Int} {cv:Option Value} {ps' tk':List Value} {nm kv:Value} {q:Nm}
theorem wh_loop (hD:d≤280) (hs:aR sg s4):∀ (n:Nat) (qs:List Nm) (k:Tk) (ml tl:Addr) (wt ep er:Nat) (nm kv:Value) (cv:Option Value) (dn:List Dn) (Wi:Int),(∀ q∈qs,q.good s4)→Wi=qs.length→qs.length≤n→qs.length≤5→(qs=[]→cv.isSome)→dn.length+qs.length<100 →
    Ok w d (whS w x L cd cx rl ro r D sg ts ln lt (frD w k rl x.self ro ml tl sg ts Wi wt nm kv) qs ep cv dn er (bk (rndsF D n qs)))
  | n,[],k,ml,tl,wt,ep,er,nm,kv,cv,dn,Wi,hq,hW,hn,h5,hc,hdn=>by
    subst hW
    obtain ⟨cz,rfl⟩:=Option.isSome_iff_exists.mp (hc rfl)
    have e:bk (rndsF D n [])=[]:=by cases n <;> rfl
    rw [e]
    exact wh_exit (by omega)
  | 0,_::_,_,_,_,_,_,_,_,_,_,_,_,_,_,hn,_,_,_=>absurd hn (by simp)
  | n+1,q::qs,k,ml,tl,wt,ep,er,nm,kv,cv,dn,Wi,hq,hW,hn,h5,hc,hdn=>by
    subst hW
    have hlen:=rndF_len (D:=D) (q::qs).length (q::qs) [] [] [] (Nat.le_refl _)
    have hpos:=rndF_pos (D:=D) (q:=q) (qs:=qs) (n:=qs.length)
    have hmem:=rndF_mem (D:=D) (P:=fun q=>q.good s4) (q::qs).length (q::qs) [] [] [] hq (by simp) (by simp)
    have e:bk (rndsF D (n+1) (q::qs))=sortL ((aY D (q::qs).length (q::qs) [] [] []).1.map fun q=>q.l)::bk (rndsF D n (aY D (q::qs).length (q::qs) [] [] []).2):=rfl
    rw [e]
    generalize hr:aY D (q::qs).length (q::qs) [] [] []=res at *
    obtain ⟨tkn,wtn⟩:=res
    have hpos:1≤tkn.length:=hpos
    simp only [List.length_nil,Nat.zero_add] at hlen
    refine wh_later hD hs hq ⟨by simp,h5⟩ hr ⟨hpos,by omega⟩ (sortL_perm _) (sortL_rises _) (by omega) fun k ml tl wt ep er nm kv cz a e f Wi hWi=>?_
    exact wh_loop hD hs n wtn k ml tl wt ep er nm kv (some cz) _ Wi hmem.2 (by rw [hWi]; omega) (by omega) (by omega) (fun _=>rfl) (by simp; omega)
noncomputable def rndAllS (rl:Addr) (q0 q1 q2 q3 q4 q5:Nm) (er:Nat) (sg:List Nat) (ts:Tok) (r:R4) (D:Dp) (c1 c2:Addr) (cq:Nat→Nat) (lv:List (List (List Nat))):Sm where
  c:=.call (.ref 147) ⟨[.ref rl,.str (S sg) ts,.ref r.m],[]⟩
  mpre:=[]
  rpre:=(rl,lst ⟨ae [q0,q1,q2,q3,q4,q5]⟩ er)::(113,tabO c1 c2)::(c2,codeO cq)::r.led D
  post _:=[]
  news v:=(v.a 2,lst ⟨finV [] lv v.f⟩ (v.a 3))::newsN lv v.f
  res v:=.ok (.ret (.ref (v.a 2)))
noncomputable abbrev lx (v:Nv) (c1 c2:Addr) (cq:Nat→Nat):Lx:={ nLx v with c1:=c1,c2:=c2,cq:=cq }
theorem wh_all (hD:d≤280) (hs:aR sg s4) (hq:∀ q∈qs,q.good s4) (hW:qs.length=6):Ok w d (whS w x L cd cx rl ro r D sg ts ln lt (frA w k rl x.self ro sg ts 6 wt nm) qs ep cv [] er (bk (rndsF D 6 qs))):=by
  match qs,hq,hW with
  | q::qs,hq,hW=>
    have hlen:=rndF_len (D:=D) (q::qs).length (q::qs) [] [] [] (Nat.le_refl _)
    have hpos:=rndF_pos (D:=D) (q:=q) (qs:=qs) (n:=qs.length)
    have hmem:=rndF_mem (D:=D) (P:=fun q=>q.good s4) (q::qs).length (q::qs) [] [] [] hq (by simp) (by simp)
    have e:bk (rndsF D 6 (q::qs))=sortL ((aY D (q::qs).length (q::qs) [] [] []).1.map fun q=>q.l)::bk (rndsF D 5 (aY D (q::qs).length (q::qs) [] [] []).2):=rfl
    rw [e]
    generalize hr:aY D (q::qs).length (q::qs) [] [] []=res at *
    obtain ⟨tkn,wtn⟩:=res
    have hpos:1≤tkn.length:=hpos
    simp only [List.length_nil,Nat.zero_add] at hlen
    rw [hW] at hr hlen
    refine wh_first hD hs hq hW hr ⟨hpos,by omega⟩ (sortL_perm _) (sortL_rises _) (by simp) fun k ml tl wt ep er nm kv cz a e f Wi hWi=>?_
    exact wh_loop hD hs 5 wtn k ml tl wt ep er nm kv (some cz) _ Wi hmem.2 (by rw [hWi]; omega) (by omega) (by omega) (fun _=>rfl) (by simp; omega)
theorem rnd_all (hD:d≤220) {q0 q1 q2 q3 q4 q5:Nm} {c1 c2:Addr} {cq:Nat→Nat} (hs:aR sg s4) (hq:∀ q∈[q0,q1,q2,q3,q4,q5],q.good s4) (hlv:lv=bk (rndsF D 6 [q0,q1,q2,q3,q4,q5])):Ok w d (rndAllS rl q0 q1 q2 q3 q4 q5 er sg ts r D c1 c2 cq lv):=by
  refine yg ((rl,lst ⟨ae [q0,q1,q2,q3,q4,q5]⟩ er)::(113,tabO c1 c2)::(c2,codeO cq)::r.led D) ([]) ((by simp [rndAllS])) (fun n t=>yd 0 [0,1,2] [] [1,2] (lexS2 w [10] (t+2) c1 c2 cq) fun v1=>.cons ⟨29,[0,1,2,3,4,5,6,9],[8,13,26,10],[9,11,14,3,4,5,6,7],whS w (lx v1 c1 c2 cq) n (n+1) (n+2) rl (v1.a 0+9) r D sg ts 1 (v1.a 19) (frA w ⟨t,t+1,v1.a 1,v1.a 1+1,v1.a 1+27,v1.a 1+28,0,0,0⟩ rl (v1.a 2) (v1.a 0+9) sg ts 6 (v1.a 1+26) (.str (S q5.l) q5.t)) [q0,q1,q2,q3,q4,q5] 6 none [] 0 lv,[],some 0⟩ fun v2=>yd 0 [] [11,12,13] [14,15,16,17,18,2] (tokE w (lx v1 c1 c2 cq) 1 (v1.a 19) (fun j=>v1.a (j+31)) (v1.a 20) (v2.a 14)) fun v3=>.nil) (fun n t=>xd (lexS2_ok (by omega) (by decide)) fun v1=>⟨(by rw [hlv]; exact wh_all (x:=lx v1 c1 c2 cq) (by omega) hs hq rfl),fun v2=>⟨tokE_ok (by omega),fun v3=>trivial⟩⟩) 744 [0,0,0,1,1,0,1,1,3,3,1,0,0,0,18,18,18,2,2,1,0,0,2,1,1,1,1,1,2,1,1,0,18,18,18,30,0,0,0,30,0,0,0,30,0,0,0,0,30,24,18,0,0,0,0,3,3,0,3,3,1,3,30,0,0,0,30,0,0,0,30,30,0,24,28,28,28,28,3,28,28,28,28,1,1,1,1,2,1,1,0,18,18,18,30,0,0,0,30,0,0,0,30,0,0,0,0,30,24,18,0,0,0,0,5,5,0,5,5,1,5,30,0,0,0,30,0,0,0,30,30,0,24,28,28,28,28,5,28,28,28,28,1,1,1,1,2,1,1,0,18,18,18,30,0,0,0,30,0,0,0,30,0,0,0,0,30,24,18,0,0,0,0,7,7,0,7,7,1,7,30,0,0,0,30,0,0,0,30,30,0,24,28,28,28,28,7,28,28,28,28,1,1,1,1,2,1,1,0,18,18,18,30,0,0,0,30,0,0,0,30,0,0,0,0,30,24,18,0,0,0,0,9,9,0,9,9,1,9,30,0,0,0,30,0,0,0,30,30,0,24,28,28,28,28,9,28,28,28,28,1,1,1,1,2,1,1,0,18,18,18,30,0,0,0,30,0,0,0,30,0,0,0,0,30,24,18,0,0,0,0,11,11,0,11,11,1,11,30,0,0,0,30,0,0,0,30,30,0,24,28,28,28,28,11,28,28,28,28,1,1,1,1,2,1,1,0,18,18,18,30,0,0,0,30,0,0,0,30,0,0,0,0,30,24,18,0,0,0,0,13,13,0,13,13,1,13,30,0,0,0,30,0,0,0,30,30,0,24,28,28,28,28,13,28,28,28,28,1,1,1,1,2,1,1,17,0,0,18,2,2,2,0,18,18,0,18,18,18,30,0,0,0,30,0,0,0,30,0,0,0,0,30,24,0,1,0,0,18,30,0,0,0,30,0,0,0,30,30,0,24,1,0,0,18] [0] (fun n t ω=>((fun v2 v3=>nu [(v3.a 0),(v3.a 1+3),(ω 0).v.a 0+9,v2.a 15] [] [] (fun _=>0) (v2.f)) (ω 4).v (ω 8).v)) [53]
end
theorem occ1_done (s sub:Str) (hi:Nat):∀ (l:List Nat) (st:Array Nat × Nat),1≤st.fst.size→(forIn l st (StrLaws.occBody s sub hi 1)).run.fst=st.fst
  | [],st,h=>rfl
  | a::l,st,h=>by
    rw [List.forIn_cons]
    unfold StrLaws.occBody
    rw [if_neg (by omega)]
    exact occ1_done s sub hi l _ h
theorem occ1_go (s sub:Str) (hi:Nat):∀ (l:List Nat) (free:Nat),(∀ i∈l,free≤i)→(forIn l ((#[]:Array Nat),free) (StrLaws.occBody s sub hi 1)).run.fst.toList=(l.find? fun i=>decide (i+sub.length≤hi) && Builtin.Str.subAt s sub i).toList
  | [],_,_=>rfl
  | a::l,free,hf=>by
    rw [List.forIn_cons]
    have ha:free≤a:=hf a (List.mem_cons_self ..)
    have hl:∀ i∈l,free≤i:=fun i h=>hf i (.tail _ h)
    unfold StrLaws.occBody
    rw [List.find?_cons]
    by_cases hc:a+sub.length≤hi∧Builtin.Str.subAt s sub a=true
    · rw [if_pos ⟨⟨⟨by simp,ha⟩,hc.1⟩,hc.2⟩]
      rw [show (decide (a+sub.length≤hi) && Builtin.Str.subAt s sub a)=true by simp [hc.1,hc.2]]
      show (forIn l ((#[]:Array Nat).push a,a+sub.length) (StrLaws.occBody s sub hi 1)).run.fst.toList=_
      rw [occ1_done _ _ _ _ _ (by simp)]
      simp
    · rw [if_neg (fun h=>hc ⟨h.1.2,h.2⟩)]
      rw [show (decide (a+sub.length≤hi) && Builtin.Str.subAt s sub a)=false by simpa using hc]
      exact occ1_go s sub hi l free hl
theorem occ1 (s sub:Str) (lo hi:Nat):Builtin.Str.occurrences s sub lo hi 1=((List.range' lo (hi+1-lo)).find? fun i=>decide (i+sub.length≤hi) && Builtin.Str.subAt s sub i).toList:=by
  rw [StrLaws.occ_eq,occ1_go]
  intro i hi
  rw [List.mem_range'] at hi
  omega
theorem subAt1 (l:List Nat) (c i:Nat):Builtin.Str.subAt (S l) (S [c]) i=(l[i]?==some c):=by
  rw [Bool.eq_iff_iff]
  unfold Builtin.Str.subAt
  show ((⟨l⟩:Array Nat).extract i (i+1)==(⟨[c]⟩:Array Nat))=true↔_
  rw [beq_iff_eq,beq_iff_eq]
  have e:(⟨l⟩:Array Nat).extract i (i+1)=⟨(l.drop i).take 1⟩:=by
    apply Array.ext'
    simp [List.extract]
  rw [e]
  constructor
  · intro h
    have h:(l.drop i).take 1=[c]:=by injection h
    have:(l.drop i)[0]?=some c:=by
      have:=congrArg (·[0]?) h
      simpa using this
    simpa using this
  · intro h
    congr 1
    have:(l.drop i)[0]?=some c:=by simpa using h
    cases hl:l.drop i with
    | nil=>rw [hl] at this; cases this
    | cons a r=>rw [hl] at this; simp at this; subst this; rfl
noncomputable def findF (l:List Nat) (c:Nat) (lo hi:Nat):Option Nat:=(List.range' lo (hi+1-lo)).find? fun i=>decide (i+1≤hi) && (l[i]?==some c)
theorem occ_one (l:List Nat) (c lo hi:Nat):Builtin.Str.occurrences (S l) (S [c]) lo hi 1=(findF l c lo hi).toList:=by
  rw [occ1]
  unfold findF
  congr 1
  congr 1
  funext i
  rw [subAt1]
  rfl
theorem occ_nil (l:List Nat) (lo hi:Nat) (h:lo≤hi):Builtin.Str.occurrences (S l) (S []) lo hi 1=[lo]:=by
  rw [occ1]
  have e:hi+1-lo=(hi-lo)+1:=by omega
  rw [e,List.range'_succ,List.find?_cons]
  have:(decide (lo+(S []).length≤hi) && Builtin.Str.subAt (S l) (S []) lo)=true:=by
    rw [Bool.and_eq_true,decide_eq_true_eq]
    refine ⟨h,?_⟩
    unfold Builtin.Str.subAt
    show ((⟨l⟩:Array Nat).extract lo (lo+0)==#[])=true
    simp
  rw [this]
  rfl
noncomputable def findS (x y:List Nat) (lo hi:Int) (t u v z:Tok) (r:Int):Sm:=pureS (bi "str.find" [.str (S x) t,.str (S y) u,.int lo v,.int hi z]) fun v=>.ok (.ret (.int r (v.a 2)))
theorem gives_find4 (x y:Str) (i j:Int) (t u v z:Tok):Gives (Builtin.«str.find» ⟨[.str x t,.str y u,.int i v,.int j z],[]⟩) (.int (match Builtin.Str.occurrences x y (fromIndex x.length i) (min (fromIndex x.length j) x.length) 1 with | k::_=>(k:Int) | []=>-1)):=by
  show Gives (match Builtin.Str.occurrences x y (fromIndex x.length i) (min (fromIndex x.length j) x.length) 1 with | k::_=>retInt k | []=>(do rule "str.find.not-found"; retInt (-1))) _
  cases Builtin.Str.occurrences x y (fromIndex x.length i) (min (fromIndex x.length j) x.length) 1 with
  | nil=>exact .rule (.of_eq rfl)
  | cons k _=>exact .of_eq rfl
theorem findS_ok {w:World} {D:Nat} {x y:List Nat} {lo hi:Nat} {t u v z:Tok} {r:Int} (hh:hi≤x.length) (h:(match Builtin.Str.occurrences (S x) (S y) lo hi 1 with | k::_=>(k:Int) | []=>-1)=r):Ok w D (findS x y lo hi t u v z r):=by
  subst h
  refine ok_int (name := "find") F.slot_str_find (fun _=>rfl) F.entry_str_find (F.args_str_find_4 _ _ _ _) ?_
  have g:=gives_find4 (S x) (S y) lo hi t u v z
  have e:∀ k:Nat,fromIndex (S x).length k=k:=fun k=>by
    unfold fromIndex
    rw [if_neg (by omega)]
    omega
  rw [e,e,show min hi (S x).length=hi from Nat.min_eq_left hh] at g
  exact g
noncomputable def ltIS (x y:Int) (t u:Tok) (b:Bool):Sm:=pureS (bi "int.__lt__" [.int x t,.int y u]) fun _=>.ok (.ret (.bool b))
theorem ltIS_ok {w:World} {D:Nat} {x y:Int} {t u:Tok} {b:Bool} (hD:D≤780) (h:decide (x<y)=b):Ok w D (ltIS x y t u b):=by
  subst h
  exact prove hD (fun _=>rfl) (fun _ _=>.nil) (fun _ _=>trivial) 1 [] [] (by decide) (fun n t _=>nu [n,t]) fun d fr gs u R st n ω=>by kernel_rfl
noncomputable def dotS (x y:Nat):List Nat:=[46,46,46,x,46,46,46,y,46,46,46]
noncomputable def dots:List Nat:=[46,46,46]
noncomputable def splS (x y:Nat) (t u:Tok):Sm where
  c:=bi "str.split" [.str (S (dotS x y)) t,.str (S dots) u]
  mpre:=[]
  rpre:=[]
  post _:=[]
  news v:=[(v.a 2,lst ⟨[.str (S []) (v.a 3),.str (S [x]) (v.a 4),.str (S [y]) (v.a 5),.str (S []) (v.a 6)]⟩ 0)]
  res v:=.ok (.ret (.ref (v.a 2)))
noncomputable def sc:Nat→Nat→Nat
  | 0,a=>a
  | n+1,a=>.succ (sc n a)
theorem sc_eq (a:Nat):∀ n,sc n a=a+n
  | 0=>rfl
  | n+1=>congrArg Nat.succ (sc_eq a n)
theorem spl_occ (a b:Nat):Builtin.Str.occurrences (S (dotS (sc 47 a) (sc 47 b))) (S dots) 0 11 12=[0,4,8]:=by kernel_rfl
theorem spl_all {x y:Nat} (hx:47≤x) (hy:47≤y):Builtin.Str.occurrences (S (dotS x y)) (S dots) 0 11 12=[0,4,8]:=by
  have z:=spl_occ (x-47) (y-47)
  rwa [sc_eq,sc_eq,Nat.sub_add_cancel hx,Nat.sub_add_cancel hy] at z
theorem kind_pos (s:Str):decide (Builtin.Str.strKind s<1)=false:=by
  unfold Builtin.Str.strKind
  split
  · rfl
  · split <;> rfl
theorem splS_ok {w:World} {D:Nat} {x y:Nat} {t u:Tok} (hx:65≤x∧x<89) (hy:65≤y∧y<89):Ok w D (splS x y t u):=by
  have z:=spl_all (x:=x) (y:=y) (by omega) (by omega)
  have h1:(decide ((S (dotS x y)).length<(S dots).length) || decide (Builtin.Str.strKind (S (dotS x y))<Builtin.Str.strKind (S dots)))=false:=by
    rw [show decide ((S (dotS x y)).length<(S dots).length)=false from rfl,show Builtin.Str.strKind (S dots)=1 by decide +kernel,Bool.false_or]; exact kind_pos _
  have h2:(Builtin.Str.occurrences (S (dotS x y)) (S dots) 0 11 12).isEmpty=false:=by rw [z]; rfl
  have h3:Builtin.Str.partsBetween (S (dotS x y)) (Builtin.Str.occurrences (S (dotS x y)) (S dots) 0 11 12) 3=[S [],S [x],S [y],S []]:=by rw [z]; rfl
  refine ⟨fun _=>rfl,fun A st R C B K _ H=>codeAny_call_builtin F.slot_str_split.plain F.entry_str_split (F.slot_str_split.check _ _ _ _ _ _ _ _ (show st.TypeIs (.str _ _) "str" from rfl) (F.args_str_split_2 _ _) ?_)⟩
  have hp:Builtin.Str.partsBetween (S (dotS x y)) (Builtin.Str.occurrences (S (dotS x y)) (S dots) 0 (S (dotS x y)).length ((S (dotS x y)).length+1)) (S dots).length=[S [],S [x],S [y],S []]:=h3
  refine meets_str_split_sep (S (dotS x y)) (S dots) t u h1 rfl h2 (by show 11≤sizeLine; decide) (by rw [hp]; show 4≤sizeLine; decide) PR w A R st ?_
  rw [hp]
  exact H _ (nu [st.heap.objs.size+1,st.toks+4,st.heap.objs.size,st.toks,st.toks+1,st.toks+2,st.toks+3]) ⟨⟨fun _ _ e _=>(Heap.get?_push_of_some _ e),Nat.le_of_lt (by rw [size_push']; exact Nat.lt_succ_self _),rfl,rfl⟩,by rw [size_push']; rfl,rfl,by simp [splS],fun _ h=>(nomatch h),fun x hx=>by
    rcases List.mem_singleton.mp hx with rfl
    exact ⟨Heap.get?_push_size _ rfl,Nat.le_refl _⟩,by simp [splS]⟩
noncomputable def emS (want got:List Nat) (tw tg:Tok) (b:Bool):Sm where
  c:=.call (.ref 52) ⟨[.str (S want) tw,.str (S got) tg],[]⟩
  mpre:=[]
  rpre:=[]
  post _:=[]
  news _:=[]
  res _:=.ok (.ret (.bool b))
section
variable {w:World} {d:Nat} {x y:Nat} {a b c e f g:Nat} {tw tg:Tok} {j k:Nat}
theorem em_t (hD:d≤600) (hx:65≤x∧x<89) (hy:65≤y∧y<89) (h1:findF [a,b,c,e,f,g] x 0 6=some j) (h2:findF [a,b,c,e,f,g] y (j+1) 6=some k) (hk:k<6):Ok w d (emS (dotS x y) [a,b,c,e,f,g] tw tg true):=by
  have hh:(!(Builtin.Str.occurrences (S (dotS x y)) (S dots) 0 11 1).isEmpty)=true:=by kernel_rfl
  refine yv (fun n t=>yd 0 [0] [] [] (bd (dotS x y) dots tw 308 true) fun v1=>yc [] (splS x y tw 308) fun v2=>.cons (it5 20 [0,1,4] [] [] (findS [a,b,c,e,f,g] [] 0 6 tg (v2.a 3) (v2.a 1+4) (v2.a 1+6) 0)) fun v3=>yd 5 [] [] [] (findS [a,b,c,e,f,g] [x] 0 6 tg (v2.a 4) (v3.a 1+4) (v2.a 1+6) j) fun v4=>yc [] (ltIS j 0 (v4.a 2) (v4.a 1+1) false) fun v5=>yd 4 [] [] [] (findS [a,b,c,e,f,g] [y] (j+1) 6 tg (v2.a 5) (v5.a 1+2) (v2.a 1+6) k) fun v6=>yc [] (ltIS k 0 (v6.a 2) (v6.a 1+1) false) fun v7=>yd 4 [] [] [] (findS [a,b,c,e,f,g] [] (k+1) 6 tg (v2.a 6) (v7.a 1+2) (v2.a 1+6) (k+1)) fun v8=>yc [] (ltIS (k+1) 0 (v8.a 2) (v8.a 1+1) false) fun v9=>.nil) (fun n t=>xd (aA hh) fun _=>xc (splS_ok hx hy) fun _=>xd (findS_ok (lo:=0) (hi:=6) (by simp) (by rw [occ_nil _ _ _ (by decide)]; rfl)) fun _=>xd (findS_ok (lo:=0) (hi:=6) (by simp) (by rw [occ_one,h1]; rfl)) fun _=>xc (ltIS_ok (by omega) (decide_eq_false (by omega))) fun _=>xd (findS_ok (lo:=j+1) (hi:=6) (by simp) (by rw [occ_one,h2]; rfl)) fun _=>xc (ltIS_ok (by omega) (decide_eq_false (by omega))) fun _=>xd (findS_ok (lo:=k+1) (hi:=6) (by simp) (by rw [occ_nil _ _ _ (by omega)]; rfl)) fun _=>xc (ltIS_ok (by omega) (decide_eq_false (by omega))) fun _=>trivial) 564 [0,0,0,1,1,0,1,1,1,0,1,2,0,0,2,2,0,0,2,4,4,4,1,0,0,0,0,2,1,1,1,1,0,0,1,3,3,3,3,3,1,3,3,3,3,3,3,1,3,3,3,3,3,3,1,3,3,7,0,2,2,0,2,2,2,4,4,4,4,4,0,2,2,2,2,4,4,4,4,4,0,2,2,2,2,2,1,0,0,2,4,4,1,0,0,4,9,9,9,9,9,4,9,9,0,2,2,2,2,2,2,0,2,2,2,1,0,0,2,0,0,2,0,2,2,10,10,10,10,4,10,10,0,2,2,2,2,2,2,0,2,2,2,1,0,0,2,0,0,2,0,2,2,10,10,10,10,4,10,10,0,2,2,2,2,2,2,0,2,2,2,1,0,0,2,0,0,2,0,2,2,10,10,10,10,4,10,10,0,2,2,2,2,2,2,0,2,2,2,1,0,0,2,0,0,2,0,2,2,10,10,10,10,4,10,10,3] (fun n t ω=>((fun v9=>nu [(v9.a 0+2),(v9.a 1+4)] [] []) (ω 107777).v))
theorem em_f (hD:d≤600) (hx:65≤x∧x<89) (hy:65≤y∧y<89) (h1:findF [a,b,c,e,f,g] x 0 6=some j) (h2:findF [a,b,c,e,f,g] y (j+1) 6=none):Ok w d (emS (dotS x y) [a,b,c,e,f,g] tw tg false):=by
  have hh:(!(Builtin.Str.occurrences (S (dotS x y)) (S dots) 0 11 1).isEmpty)=true:=by kernel_rfl
  refine yv (fun n t=>yd 0 [0] [] [] (bd (dotS x y) dots tw 308 true) fun v1=>yc [] (splS x y tw 308) fun v2=>.cons (it5 20 [0,1,4] [] [] (findS [a,b,c,e,f,g] [] 0 6 tg (v2.a 3) (v2.a 1+4) (v2.a 1+6) 0)) fun v3=>yd 5 [] [] [] (findS [a,b,c,e,f,g] [x] 0 6 tg (v2.a 4) (v3.a 1+4) (v2.a 1+6) j) fun v4=>yc [] (ltIS j 0 (v4.a 2) (v4.a 1+1) false) fun v5=>yd 4 [] [] [] (findS [a,b,c,e,f,g] [y] (j+1) 6 tg (v2.a 5) (v5.a 1+2) (v2.a 1+6) (-1)) fun v6=>.nil) (fun n t=>xd (aA hh) fun _=>xc (splS_ok hx hy) fun _=>xd (findS_ok (lo:=0) (hi:=6) (by simp) (by rw [occ_nil _ _ _ (by decide)]; rfl)) fun _=>xd (findS_ok (lo:=0) (hi:=6) (by simp) (by rw [occ_one,h1]; rfl)) fun _=>xc (ltIS_ok (by omega) (decide_eq_false (by omega))) fun _=>xd (findS_ok (lo:=j+1) (hi:=6) (by simp) (by rw [occ_one,h2]; rfl)) fun _=>trivial) 441 [0,0,0,1,1,0,1,1,1,0,1,2,0,0,2,2,0,0,2,4,4,4,1,0,0,0,0,2,1,1,1,1,0,0,1,3,3,3,3,3,1,3,3,3,3,3,3,1,3,3,3,3,3,3,1,3,3,7,0,2,2,0,2,2,2,4,4,4,4,4,0,2,2,2,2,4,4,4,4,4,0,2,2,2,2,2,1,0,0,2,4,4,1,0,0,4,9,9,9,9,9,4,9,9,0,2,2,2,2,2,2,0,2,2,2,1,0,0,2,0,0,2,0,2,2,10,10,10,10,4,10,10,0,2,2,2,2,2,2,0,2,2,2,1,0,0,2,0,0,2,0,2,2,10,10,10,10,4,10,10,0,2,2,2,2,2,2,0,2,2,2,1,0,0] (fun n t ω=>((fun v6=>nu [(v6.a 0),(v6.a 1+2)] [] []) (ω 9473).v))
end
theorem findF_some {l:List Nat} {c lo hi j:Nat} (hh:hi≤l.length) (h1:lo≤j) (h2:j<hi) (h3:l[j]?=some c) (h4:∀ i,i<j→l[i]?≠some c):findF l c lo hi=some j:=by
  unfold findF
  rw [List.find?_range'_eq_some]
  refine ⟨by simp [h3]; omega,by rw [List.mem_range'_1]; omega,fun i hi1 hi2=>?_⟩
  simp [h4 i hi2]
theorem findF_none {l:List Nat} {c lo hi:Nat} (h4:∀ i,lo≤i→l[i]?≠some c):findF l c lo hi=none:=by
  unfold findF
  rw [List.find?_eq_none]
  intro i hi1
  rw [List.mem_range'_1] at hi1
  simp [h4 i hi1.1]
theorem em_ok {w:World} {d:Nat} {a b c e f g:Nat} {tw tg:Tok} {j k:Nat} (hD:d≤600) (hl:∀ x∈[a,b,c,e,f,g],65≤x∧x<89) (hn:[a,b,c,e,f,g].Nodup) {x y:Nat} (hj:j<6) (hk:k<6) (hx:[a,b,c,e,f,g][j]?=some x) (hy:[a,b,c,e,f,g][k]?=some y):Ok w d (emS (dotS x y) [a,b,c,e,f,g] tw tg (decide (j<k))):=by
  have uniq:∀ (i j z:Nat),[a,b,c,e,f,g][i]?=some z→[a,b,c,e,f,g][j]?=some z→i=j:=fun i j z hi hj=>by
    exact (List.getElem?_inj (by rw [List.getElem?_eq_some_iff] at hi; exact hi.1) hn).mp (hi.trans hj.symm)
  have h1:findF [a,b,c,e,f,g] x 0 6=some j:=findF_some (by simp) (by omega) hj hx fun i hi h=>by have:=uniq i j x h hx; omega
  by_cases h:j<k
  · rw [decide_eq_true h]
    exact em_t hD (hl x (List.mem_of_getElem? hx)) (hl y (List.mem_of_getElem? hy)) h1 (findF_some (by simp) (by omega) hk hy fun i hi h=>by have:=uniq i k y h hy; omega) hk
  · rw [decide_eq_false h]
    exact em_f hD (hl x (List.mem_of_getElem? hx)) (hl y (List.mem_of_getElem? hy)) h1 (findF_none fun i hi h=>by have:=uniq i k y h hy; omega)
noncomputable def lenSS (x:List Nat) (t:Tok):Sm:=pureS (bi "len" [.str (S x) t]) fun v=>.ok (.ret (.int x.length (v.a 2)))
theorem lenSS_ok {w:World} {D:Nat} {x:List Nat} {t:Tok} (h:x.length≤1000):Ok w D (lenSS x t):=
  ⟨fun _=>rfl,fun A st R C B K _ H=>fnCode (by decide +kernel) plain_len entry_len (args_len1 _)
    (wpAny_len_body (E:=fun e s'=>R (.error e) s') (Q:=fun r s'=>R (.ok (.ret r)) s') (typeIs_str _ _ _) F.slot_str_len F.entry_str_len (F.args_str_len_1 _) (gives_str_len (S x) t) (by omega) (by
      have:(S x).length=x.length:=rfl
      omega) (H _ (nu [st.heap.objs.size,st.toks+1+1,st.toks+1]) ⟨⟨fun _ _ e _=>e,Nat.le_refl _,rfl,rfl⟩,rfl,rfl,by simp [lenSS,pureS],fun _ h=>(nomatch h),fun _ h=>(nomatch h),List.nodup_nil⟩))⟩
noncomputable def gtIS (x y:Int) (t u:Tok) (b:Bool):Sm:=pureS (bi "int.__gt__" [.int x t,.int y u]) fun _=>.ok (.ret (.bool b))
theorem gtIS_ok {w:World} {D:Nat} {x y:Int} {t u:Tok} {b:Bool} (hD:D≤780) (h:decide (x>y)=b):Ok w D (gtIS x y t u b):=by
  subst h
  exact prove hD (fun _=>rfl) (fun _ _=>.nil) (fun _ _=>trivial) 1 [] [] (by decide) (fun n t _=>nu [n,t]) fun d fr gs u R st n ω=>by kernel_rfl
noncomputable def maxS (a b:Int) (t u:Tok) (v:Value):Sm:=pureS (bi "max" [.int a t,.int b u]) fun _=>.ok (.ret v)
theorem max_f {w:World} {d:Nat} (hD:d≤600) {a b:Int} {xa xb:Tok} (h:¬ b>a):Ok w d (maxS a b xa xb (.int a xa)):=by
  refine yv (fun n t=>yd 3 [0,1,2] [] [] (gtIS b a xb xa false) fun v1=>.nil) (fun n t=>xd (gtIS_ok (by omega) (decide_eq_false h)) fun _=>trivial) 65 [1,1,1,0,0,1,3,5,3,3,3,3,1,3,3,5,5,5,5,3,3,3,3,1,3,3,1,0,0,6,4,4,4,4,2,4,4,3,6,6,6] (fun n t ω=>((fun v1=>nu [(v1.a 0+2),(v1.a 1)] [] []) (ω 15).v))
theorem max_t {w:World} {d:Nat} (hD:d≤600) {a b:Int} {xa xb:Tok} (h:b>a):Ok w d (maxS a b xa xb (.int b xb)):=by
  refine yv (fun n t=>yd 3 [0,1,2] [] [] (gtIS b a xb xa true) fun v1=>.nil) (fun n t=>xd (gtIS_ok (by omega) (decide_eq_true h)) fun _=>trivial) 68 [1,1,1,0,0,1,3,5,3,3,3,3,1,3,3,5,5,5,5,3,3,3,3,1,3,3,1,0,0,6,6,6,6,4,4,4,4,2,4,4,3,6,6,6] (fun n t ω=>((fun v1=>nu [(v1.a 0+2),(v1.a 1)] [] []) (ω 15).v))
noncomputable def abcT:List Nat:=[65,66,67,68,69,70,71,72,73,74,75,76,77,78,79,80,81,82,83,84,85,86,87,88]
noncomputable def Nm.ix (q:Nm):Int:=6*q.k+q.l.length-3
noncomputable def Nm.ch (q:Nm):Nat:=65+q.ix.toNat
structure Nm.ok (s4:V4 Nat) (q:Nm):Prop where
  good:q.good s4
  len:3≤q.l.length∧q.l.length≤8
theorem Nm.ok.abc {s4:V4 Nat} {q:Nm} (h:q.ok s4):(seqIndex? (6*q.k+q.l.length-3) abcT.length).bind (abcT[·]?)=some q.ch:=by
  have h1:=h.good.1
  have h2:=h.len
  unfold Nm.ch Nm.ix
  generalize hj:(6*q.k+q.l.length-3)=j
  have hj0:0≤j:=by omega
  have hj1:j<24:=by omega
  have e:seqIndex? j abcT.length=some j.toNat:=by
    unfold seqIndex?
    simp only [show ¬ j<0 by omega,if_false]
    rw [if_pos (by have:(abcT.length:Int)=24:=rfl; rw [this]; simp; omega)]
  rw [e]
  have key:∀ m<24,abcT[m]?=some (65+m):=by decide
  exact key _ (by omega)
noncomputable abbrev v6l (C:V6 Nat):List Nat:=[C.a,C.b,C.c,C.d,C.e,C.f]
theorem v6l_get {C:V6 Nat} {i:Int} (h0:0≤i) (h:i<6):(seqIndex? i (v6l C).length).bind ((v6l C)[·]?)=some (C.at i):=by
  rcases six h0 h with rfl | rfl | rfl | rfl | rfl | rfl <;> rfl
theorem v6l_at {C:V6 Nat} {i:Int} (h0:0≤i) (h:i<6):(v6l C)[i.toNat]?=some (C.at i):=by
  rcases six h0 h with rfl | rfl | rfl | rfl | rfl | rfl <;> rfl
structure Lt (C:V6 Nat):Prop where
  abc:∀ x∈v6l C,65≤x∧x<89
  nd:(v6l C).Nodup
theorem emL_ok {w:World} {d:Nat} {C:V6 Nat} {tw tg:Tok} {j k:Int} {b:Bool} (hD:d≤600) (h:Lt C) (hj:0≤j∧j<6) (hk:0≤k∧k<6) (hb:decide (j<k)=b):Ok w d (emS (dotS (C.at j) (C.at k)) (v6l C) tw tg b):=by
  have e:decide (j.toNat<k.toNat)=b:=by
    rw [← hb]
    have:j.toNat<k.toNat↔j<k:=by omega
    simp only [this]
  rw [← e]
  exact em_ok hD h.abc h.nd (by omega) (by omega) (v6l_at hj.1 hj.2) (v6l_at hk.1 hk.2)
noncomputable abbrev htE (L kc sc rc:Addr):Env:=envF 21 152 151 (S [95,108,97,119,95,104,101,105,103,104,116,115,46,60,108,111,99,97,108,115,62,46]) L [(S [107,105,110,100,115],kc),(S [115,105,103,110,115],sc),(S [114,111,119],rc)]
noncomputable def hfr (w:World) (k:Tk) (rm hl:Addr) (C:V6 Nat) (tt:Tok) (K:Int) (tK:Tok) (best:Int) (tb:Tok) (jv av:Value):Obj:=
  frm #[en w.params (S [100,101,112,101,110,100,115]) k.a (.ref rm),en w.params (S [116,101,120,116]) k.b (.str (S (v6l C)) tt),en w.params (S [104,101,105,103,104,116,115]) k.c (.ref hl),en w.params (S [107]) k.d (.int K tK),
    en w.params (S [98,101,115,116]) k.e (.int best tb),en w.params (S [106]) k.f jv,en w.params (S [97,104,101,97,100]) k.g av] 7
noncomputable def hfr5 (w:World) (k:Tk) (rm hl:Addr) (C:V6 Nat) (tt:Tok) (K:Int) (tK:Tok) (best:Int) (tb:Tok):Obj:=
  frm #[en w.params (S [100,101,112,101,110,100,115]) k.a (.ref rm),en w.params (S [116,101,120,116]) k.b (.str (S (v6l C)) tt),en w.params (S [104,101,105,103,104,116,115]) k.c (.ref hl),en w.params (S [107]) k.d (.int K tK),
    en w.params (S [98,101,115,116]) k.e (.int best tb)] 5
noncomputable def htI (w:World) (L jt hl kl kc sc rc rm:Addr) (k:Tk) (led:Led) (C:V6 Nat) (tt:Tok) (KS:V6 Int) (ku:V6 Tok) (hts:List (Int × Tok)) (eh:Nat) (K:Int) (tK:Tok) (cur rem:Int) (fr:Obj) (best':Int):Sm where
  c:=forC (nthS (forBody (sto 21 3)) 1) (.ref jt) (htE L kc sc rc)
  mpre:=[(L,fr),(jt,rangeO cur rem)]
  rpre:=(hl,lst ⟨ah hts⟩ eh)::(kc,aB (some (.ref kl)))::(kl,li6 KS ku 6)::led
  post v:=[(L,hfr w { k with f:=v.a 3,g:=v.a 4 } rm hl C tt K tK best' (v.a 2) (v.x 0) (v.x 1)),(jt,v.o 0)]
  news _:=[]
  res _:=.ok .next
section
variable {w:World} {d:Nat} {L jt hl kl kc sc rc:Addr} {k:Tk} {r:R4} {D:Dp} {C:V6 Nat} {tt:Tok} {KS:V6 Int} {ku:V6 Tok} {hts:List (Int × Tok)} {eh:Nat} {K:Int} {tK:Tok} {cur rem best best' hj:Int} {bt tj:Tok} {jv av:Value}
theorem hi_f (hD:d≤340) (hC:Lt C) (hk:∀ i,0≤KS.at i∧KS.at i<4) (hj0:0≤cur∧cur<6) (hK:0≤K∧K<6) (hr:0<rem∧rem≤6) (hb:D.m (KS.at cur) (KS.at K)=false)
    (H:∀ bt f g jv av,Ok w d (htI w L jt hl kl kc sc rc r.m { k with f:=f,g:=g } (r.led D) C tt KS ku hts eh K tK (cur+1) (rem-1) (hfr w { k with f:=f,g:=g } r.m hl C tt K tK best bt jv av) best')):Ok w d (htI w L jt hl kl kc sc rc r.m k (r.led D) C tt KS ku hts eh K tK cur rem (hfr w k r.m hl C tt K tK best bt jv av) best'):=by
  have H':∀ bt f g jv av,Ok w d (htI w L jt hl kl kc sc rc r.m { k with f:=f,g:=g } (ak r D (KS.at cur)) C tt KS ku hts eh K tK (cur+1) (rem-1) (hfr w { k with f:=f,g:=g } r.m hl C tt K tK best bt jv av) best'):=fun bt f g jv av=>ao (H bt f g jv av) (.cons _ (.cons _ (.cons _ (ai (hk _)).symm)))
  refine ao (s:=htI w L jt hl kl kc sc rc r.m k (ak r D (KS.at cur)) C tt KS ku hts eh K tK cur rem (hfr w k r.m hl C tt K tK best bt jv av) best') ?_ (.cons _ (.cons _ (.cons _ (ai (hk _)))))
  clear H
  refine yt (fun n t=>yd 0 [] [1] [] (rngS jt cur rem) fun v1=>yc [4] (ag kl (vi6 KS ku) 6 cur (v1.a 2) (.int (KS.at cur) (ku.at cur))) fun v2=>yc [5] (ag r.m r.rows 4 (KS.at cur) (ku.at cur) (.ref (r.at (KS.at cur)))) fun v3=>yc [4] (ag kl (vi6 KS ku) 6 K tK (.int (KS.at K) (ku.at K))) fun v4=>yc [6] (ag (r.at (KS.at cur)) (D.rowL (KS.at cur)) 4 (KS.at K) (ku.at K) (.bool false)) fun v5=>.nil) (fun n t=>xd (aP (by omega) hr.1 hr.2) fun _=>xc (ab (by omega) hj0.1 (aI hj0.1 hj0.2)) fun _=>xc (ab (by omega) (hk _).1 (am (hk _).1 (hk _).2)) fun _=>xc (ab (by omega) hK.1 (aI hK.1 hK.2)) fun _=>xc (ab (by omega) (hk _).1 (ap (hk _) hb)) fun _=>trivial) (fun n t ω=>(it5 0 [] [0,1] [2,3,4,5,6,7,8,9] (htI w L jt hl kl kc sc rc r.m k (ak r D (KS.at cur)) C tt KS ku hts eh K tK (cur+1) (rem-1) (hfr w k r.m hl C tt K tK best bt (.int cur ((ω 0).v.a 2)) av) best'))) (fun n t ω=>H' _ k.f k.g _ _) 44 [4,0,2,2,2,8,2,10,10,10,12,12,12,8,2,10,10,10,14,14,14]
theorem hi_n (hD:d≤340) (hC:Lt C) (hk:∀ i,0≤KS.at i∧KS.at i<4) (hj0:0≤cur∧cur<6) (hK:0≤K∧K<6) (hr:0<rem∧rem≤6) (hb:D.m (KS.at cur) (KS.at K)=true) (hc:¬ cur<K)
    (H:∀ bt f g jv av,Ok w d (htI w L jt hl kl kc sc rc r.m { k with f:=f,g:=g } (r.led D) C tt KS ku hts eh K tK (cur+1) (rem-1) (hfr w { k with f:=f,g:=g } r.m hl C tt K tK best bt jv av) best')):Ok w d (htI w L jt hl kl kc sc rc r.m k (r.led D) C tt KS ku hts eh K tK cur rem (hfr w k r.m hl C tt K tK best bt jv av) best'):=by
  have H':∀ bt f g jv av,Ok w d (htI w L jt hl kl kc sc rc r.m { k with f:=f,g:=g } (ak r D (KS.at cur)) C tt KS ku hts eh K tK (cur+1) (rem-1) (hfr w { k with f:=f,g:=g } r.m hl C tt K tK best bt jv av) best'):=fun bt f g jv av=>ao (H bt f g jv av) (.cons _ (.cons _ (.cons _ (ai (hk _)).symm)))
  refine ao (s:=htI w L jt hl kl kc sc rc r.m k (ak r D (KS.at cur)) C tt KS ku hts eh K tK cur rem (hfr w k r.m hl C tt K tK best bt jv av) best') ?_ (.cons _ (.cons _ (.cons _ (ai (hk _)))))
  clear H
  refine yt (fun n t=>yd 0 [] [1] [] (rngS jt cur rem) fun v1=>yc [4] (ag kl (vi6 KS ku) 6 cur (v1.a 2) (.int (KS.at cur) (ku.at cur))) fun v2=>yc [5] (ag r.m r.rows 4 (KS.at cur) (ku.at cur) (.ref (r.at (KS.at cur)))) fun v3=>yc [4] (ag kl (vi6 KS ku) 6 K tK (.int (KS.at K) (ku.at K))) fun v4=>yc [6] (ag (r.at (KS.at cur)) (D.rowL (KS.at cur)) 4 (KS.at K) (ku.at K) (.bool true)) fun v5=>yd 1 [] [] [] (ay (v6l C) cur tt (v1.a 2) (C.at cur)) fun v6=>yd 2 [] [] [] (ay (v6l C) K tt tK (C.at K)) fun v7=>yd 2 [] [] [] (emS (dotS (C.at cur) (C.at K)) (v6l C) (v7.a 1+2) tt false) fun v8=>yc [] (ltIS cur K (v1.a 2) tK false) fun v9=>.nil) (fun n t=>xd (aP (by omega) hr.1 hr.2) fun _=>xc (ab (by omega) hj0.1 (aI hj0.1 hj0.2)) fun _=>xc (ab (by omega) (hk _).1 (am (hk _).1 (hk _).2)) fun _=>xc (ab (by omega) hK.1 (aI hK.1 hK.2)) fun _=>xc (ab (by omega) (hk _).1 (ap (hk _) hb)) fun _=>xd (af (v6l_get hj0.1 hj0.2) (by omega)) fun _=>xd (af (v6l_get hK.1 hK.2) (by omega)) fun _=>xd (emL_ok (by omega) hC hj0 hK (decide_eq_false hc)) fun _=>xc (ltIS_ok (by omega) (decide_eq_false hc)) fun _=>trivial) (fun n t ω=>(it5 0 [] [0,1] [2,3,4,5,6,7,8,9] (htI w L jt hl kl kc sc rc r.m k (ak r D (KS.at cur)) C tt KS ku hts eh K tK (cur+1) (rem-1) (hfr w k r.m hl C tt K tK best bt (.int cur ((ω 0).v.a 2)) (.bool false)) best'))) (fun n t ω=>H' _ k.f k.g _ _) 114 [4,0,2,2,2,8,2,10,10,10,12,12,12,8,2,10,10,10,14,14,14,0,2,2,2,2,2,0,0,2,2,2,2,2,1,0,0,2]
theorem hi_s (hD:d≤340) (hC:Lt C) (hk:∀ i,0≤KS.at i∧KS.at i<4) (hj0:0≤cur∧cur<6) (hK:0≤K∧K<6) (hr:0<rem∧rem≤6) (hb:D.m (KS.at cur) (KS.at K)=true) (hc:cur<K) (hg:(ah hts)[cur.toNat]?=some (.int hj tj)) (hl6:hts.length≤6) (hm:¬ hj>best)
    (H:∀ bt f g jv av,Ok w d (htI w L jt hl kl kc sc rc r.m { k with f:=f,g:=g } (r.led D) C tt KS ku hts eh K tK (cur+1) (rem-1) (hfr w { k with f:=f,g:=g } r.m hl C tt K tK best bt jv av) best')):Ok w d (htI w L jt hl kl kc sc rc r.m k (r.led D) C tt KS ku hts eh K tK cur rem (hfr w k r.m hl C tt K tK best bt jv av) best'):=by
  have H':∀ bt f g jv av,Ok w d (htI w L jt hl kl kc sc rc r.m { k with f:=f,g:=g } (ak r D (KS.at cur)) C tt KS ku hts eh K tK (cur+1) (rem-1) (hfr w { k with f:=f,g:=g } r.m hl C tt K tK best bt jv av) best'):=fun bt f g jv av=>ao (H bt f g jv av) (.cons _ (.cons _ (.cons _ (ai (hk _)).symm)))
  refine ao (s:=htI w L jt hl kl kc sc rc r.m k (ak r D (KS.at cur)) C tt KS ku hts eh K tK cur rem (hfr w k r.m hl C tt K tK best bt jv av) best') ?_ (.cons _ (.cons _ (.cons _ (ai (hk _)))))
  clear H
  refine yt (fun n t=>yd 0 [] [1] [] (rngS jt cur rem) fun v1=>yc [4] (ag kl (vi6 KS ku) 6 cur (v1.a 2) (.int (KS.at cur) (ku.at cur))) fun v2=>yc [5] (ag r.m r.rows 4 (KS.at cur) (ku.at cur) (.ref (r.at (KS.at cur)))) fun v3=>yc [4] (ag kl (vi6 KS ku) 6 K tK (.int (KS.at K) (ku.at K))) fun v4=>yc [6] (ag (r.at (KS.at cur)) (D.rowL (KS.at cur)) 4 (KS.at K) (ku.at K) (.bool true)) fun v5=>yd 1 [] [] [] (ay (v6l C) cur tt (v1.a 2) (C.at cur)) fun v6=>yd 2 [] [] [] (ay (v6l C) K tt tK (C.at K)) fun v7=>yd 2 [] [] [] (emS (dotS (C.at cur) (C.at K)) (v6l C) (v7.a 1+2) tt true) fun v8=>yc [] (ltIS cur K (v1.a 2) tK true) fun v9=>yc [2] (ag hl (ah hts) eh cur (v1.a 2) (.int hj tj)) fun v10=>yc [] (maxS best hj bt tj (.int best bt)) fun v11=>.nil) (fun n t=>xd (aP (by omega) hr.1 hr.2) fun _=>xc (ab (by omega) hj0.1 (aI hj0.1 hj0.2)) fun _=>xc (ab (by omega) (hk _).1 (am (hk _).1 (hk _).2)) fun _=>xc (ab (by omega) hK.1 (aI hK.1 hK.2)) fun _=>xc (ab (by omega) (hk _).1 (ap (hk _) hb)) fun _=>xd (af (v6l_get hj0.1 hj0.2) (by omega)) fun _=>xd (af (v6l_get hK.1 hK.2) (by omega)) fun _=>xd (emL_ok (by omega) hC hj0 hK (decide_eq_true hc)) fun _=>xc (ltIS_ok (by omega) (decide_eq_true hc)) fun _=>xc (ab (by omega) hj0.1 hg (by rw [aJ]; exact hl6)) fun _=>xc (max_f (by omega) hm) fun _=>trivial) (fun n t ω=>(it5 0 [] [0,1] [2,3,4,5,6,7,8,9] (htI w L jt hl kl kc sc rc r.m k (ak r D (KS.at cur)) C tt KS ku hts eh K tK (cur+1) (rem-1) (hfr w k r.m hl C tt K tK best bt (.int cur ((ω 0).v.a 2)) (.bool true)) best'))) (fun n t ω=>H' _ k.f k.g _ _) 139 [4,0,2,2,2,8,2,10,10,10,12,12,12,8,2,10,10,10,14,14,14,0,2,2,2,2,2,0,0,2,2,2,2,2,1,0,0,2,0,0,2,2,2,6,6,6,0,2,2]
theorem hi_g (hD:d≤340) (hC:Lt C) (hk:∀ i,0≤KS.at i∧KS.at i<4) (hj0:0≤cur∧cur<6) (hK:0≤K∧K<6) (hr:0<rem∧rem≤6) (hb:D.m (KS.at cur) (KS.at K)=true) (hc:cur<K) (hg:(ah hts)[cur.toNat]?=some (.int hj tj)) (hl6:hts.length≤6) (hm:hj>best)
    (H:∀ bt f g jv av,Ok w d (htI w L jt hl kl kc sc rc r.m { k with f:=f,g:=g } (r.led D) C tt KS ku hts eh K tK (cur+1) (rem-1) (hfr w { k with f:=f,g:=g } r.m hl C tt K tK hj bt jv av) best')):Ok w d (htI w L jt hl kl kc sc rc r.m k (r.led D) C tt KS ku hts eh K tK cur rem (hfr w k r.m hl C tt K tK best bt jv av) best'):=by
  have H':∀ bt f g jv av,Ok w d (htI w L jt hl kl kc sc rc r.m { k with f:=f,g:=g } (ak r D (KS.at cur)) C tt KS ku hts eh K tK (cur+1) (rem-1) (hfr w { k with f:=f,g:=g } r.m hl C tt K tK hj bt jv av) best'):=fun bt f g jv av=>ao (H bt f g jv av) (.cons _ (.cons _ (.cons _ (ai (hk _)).symm)))
  refine ao (s:=htI w L jt hl kl kc sc rc r.m k (ak r D (KS.at cur)) C tt KS ku hts eh K tK cur rem (hfr w k r.m hl C tt K tK best bt jv av) best') ?_ (.cons _ (.cons _ (.cons _ (ai (hk _)))))
  clear H
  refine yt (fun n t=>yd 0 [] [1] [] (rngS jt cur rem) fun v1=>yc [4] (ag kl (vi6 KS ku) 6 cur (v1.a 2) (.int (KS.at cur) (ku.at cur))) fun v2=>yc [5] (ag r.m r.rows 4 (KS.at cur) (ku.at cur) (.ref (r.at (KS.at cur)))) fun v3=>yc [4] (ag kl (vi6 KS ku) 6 K tK (.int (KS.at K) (ku.at K))) fun v4=>yc [6] (ag (r.at (KS.at cur)) (D.rowL (KS.at cur)) 4 (KS.at K) (ku.at K) (.bool true)) fun v5=>yd 1 [] [] [] (ay (v6l C) cur tt (v1.a 2) (C.at cur)) fun v6=>yd 2 [] [] [] (ay (v6l C) K tt tK (C.at K)) fun v7=>yd 2 [] [] [] (emS (dotS (C.at cur) (C.at K)) (v6l C) (v7.a 1+2) tt true) fun v8=>yc [] (ltIS cur K (v1.a 2) tK true) fun v9=>yc [2] (ag hl (ah hts) eh cur (v1.a 2) (.int hj tj)) fun v10=>yc [] (maxS best hj bt tj (.int hj tj)) fun v11=>.nil) (fun n t=>xd (aP (by omega) hr.1 hr.2) fun _=>xc (ab (by omega) hj0.1 (aI hj0.1 hj0.2)) fun _=>xc (ab (by omega) (hk _).1 (am (hk _).1 (hk _).2)) fun _=>xc (ab (by omega) hK.1 (aI hK.1 hK.2)) fun _=>xc (ab (by omega) (hk _).1 (ap (hk _) hb)) fun _=>xd (af (v6l_get hj0.1 hj0.2) (by omega)) fun _=>xd (af (v6l_get hK.1 hK.2) (by omega)) fun _=>xd (emL_ok (by omega) hC hj0 hK (decide_eq_true hc)) fun _=>xc (ltIS_ok (by omega) (decide_eq_true hc)) fun _=>xc (ab (by omega) hj0.1 hg (by rw [aJ]; exact hl6)) fun _=>xc (max_t (by omega) hm) fun _=>trivial) (fun n t ω=>(it5 0 [] [0,1] [2,3,4,5,6,7,8,9] (htI w L jt hl kl kc sc rc r.m k (ak r D (KS.at cur)) C tt KS ku hts eh K tK (cur+1) (rem-1) (hfr w k r.m hl C tt K tK hj tj (.int cur ((ω 0).v.a 2)) (.bool true)) best'))) (fun n t ω=>H' _ k.f k.g _ _) 139 [4,0,2,2,2,8,2,10,10,10,12,12,12,8,2,10,10,10,14,14,14,0,2,2,2,2,2,0,0,2,2,2,2,2,1,0,0,2,0,0,2,2,2,6,6,6,0,2,2]
theorem hi_n5 (hD:d≤340) (hC:Lt C) (hk:∀ i,0≤KS.at i∧KS.at i<4) (hj0:0≤cur∧cur<6) (hK:0≤K∧K<6) (hr:0<rem∧rem≤6) (hb:D.m (KS.at cur) (KS.at K)=true) (hc:¬ cur<K)
    (H:∀ bt f g jv av,Ok w d (htI w L jt hl kl kc sc rc r.m { k with f:=f,g:=g } (r.led D) C tt KS ku hts eh K tK (cur+1) (rem-1) (hfr w { k with f:=f,g:=g } r.m hl C tt K tK best bt jv av) best')):Ok w d (htI w L jt hl kl kc sc rc r.m k (r.led D) C tt KS ku hts eh K tK cur rem (hfr5 w k r.m hl C tt K tK best bt) best'):=by
  have H':∀ bt f g jv av,Ok w d (htI w L jt hl kl kc sc rc r.m { k with f:=f,g:=g } (ak r D (KS.at cur)) C tt KS ku hts eh K tK (cur+1) (rem-1) (hfr w { k with f:=f,g:=g } r.m hl C tt K tK best bt jv av) best'):=fun bt f g jv av=>ao (H bt f g jv av) (.cons _ (.cons _ (.cons _ (ai (hk _)).symm)))
  refine ao (s:=htI w L jt hl kl kc sc rc r.m k (ak r D (KS.at cur)) C tt KS ku hts eh K tK cur rem (hfr5 w k r.m hl C tt K tK best bt) best') ?_ (.cons _ (.cons _ (.cons _ (ai (hk _)))))
  clear H
  refine yt (fun n t=>yd 0 [] [1] [] (rngS jt cur rem) fun v1=>yc [4] (ag kl (vi6 KS ku) 6 cur (v1.a 2) (.int (KS.at cur) (ku.at cur))) fun v2=>yc [5] (ag r.m r.rows 4 (KS.at cur) (ku.at cur) (.ref (r.at (KS.at cur)))) fun v3=>yc [4] (ag kl (vi6 KS ku) 6 K tK (.int (KS.at K) (ku.at K))) fun v4=>yc [6] (ag (r.at (KS.at cur)) (D.rowL (KS.at cur)) 4 (KS.at K) (ku.at K) (.bool true)) fun v5=>yd 1 [] [] [] (ay (v6l C) cur tt (v1.a 2) (C.at cur)) fun v6=>yd 2 [] [] [] (ay (v6l C) K tt tK (C.at K)) fun v7=>yd 2 [] [] [] (emS (dotS (C.at cur) (C.at K)) (v6l C) (v7.a 1+2) tt false) fun v8=>yc [] (ltIS cur K (v1.a 2) tK false) fun v9=>.nil) (fun n t=>xd (aP (by omega) hr.1 hr.2) fun _=>xc (ab (by omega) hj0.1 (aI hj0.1 hj0.2)) fun _=>xc (ab (by omega) (hk _).1 (am (hk _).1 (hk _).2)) fun _=>xc (ab (by omega) hK.1 (aI hK.1 hK.2)) fun _=>xc (ab (by omega) (hk _).1 (ap (hk _) hb)) fun _=>xd (af (v6l_get hj0.1 hj0.2) (by omega)) fun _=>xd (af (v6l_get hK.1 hK.2) (by omega)) fun _=>xd (emL_ok (by omega) hC hj0 hK (decide_eq_false hc)) fun _=>xc (ltIS_ok (by omega) (decide_eq_false hc)) fun _=>trivial) (fun n t ω=>((fun v1 v8=>(it5 0 [] [0,1] [2,3,4,5,6,7,8,9] (htI w L jt hl kl kc sc rc r.m { k with f:=v1.a 1,g:=v8.a 1 } (ak r D (KS.at cur)) C tt KS ku hts eh K tK (cur+1) (rem-1) (hfr w { k with f:=v1.a 1,g:=v8.a 1 } r.m hl C tt K tK best bt (.int cur (v1.a 2)) (.bool false)) best'))) (ω 0).v (ω 7).v)) (fun n t ω=>H' _ _ _ _ _) 114 [4,0,2,2,2,8,2,10,10,10,12,12,12,8,2,10,10,10,14,14,14,0,2,2,2,2,2,0,0,2,2,2,2,2,1,0,0,2]
theorem hi_exit (hD:d≤700):Ok w d (htI w L jt hl kl kc sc rc r.m k (r.led D) C tt KS ku hts eh K tK cur 0 (hfr w k r.m hl C tt K tK best bt jv av) best):=by
  refine yv (fun n t=>.nil) (fun n t=>trivial) 15 [4,4,4,4,4,3] (fun n t ω=>nu [(n+2),t,bt,k.f,k.g] [rangeO cur 0] [jv,av])
noncomputable def stepF (D:Dp) (KS:V6 Int) (hs:List Int) (K j b:Int):Int:=if D.m (KS.at j) (KS.at K) && decide (j<K) then (if hs[j.toNat]?.getD 0>b then hs[j.toNat]?.getD 0 else b) else b
noncomputable def bg (D:Dp) (KS:V6 Int) (hs:List Int) (K:Int):Nat→Int→Int→Int
  | 0,_,b=>b
  | n+1,j,b=>bg D KS hs K n (j+1) (stepF D KS hs K j b)
theorem hi_step (hD:d≤340) (hC:Lt C) (hk:∀ i,0≤KS.at i∧KS.at i<4) (hj0:0≤cur∧cur<6) (hK:0≤K∧K<6) (hr:0<rem∧rem≤6) (hKl:K≤hts.length) (hl6:hts.length≤6)
    (H:∀ bt f g jv av,Ok w d (htI w L jt hl kl kc sc rc r.m { k with f:=f,g:=g } (r.led D) C tt KS ku hts eh K tK (cur+1) (rem-1) (hfr w { k with f:=f,g:=g } r.m hl C tt K tK (stepF D KS (hts.map (·.1)) K cur best) bt jv av) best')) :
    Ok w d (htI w L jt hl kl kc sc rc r.m k (r.led D) C tt KS ku hts eh K tK cur rem (hfr w k r.m hl C tt K tK best bt jv av) best'):=by
  unfold stepF at H
  cases hb:D.m (KS.at cur) (KS.at K) with
  | false=>
    rw [hb] at H
    exact hi_f hD hC hk hj0 hK hr hb H
  | true=>
    rw [hb] at H
    by_cases hc:cur<K
    · have hlt:cur.toNat<hts.length:=by omega
      have hg:(ah hts)[cur.toNat]?=some (.int hts[cur.toNat].1 hts[cur.toNat].2):=by
        rw [ivals_get,List.getElem?_eq_getElem hlt]; rfl
      have e:(hts.map (·.1))[cur.toNat]?.getD 0=hts[cur.toNat].1:=by
        rw [List.getElem?_map,List.getElem?_eq_getElem hlt]; rfl
      rw [e] at H
      simp only [hc,decide_true,Bool.and_self,if_true] at H
      by_cases hm:hts[cur.toNat].1>best
      · rw [if_pos hm] at H
        exact hi_g hD hC hk hj0 hK hr hb hc hg hl6 hm H
      · rw [if_neg hm] at H
        exact hi_s hD hC hk hj0 hK hr hb hc hg hl6 hm H
    · simp only [hc,decide_false,Bool.and_false,Bool.false_eq_true,if_false] at H
      exact hi_n hD hC hk hj0 hK hr hb hc H
theorem hi_loop (hD:d≤340) (hC:Lt C) (hk:∀ i,0≤KS.at i∧KS.at i<4) (hK:0≤K∧K<6) (hKl:K≤hts.length) (hl6:hts.length≤6):∀ (n:Nat) (k:Tk) (cur best:Int) (bt:Tok) (jv av:Value),0≤cur→cur+n=6 →
    Ok w d (htI w L jt hl kl kc sc rc r.m k (r.led D) C tt KS ku hts eh K tK cur n (hfr w k r.m hl C tt K tK best bt jv av) (bg D KS (hts.map (·.1)) K n cur best))
  | 0,_,_,_,_,_,_,_,_=>hi_exit (by omega)
  | n+1,k,cur,best,bt,jv,av,h0,h=>hi_step hD hC hk ⟨h0,by omega⟩ hK ⟨by omega,by omega⟩ hKl hl6 fun bt f g jv av=>by
    have e1:((n+1:Nat):Int)-1=(n:Int):=by omega
    rw [e1]
    exact hi_loop hD hC hk hK hKl hl6 n _ (cur+1) _ bt jv av (by omega) (by omega)
theorem Dp.m_self (D:Dp) {x:Int} (h:0≤x∧x<4):D.m x x=true:=by
  rcases four h.1 h.2 with rfl | rfl | rfl | rfl <;> rfl
theorem hi_all5 (hD:d≤340) (hC:Lt C) (hk:∀ i,0≤KS.at i∧KS.at i<4) (hl6:hts.length≤6) (hb:bg D KS (hts.map (·.1)) 0 6 0 0=best'):Ok w d (htI w L jt hl kl kc sc rc r.m k (r.led D) C tt KS ku hts eh 0 tK 0 6 (hfr5 w k r.m hl C tt 0 tK 0 bt) best'):=by
  subst hb
  refine hi_n5 hD hC hk ⟨by omega,by omega⟩ ⟨by omega,by omega⟩ ⟨by omega,by omega⟩ (D.m_self (hk 0)) (by omega) fun bt f g jv av=>?_
  have z:=hi_loop (w:=w) (d:=d) (L:=L) (jt:=jt) (hl:=hl) (kl:=kl) (kc:=kc) (sc:=sc) (rc:=rc) (r:=r) (D:=D) (tt:=tt) (ku:=ku) (eh:=eh) (tK:=tK) (K:=0) (hts:=hts) hD hC hk ⟨by omega,by omega⟩ (by omega) hl6 5 { k with f:=f,g:=g } 1 0 bt jv av (by omega) (by omega)
  have e:bg D KS (hts.map (·.1)) 0 6 0 0=bg D KS (hts.map (·.1)) 0 5 1 0:=by
    show bg D KS (hts.map (·.1)) 0 5 (0+1) (stepF D KS (hts.map (·.1)) 0 0 0)=_
    unfold stepF
    simp
  rw [e]
  exact z
theorem hi_all (hD:d≤340) (hC:Lt C) (hk:∀ i,0≤KS.at i∧KS.at i<4) (hK:0≤K∧K<6) (hKl:K≤hts.length) (hl6:hts.length≤6) (hb:bg D KS (hts.map (·.1)) K 6 0 0=best'):Ok w d (htI w L jt hl kl kc sc rc r.m k (r.led D) C tt KS ku hts eh K tK 0 6 (hfr w k r.m hl C tt K tK 0 bt jv av) best'):=
  hb ▸ hi_loop hD hC hk hK hKl hl6 6 k 0 0 bt jv av (by omega) (by omega)
end
noncomputable def htS (rl:Addr) (q0 q1 q2 q3 q4 q5:Nm) (er:Nat) (sg:List Nat) (ts:Tok) (r:R4) (D:Dp) (B:V6 Int):Sm where
  c:=.call (.ref 152) ⟨[.ref rl,.str (S sg) ts,.ref r.m],[]⟩
  mpre:=[]
  rpre:=(rl,lst ⟨ae [q0,q1,q2,q3,q4,q5]⟩ er)::r.led D
  post _:=[]
  news v:=[(v.a 2,li6 B ⟨v.a 3,v.a 4,v.a 5,v.a 6,v.a 7,v.a 8⟩ 6)]
  res v:=.ok (.ret (.ref (v.a 2)))
theorem ht_all {w:World} {d:Nat} (hD:d≤220) {rl:Addr} {q0 q1 q2 q3 q4 q5:Nm} {er:Nat} {sg:List Nat} {ts:Tok} {r:R4} {D:Dp} {s4:V4 Nat} {c0 c1 c2 c3 c4 c5:Nat} {b0 b1 b2 b3 b4 b5:Int} (hC:Lt ⟨c0,c1,c2,c3,c4,c5⟩) (hk:∀ i,0≤(V6.mk q0.k q1.k q2.k q3.k q4.k q5.k).at i∧(V6.mk q0.k q1.k q2.k q3.k q4.k q5.k).at i<4) (h0:q0.ok s4) (h1:q1.ok s4) (h2:q2.ok s4) (h3:q3.ok s4) (h4:q4.ok s4) (h5:q5.ok s4) {re0 re1 re2 re3 re4 re5:List Nat} (r0:Builtin.Str.occurrences (S sg) (S [s4.at q0.k]) 0 (S sg).length 1=q0.k.toNat::re0) (r1:Builtin.Str.occurrences (S sg) (S [s4.at q1.k]) 0 (S sg).length 1=q1.k.toNat::re1) (r2:Builtin.Str.occurrences (S sg) (S [s4.at q2.k]) 0 (S sg).length 1=q2.k.toNat::re2) (r3:Builtin.Str.occurrences (S sg) (S [s4.at q3.k]) 0 (S sg).length 1=q3.k.toNat::re3) (r4:Builtin.Str.occurrences (S sg) (S [s4.at q4.k]) 0 (S sg).length 1=q4.k.toNat::re4) (r5:Builtin.Str.occurrences (S sg) (S [s4.at q5.k]) 0 (S sg).length 1=q5.k.toNat::re5) (a0:(seqIndex? (6*q0.k+q0.l.length-3) abcT.length).bind (abcT[·]?)=some c0) (a1:(seqIndex? (6*q1.k+q1.l.length-3) abcT.length).bind (abcT[·]?)=some c1) (a2:(seqIndex? (6*q2.k+q2.l.length-3) abcT.length).bind (abcT[·]?)=some c2) (a3:(seqIndex? (6*q3.k+q3.l.length-3) abcT.length).bind (abcT[·]?)=some c3) (a4:(seqIndex? (6*q4.k+q4.l.length-3) abcT.length).bind (abcT[·]?)=some c4) (a5:(seqIndex? (6*q5.k+q5.l.length-3) abcT.length).bind (abcT[·]?)=some c5) (e0:bg D ⟨q0.k,q1.k,q2.k,q3.k,q4.k,q5.k⟩ [] 0 6 0 0=b0) (e1:bg D ⟨q0.k,q1.k,q2.k,q3.k,q4.k,q5.k⟩ [b0+1] 1 6 0 0=b1) (e2:bg D ⟨q0.k,q1.k,q2.k,q3.k,q4.k,q5.k⟩ [b0+1,b1+1] 2 6 0 0=b2) (e3:bg D ⟨q0.k,q1.k,q2.k,q3.k,q4.k,q5.k⟩ [b0+1,b1+1,b2+1] 3 6 0 0=b3) (e4:bg D ⟨q0.k,q1.k,q2.k,q3.k,q4.k,q5.k⟩ [b0+1,b1+1,b2+1,b3+1] 4 6 0 0=b4) (e5:bg D ⟨q0.k,q1.k,q2.k,q3.k,q4.k,q5.k⟩ [b0+1,b1+1,b2+1,b3+1,b4+1] 5 6 0 0=b5):Ok w d (htS rl q0 q1 q2 q3 q4 q5 er sg ts r D ⟨b0+1,b1+1,b2+1,b3+1,b4+1,b5+1⟩):=by
  refine yv (fun n t=>yd 4 [0,1,2,3,4,5,6] [] [] (ay q0.l (-1) q0.t (t+3) (s4.at q0.k)) fun v1=>yc [] (indexKS sg [s4.at q0.k] ts (v1.a 2) q0.k) fun v2=>yd 3 [] [] [] (ay q1.l (-1) q1.t (v2.a 1+2) (s4.at q1.k)) fun v3=>yc [] (indexKS sg [s4.at q1.k] ts (v3.a 2) q1.k) fun v4=>yd 3 [] [] [] (ay q2.l (-1) q2.t (v4.a 1+2) (s4.at q2.k)) fun v5=>yc [] (indexKS sg [s4.at q2.k] ts (v5.a 2) q2.k) fun v6=>yd 3 [] [] [] (ay q3.l (-1) q3.t (v6.a 1+2) (s4.at q3.k)) fun v7=>yc [] (indexKS sg [s4.at q3.k] ts (v7.a 2) q3.k) fun v8=>yd 3 [] [] [] (ay q4.l (-1) q4.t (v8.a 1+2) (s4.at q4.k)) fun v9=>yc [] (indexKS sg [s4.at q4.k] ts (v9.a 2) q4.k) fun v10=>yd 3 [] [] [] (ay q5.l (-1) q5.t (v10.a 1+2) (s4.at q5.k)) fun v11=>yc [] (indexKS sg [s4.at q5.k] ts (v11.a 2) q5.k) fun v12=>.cons (it5 11 [2,3,4,5] [] [] (lenSS q0.l q0.t)) fun v13=>yd 2 [] [] [] (ay abcT (6*q0.k+q0.l.length-3) (v12.a 1+6) (v13.a 1+2) c0) fun v14=>yd 5 [] [] [] (lenSS q1.l q1.t) fun v15=>yd 2 [] [] [] (ay abcT (6*q1.k+q1.l.length-3) (v14.a 1+2) (v15.a 1+2) c1) fun v16=>yd 5 [] [] [] (lenSS q2.l q2.t) fun v17=>yd 2 [] [] [] (ay abcT (6*q2.k+q2.l.length-3) (v16.a 1+2) (v17.a 1+2) c2) fun v18=>yd 5 [] [] [] (lenSS q3.l q3.t) fun v19=>yd 2 [] [] [] (ay abcT (6*q3.k+q3.l.length-3) (v18.a 1+2) (v19.a 1+2) c3) fun v20=>yd 5 [] [] [] (lenSS q4.l q4.t) fun v21=>yd 2 [] [] [] (ay abcT (6*q4.k+q4.l.length-3) (v20.a 1+2) (v21.a 1+2) c4) fun v22=>yd 5 [] [] [] (lenSS q5.l q5.t) fun v23=>yd 2 [] [] [] (ay abcT (6*q5.k+q5.l.length-3) (v22.a 1+2) (v23.a 1+2) c5) fun v24=>.cons (it5 13 [2,3,4,5,6] [6,21] [17,9,11,1,2,3,4,5] (htI w n (v24.a 0+6) (v24.a 0+2) (n+5) (n+3) (n+2) (n+1) r.m ⟨t,v24.a 1+1,v24.a 1+2,v24.a 1+7,v24.a 1+9,0,0,0,0⟩ (r.led D) ⟨c0,c1,c2,c3,c4,c5⟩ (v24.a 1) ⟨q0.k,q1.k,q2.k,q3.k,q4.k,q5.k⟩ ⟨v2.a 2,v4.a 2,v6.a 2,v8.a 2,v10.a 2,v12.a 2⟩ [] 0 0 (v24.a 1+6) 0 6 (hfr5 w ⟨t,v24.a 1+1,v24.a 1+2,v24.a 1+7,v24.a 1+9,0,0,0,0⟩ r.m (v24.a 0+2) ⟨c0,c1,c2,c3,c4,c5⟩ (v24.a 1) 0 (v24.a 1+6) 0 (v24.a 1+8)) b0)) fun v25=>yd 7 [0,1] [6,23] [17,9,11,1,2,3,4,5] (htI w n (v25.a 0+1) (v24.a 0+2) (n+5) (n+3) (n+2) (n+1) r.m ⟨t,v24.a 1+1,v24.a 1+2,v24.a 1+7,v24.a 1+9,v25.a 3,v25.a 4,0,0⟩ (r.led D) ⟨c0,c1,c2,c3,c4,c5⟩ (v24.a 1) ⟨q0.k,q1.k,q2.k,q3.k,q4.k,q5.k⟩ ⟨v2.a 2,v4.a 2,v6.a 2,v8.a 2,v10.a 2,v12.a 2⟩ [(b0+1,v25.a 1+1)] 1 1 (v25.a 1+2) 0 6 (hfr w ⟨t,v24.a 1+1,v24.a 1+2,v24.a 1+7,v24.a 1+9,v25.a 3,v25.a 4,0,0⟩ r.m (v24.a 0+2) ⟨c0,c1,c2,c3,c4,c5⟩ (v24.a 1) 1 (v25.a 1+2) 0 (v25.a 1+4) (v25.x 0) (v25.x 1)) b1) fun v26=>yd 7 [0,1] [6,25] [17,9,11,1,2,3,4,5] (htI w n (v26.a 0+1) (v24.a 0+2) (n+5) (n+3) (n+2) (n+1) r.m ⟨t,v24.a 1+1,v24.a 1+2,v24.a 1+7,v24.a 1+9,v26.a 3,v26.a 4,0,0⟩ (r.led D) ⟨c0,c1,c2,c3,c4,c5⟩ (v24.a 1) ⟨q0.k,q1.k,q2.k,q3.k,q4.k,q5.k⟩ ⟨v2.a 2,v4.a 2,v6.a 2,v8.a 2,v10.a 2,v12.a 2⟩ [(b0+1,v25.a 1+1),(b1+1,v26.a 1+1)] 2 2 (v26.a 1+2) 0 6 (hfr w ⟨t,v24.a 1+1,v24.a 1+2,v24.a 1+7,v24.a 1+9,v26.a 3,v26.a 4,0,0⟩ r.m (v24.a 0+2) ⟨c0,c1,c2,c3,c4,c5⟩ (v24.a 1) 2 (v26.a 1+2) 0 (v26.a 1+4) (v26.x 0) (v26.x 1)) b2) fun v27=>yd 7 [0,1] [6,27] [17,9,11,1,2,3,4,5] (htI w n (v27.a 0+1) (v24.a 0+2) (n+5) (n+3) (n+2) (n+1) r.m ⟨t,v24.a 1+1,v24.a 1+2,v24.a 1+7,v24.a 1+9,v27.a 3,v27.a 4,0,0⟩ (r.led D) ⟨c0,c1,c2,c3,c4,c5⟩ (v24.a 1) ⟨q0.k,q1.k,q2.k,q3.k,q4.k,q5.k⟩ ⟨v2.a 2,v4.a 2,v6.a 2,v8.a 2,v10.a 2,v12.a 2⟩ [(b0+1,v25.a 1+1),(b1+1,v26.a 1+1),(b2+1,v27.a 1+1)] 3 3 (v27.a 1+2) 0 6 (hfr w ⟨t,v24.a 1+1,v24.a 1+2,v24.a 1+7,v24.a 1+9,v27.a 3,v27.a 4,0,0⟩ r.m (v24.a 0+2) ⟨c0,c1,c2,c3,c4,c5⟩ (v24.a 1) 3 (v27.a 1+2) 0 (v27.a 1+4) (v27.x 0) (v27.x 1)) b3) fun v28=>yd 7 [0,1] [6,29] [17,9,11,1,2,3,4,5] (htI w n (v28.a 0+1) (v24.a 0+2) (n+5) (n+3) (n+2) (n+1) r.m ⟨t,v24.a 1+1,v24.a 1+2,v24.a 1+7,v24.a 1+9,v28.a 3,v28.a 4,0,0⟩ (r.led D) ⟨c0,c1,c2,c3,c4,c5⟩ (v24.a 1) ⟨q0.k,q1.k,q2.k,q3.k,q4.k,q5.k⟩ ⟨v2.a 2,v4.a 2,v6.a 2,v8.a 2,v10.a 2,v12.a 2⟩ [(b0+1,v25.a 1+1),(b1+1,v26.a 1+1),(b2+1,v27.a 1+1),(b3+1,v28.a 1+1)] 4 4 (v28.a 1+2) 0 6 (hfr w ⟨t,v24.a 1+1,v24.a 1+2,v24.a 1+7,v24.a 1+9,v28.a 3,v28.a 4,0,0⟩ r.m (v24.a 0+2) ⟨c0,c1,c2,c3,c4,c5⟩ (v24.a 1) 4 (v28.a 1+2) 0 (v28.a 1+4) (v28.x 0) (v28.x 1)) b4) fun v29=>yd 7 [0,1] [6,31] [17,9,11,1,2,3,4,5] (htI w n (v29.a 0+1) (v24.a 0+2) (n+5) (n+3) (n+2) (n+1) r.m ⟨t,v24.a 1+1,v24.a 1+2,v24.a 1+7,v24.a 1+9,v29.a 3,v29.a 4,0,0⟩ (r.led D) ⟨c0,c1,c2,c3,c4,c5⟩ (v24.a 1) ⟨q0.k,q1.k,q2.k,q3.k,q4.k,q5.k⟩ ⟨v2.a 2,v4.a 2,v6.a 2,v8.a 2,v10.a 2,v12.a 2⟩ [(b0+1,v25.a 1+1),(b1+1,v26.a 1+1),(b2+1,v27.a 1+1),(b3+1,v28.a 1+1),(b4+1,v29.a 1+1)] 5 5 (v29.a 1+2) 0 6 (hfr w ⟨t,v24.a 1+1,v24.a 1+2,v24.a 1+7,v24.a 1+9,v29.a 3,v29.a 4,0,0⟩ r.m (v24.a 0+2) ⟨c0,c1,c2,c3,c4,c5⟩ (v24.a 1) 5 (v29.a 1+2) 0 (v29.a 1+4) (v29.x 0) (v29.x 1)) b5) fun v30=>.nil) (fun n t=>xd (af (last_idx h0.good.2.1 h0.good.2.2.1 h0.good.2.2.2) (by decide)) fun _=>xc (aU h0.good.1.1 r0) fun _=>xd (af (last_idx h1.good.2.1 h1.good.2.2.1 h1.good.2.2.2) (by decide)) fun _=>xc (aU h1.good.1.1 r1) fun _=>xd (af (last_idx h2.good.2.1 h2.good.2.2.1 h2.good.2.2.2) (by decide)) fun _=>xc (aU h2.good.1.1 r2) fun _=>xd (af (last_idx h3.good.2.1 h3.good.2.2.1 h3.good.2.2.2) (by decide)) fun _=>xc (aU h3.good.1.1 r3) fun _=>xd (af (last_idx h4.good.2.1 h4.good.2.2.1 h4.good.2.2.2) (by decide)) fun _=>xc (aU h4.good.1.1 r4) fun _=>xd (af (last_idx h5.good.2.1 h5.good.2.2.1 h5.good.2.2.2) (by decide)) fun _=>xc (aU h5.good.1.1 r5) fun _=>xd (lenSS_ok (by have:=h0.len; omega)) fun _=>xd (af a0 (by have:=h0.len; have:=h0.good.1; omega)) fun _=>xd (lenSS_ok (by have:=h1.len; omega)) fun _=>xd (af a1 (by have:=h1.len; have:=h1.good.1; omega)) fun _=>xd (lenSS_ok (by have:=h2.len; omega)) fun _=>xd (af a2 (by have:=h2.len; have:=h2.good.1; omega)) fun _=>xd (lenSS_ok (by have:=h3.len; omega)) fun _=>xd (af a3 (by have:=h3.len; have:=h3.good.1; omega)) fun _=>xd (lenSS_ok (by have:=h4.len; omega)) fun _=>xd (af a4 (by have:=h4.len; have:=h4.good.1; omega)) fun _=>xd (lenSS_ok (by have:=h5.len; omega)) fun _=>xd (af a5 (by have:=h5.len; have:=h5.good.1; omega)) fun _=>xd (hi_all5 (by omega) hC hk (by simp) e0) fun _=>xd (hi_all (by omega) hC hk (by omega) (by simp) (by simp) e1) fun _=>xd (hi_all (by omega) hC hk (by omega) (by simp) (by simp) e2) fun _=>xd (hi_all (by omega) hC hk (by omega) (by simp) (by simp) e3) fun _=>xd (hi_all (by omega) hC hk (by omega) (by simp) (by simp) e4) fun _=>xd (hi_all (by omega) hC hk (by omega) (by simp) (by simp) e5) fun _=>trivial) 1523 [0,0,3,3,5,5,0,1,1,1,3,2,2,1,0,0,2,9,2,0,10,9,9,1,0,0,9,9,9,9,9,9,2,9,9,0,13,13,5,13,24,24,24,24,22,22,22,22,2,22,22,0,26,26,18,26,24,24,24,24,22,22,22,22,2,22,22,0,26,26,18,26,24,24,24,24,22,22,22,22,2,22,22,0,26,26,18,26,24,24,24,24,22,22,22,22,2,22,22,0,26,26,18,26,24,24,24,24,22,22,22,22,2,22,22,0,26,26,18,26,24,24,24,24,22,22,22,22,2,22,22,3,26,26,26,20,20,0,0,5,5,5,5,5,5,1,0,0,5,5,5,5,7,2,0,10,7,7,1,0,0,7,7,7,7,7,7,7,7,7,7,7,0,11,11,20,11,24,24,24,24,24,0,0,16,11,2,2,2,2,2,32,32,32,32,30,30,30,30,30,30,30,30,30,0,34,34,20,34,24,24,24,24,24,0,0,16,34,2,2,2,2,2,32,32,32,32,30,30,30,30,30,30,30,30,30,0,34,34,20,34,24,24,24,24,24,0,0,16,34,2,2,2,2,2,32,32,32,32,30,30,30,30,30,30,30,30,30,0,34,34,20,34,24,24,24,24,24,0,0,16,34,2,2,2,2,2,32,32,32,32,30,30,30,30,30,30,30,30,30,0,34,34,20,34,24,24,24,24,24,0,0,16,34,2,2,2,2,2,32,32,32,32,30,30,30,30,30,30,30,30,30,0,34,34,20,34,24,24,24,24,24,0,0,16,34,2,2,2,2,2,32,32,32,32,30,30,30,30,30,3,34,34,34,32,32,0,14,14,0,14,14,0,0,7,7,7,7,7,7,1,0,0,7,7,7,7,9,9,9,9,9,9,9,9,9,9,0,14,14,0,14,14,0,0,11,11,11,11,11,11,1,0,0,11,11,11,11,13,14,36,36,36,36,14,36,36,36,36,40,40,40,40,40,40,40,40,40,0,14,14,0,14,14,0,0,1,1,1,1,1,1,1,0,0,1,1,1,1,3,14,36,36,36,36,14,36,36,36,36,40,40,40,40,40,40,40,40,40,0,14,14,0,14,14,0,0,1,1,1,1,1,1,1,0,0,1,1,1,1,3,14,36,36,36,36,14,36,36,36,36,40,40,40,40,40,40,40,40,40,0,14,14,0,14,14,0,0,1,1,1,1,1,1,1,0,0,1,1,1,1,3,14,36,36,36,36,14,36,36,36,36,40,40,40,40,40,40,40,40,40,0,14,14,0,14,14,0,0,1,1,1,1,1,1,1,0,0,1,1,1,1,3,14,36,36,36,36,14,36,36,36,36,40,40,40,40,40,40,40,40,40,0,14,14,0,14,14,0,0,1,1,1,1,1,1,1,0,0,1,1,1,1,3,14,36,36,36,36,14,36,36,36,36,40,40,40,40,40,3,14] (fun n t ω=>((fun v30=>nu [(v30.a 0+2),(v30.a 1+2),(ω 3263).v.a 0+2,(ω 7359).v.a 1+1,(ω 23743).v.a 1+1,(ω 89279).v.a 1+1,(ω 351423).v.a 1+1,(ω 1399999).v.a 1+1,v30.a 1+1] [] []) (ω 5594303).v)) [35]
noncomputable def siO (x:List Nat) (t:Tok) (i:Int):Obj:=⟨.type (strIterType (S x)),none,.fields #[.str (S x) t,.int i 0],#[]⟩
noncomputable def enO (a:Addr) (i:Int):Obj:=⟨.type "enumerate",none,.fields #[.none,.bool false,.ref a,.int i 0,.none,.none],#[]⟩
noncomputable def enuS (x:List Nat) (t:Tok):Sm where
  c:=bi "enumerate.__new__" [.type "enumerate",.str (S x) t]
  mpre:=[]
  rpre:=[]
  post _:=[]
  news v:=[(v.a 2,siO x t 0),(v.a 3,enO (v.a 2) 0)]
  res v:=.ok (.ret (.ref (v.a 3)))
theorem enuS_ok {w:World} {D:Nat} {x:List Nat} {t:Tok}:Ok w D (enuS x t):=by
  refine ⟨fun _=>rfl,fun A st R C B K _ H=>?_⟩
  refine codeAny_call_builtin F.called_enumerate.plain F.entry_enumerate_new (wpAny_of_eq (F.newCall_enumerate_1 _) (meets_enumerate_newS (S x) t PR w A R st ?_))
  have hz:(st.heap.push (siO x t 0)).objs.size=st.heap.objs.size+1:=Heap.size_push ..
  have e1:∀ o,((st.heap.push (siO x t 0)).push o).get? st.heap.objs.size=some (siO x t 0):=fun o=>Heap.get?_push_of_some _ (Heap.get?_push_size _ rfl)
  have e2:∀ o,o.isFreed=false→((st.heap.push (siO x t 0)).push o).get? (st.heap.objs.size+1)=some o:=fun o ho=>by rw [← hz]; exact Heap.get?_push_size _ ho
  show R (.ok (.ret (.ref (st.heap.push (siO x t 0)).objs.size))) _
  rw [hz]
  refine H _ (nu [st.heap.objs.size+2,st.toks,st.heap.objs.size,st.heap.objs.size+1]) ⟨⟨fun _ _ e _=>Heap.get?_push_of_some _ (Heap.get?_push_of_some _ e),?_,rfl,rfl⟩,?_,rfl,by simp [enuS],fun _ h=>(nomatch h),fun y hy=>?_,?_⟩
  · show st.heap.objs.size≤((st.heap.push (siO x t 0)).push _).objs.size
    rw [Heap.size_push,hz]; omega
  · show ((st.heap.push (siO x t 0)).push _).objs.size=st.heap.objs.size+2
    rw [Heap.size_push,hz]
  · rcases List.mem_cons.mp hy with rfl | hy
    · exact ⟨e1 _,Nat.le_refl _⟩
    · rcases List.mem_singleton.mp hy with rfl
      exact ⟨e2 _ rfl,Nat.le_succ _⟩
  · show [st.heap.objs.size,st.heap.objs.size+1].Nodup
    simp
noncomputable def Asc (x:List Nat):Prop:=(S x).cps.all (·<128)=true
noncomputable def saO (x:List Nat) (t:Tok) (i:Int):Obj:=⟨.type "str_ascii_iterator",none,.fields #[.str (S x) t,.int i 0],#[]⟩
theorem siO_asc {x:List Nat} {t:Tok} {i:Int} (h:Asc x):siO x t i=saO x t i:=by
  have e:strIterType (S x) = "str_ascii_iterator":=if_pos h
  unfold siO saO
  rw [e]
theorem left1t {kt:KT} {st:Shared} {s:Sm} {l:Addr} {o o':Obj} {f:Obj→Obj} {rest:List Nat} {tk:Nat} (hm:s.mpre=[(l,o)]) (hp:∀ v,s.post v=[(l,o')]) (hn:∀ v,s.news v=[]) (hg:s.gens=[]) (ho:st.heap.get? l=some o) (hf:f o=o') (hfr:o'.isFreed=false) :
    Left kt st { st with heap:=st.heap.update l f,toks:=tk } s (nu (st.heap.objs.size::tk::rest)):=by
  have z:=left1 (kt:=kt) (s:=s) (rest:=rest) hm hp hn hg ho hf hfr
  refine ⟨⟨z.after.keep,z.after.size,z.after.drawn,z.after.os⟩,z.size,rfl,z.gens,fun x hx=>z.post x ?_,fun x hx=>?_,?_⟩
  · rw [hp] at hx ⊢; exact hx
  · rw [hn] at hx; cases hx
  · rw [hn]; exact List.nodup_nil
noncomputable def stnS (it:Addr) (x:List Nat) (t:Tok) (i:Nat) (c:Nat):Sm where
  c:=bi "str_ascii_iterator.__next__" [.ref it]
  mpre:=[(it,saO x t i)]
  rpre:=[]
  post _:=[(it,saO x t (i+1))]
  news _:=[]
  res v:=.ok (.ret (.str (S [c]) (v.a 2)))
theorem be {w:World} {D:Nat} {it:Addr} {x:List Nat} {t:Tok} {i c:Nat} (hc:x[i]?=some c):Ok w D (stnS it x t i c):=by
  refine ⟨fun _=>rfl,fun A st R C B K _ H=>?_⟩
  have ho:st.heap.get? it=some (saO x t i):=K.head
  have hc':(S x).cps[((i:Int)).toNat]?=some c:=by rw [Int.toNat_natCast]; show (⟨x⟩:Array Nat)[i]?=_; simpa using hc
  refine codeAny_call_builtin F.slot_str_ascii_iterator_next.plain F.entry_str_ascii_iterator_next (F.slot_str_ascii_iterator_next.check _ _ _ _ _ _ _ _ ⟨_,ho,rfl⟩ (F.args_str_ascii_iterator_next_1 _) ?_)
  show wpAny _ _ (field (.ref it) 0 >>= _) _ _ st
  refine wpAny_bind (wpAny_field ho rfl (x:=.str (S x) t) rfl ?_)
  show wpAny _ _ (field (.ref it) 1 >>= _) _ _ st
  refine wpAny_bind (wpAny_field ho rfl (x:=.int i 0) rfl ?_)
  simp only [hc']
  refine wpAny_bind (wpAny_setField ho rfl (by simp) ?_)
  refine wpAny_bind (wpAny_mkStr ?_ (by show 1≤sizeLine; decide))
  exact wpAny_pure (H _ (nu [st.heap.objs.size,st.toks+1,st.toks]) (left1t rfl (fun _=>rfl) (fun _=>rfl) rfl ho rfl rfl))
noncomputable def sedS (it:Addr) (x:List Nat) (t:Tok) (i:Nat):Sm where
  c:=bi "str_ascii_iterator.__next__" [.ref it]
  mpre:=[(it,saO x t i)]
  rpre:=[]
  post _:=[(it,⟨.type "str_ascii_iterator",none,.fields #[.none,.int i 0],#[]⟩)]
  news v:=[(v.a 2,⟨.type "StopIteration",(v.o 0).dict,(v.o 0).data,(v.o 0).slots⟩)]
  res v:=.error (.ref (v.a 2))
theorem sedS_ok {w:World} {D:Nat} {it:Addr} {x:List Nat} {t:Tok} {i:Nat} (hc:x[i]?=none):Ok w D (sedS it x t i):=by
  refine ⟨fun _=>rfl,fun A st R C B K _ H=>?_⟩
  have ho:st.heap.get? it=some (saO x t i):=K.head
  have hc':(S x).cps[((i:Int)).toNat]?=none:=by rw [Int.toNat_natCast]; show (⟨x⟩:Array Nat)[i]?=_; simpa using hc
  refine codeAny_call_builtin F.slot_str_ascii_iterator_next.plain F.entry_str_ascii_iterator_next (F.slot_str_ascii_iterator_next.check _ _ _ _ _ _ _ _ ⟨_,ho,rfl⟩ (F.args_str_ascii_iterator_next_1 _) ?_)
  show wpAny _ _ (field (.ref it) 0 >>= _) _ _ st
  refine wpAny_bind (wpAny_field ho rfl (x:=.str (S x) t) rfl ?_)
  show wpAny _ _ (field (.ref it) 1 >>= _) _ _ st
  refine wpAny_bind (wpAny_field ho rfl (x:=.int i 0) rfl ?_)
  simp only [hc']
  refine wpAny_bind (wpAny_rule (wpAny_bind (wpAny_setField ho rfl (by simp) (wpAny_bind (wpAny_letGo ?_)))))
  show wpAny _ _ (newExc (.type "StopIteration") [] >>= _) _ _ _
  refine wpAny_bind ?_
  simp only [newExc,newTuple]
  refine wpAny_bind (wpAny_newObj_type ?_ (by size_fits))
  refine wpAny_bind (m:=firstArgMember _ _) (wpAny_of_eq (a:=Value.none) (by first | rfl | (simp only [firstArgMember]; rfl)) ?_)
  refine wpAny_newObj_type ?_ (by size_fits)
  simp only [raiseNew]
  refine wpAny_bind (wpAny_handled ?_)
  rw [show A.in1.handled=none from C.handled]
  refine wpAny_bind (wpAny_pure (wpAny_throw ?_))
  have hs:Heap.SameBut it st.heap (st.heap.update it (Obj.mapFields fun x=>x.setIfInBounds 0 .none)):=Heap.SameBut.update ..
  have h1:∀ o,((st.heap.update it (Obj.mapFields fun x=>x.setIfInBounds 0 .none)).push o).objs.size=st.heap.objs.size+1:=fun o=>by rw [Heap.size_push,hs.1]
  have h2:∀ o o',(((st.heap.update it (Obj.mapFields fun x=>x.setIfInBounds 0 .none)).push o).push o').objs.size=st.heap.objs.size+2:=fun o o'=>by rw [Heap.size_push,h1]
  refine H _ (nu [st.heap.objs.size+2,st.toks,((st.heap.update it (Obj.mapFields fun x=>x.setIfInBounds 0 .none)).push _).objs.size] [⟨.type "StopIteration",none,.fields (#[.ref (st.heap.update it (Obj.mapFields fun x=>x.setIfInBounds 0 .none)).objs.size,.none,.none,.none,.bool false,.none]++ownMembersOf (.type "StopIteration") []),#[]⟩]) ⟨⟨fun b o e hb=>?_,?_,rfl,rfl⟩,h2 _ _,rfl,by simp [sedS],fun y hy=>?_,fun y hy=>?_,?_⟩
  · exact Heap.get?_push_of_some _ (Heap.get?_push_of_some _ ((hs.2 b (fun e=>hb (by simp [sedS,e]))).trans e))
  · exact Nat.le_trans (by omega) (Nat.le_of_eq (h2 _ _).symm)
  · rcases List.mem_singleton.mp hy with rfl
    exact Heap.get?_push_of_some _ (Heap.get?_push_of_some _ (Heap.get?_update_self _ ho rfl))
  · rcases List.mem_singleton.mp hy with rfl
    exact ⟨Heap.get?_push_size _ rfl,Nat.le_trans (Nat.le_succ _) (Nat.le_of_eq (h1 _).symm)⟩
  · show List.Nodup [_]
    simp
noncomputable def enuA (x:List Nat) (t:Tok):Sm where
  c:=bi "enumerate.__new__" [.type "enumerate",.str (S x) t]
  mpre:=[]
  rpre:=[]
  post _:=[]
  news v:=[(v.a 2,saO x t 0),(v.a 3,enO (v.a 2) 0)]
  res v:=.ok (.ret (.ref (v.a 3)))
theorem enuA_ok {w:World} {D:Nat} {x:List Nat} {t:Tok} (h:Asc x):Ok w D (enuA x t):=by
  have e:enuA x t=enuS x t:=by
    unfold enuA enuS
    rw [siO_asc h]
  rw [e]
  exact enuS_ok
noncomputable def ownB (a b:Addr):Bool:=PySem.W.Fast.tw3471404346716756564 [PySem.W.SL.s14340494229221121180x9,PySem.W.SL.s14339709457334898076x3,PySem.W.SL.s2783514499706994809x17,PySem.W.SL.s2223374115958298951x24,PySem.W.SL.s4428606184754087035x14,PySem.W.SL.s14092991718984965784x21,PySem.W.SL.s5947345187589116515x18] "enumerate" && (some (rawInt a)==some (rawInt b))
noncomputable def ownK (r:Addr) (b:Bool):Sem Unit:=if b=true then PySem.W.R.bindR (rule "for.unpacks-the-owned-tuple") fun _=>PySem.W.Fast.tw12367529300394763782 r 0 .none else pure ()
noncomputable def owT (st:Stmt) (it:Addr) (env:Env) (v:Value) (b:Bool):Sem Fin:=PySem.W.R.onRaiseR (PySem.W.R.bindR (ownK it b) fun _=>PySem.W.R.bindR (PySem.W.Fast.tw17772580674575903948 (forT st) env v) fun _=>PySem.W.R.bindR (PySem.W.Fast.tw12563942051412417395 (forBd st) env) (flowF (forT st) (.ref it) (forBd st) (forEl st) env)) (raiseF env)
theorem ownB_self (a:Addr):ownB a a=true:=by
  unfold ownB
  have h1:(some (rawInt a)==some (rawInt a))=true:=by
    show (rawInt a==rawInt a)=true
    unfold rawInt
    simp
  rw [h1,Bool.and_true]
  kernel_rfl
noncomputable abbrev owS (st:Stmt) (it:Addr) (env:Env) (a:Addr):Sw:=⟨owT st it env (.ref a) (ownB a a),owT st it env (.ref a) true⟩
theorem owS_ok {st:Stmt} {it:Addr} {env:Env} {a:Addr}:∀ V:VS,SwapOk V (owS st it env a).t₀ (owS st it env a).t₁:=fun V c md κ s h=>by
  show X.Means V.x c md κ (owT st it env (.ref a) (ownB a a)) s
  rw [ownB_self]
  exact h
noncomputable def slO (i:Int) (ui:Tok) (p:Value):Obj:=⟨.type "slice",none,.fields #[.int i ui,p,.none],#[]⟩
theorem left0t {kt:KT} {st:Shared} {s:Sm} {tk:Nat} {l:List Nat} (h1:s.mpre=[]) (h2:∀ v,s.post v=[]) (h3:∀ v,s.news v=[]) (h4:s.gens=[]):Left kt st ⟨st.heap,st.gens,st.drawn,tk,st.os⟩ s (nu (st.heap.objs.size::tk::l)):=by
  refine ⟨⟨fun _ _ e _=>e,Nat.le_refl _,rfl,rfl⟩,rfl,rfl,by simp [h4],fun x hx=>?_,fun x hx=>?_,?_⟩
  · rw [h2] at hx; cases hx
  · rw [h3] at hx; cases hx
  · rw [h3]; exact List.nodup_nil
noncomputable def slcS (x:List Nat) (t:Tok) (a:Addr) (i:Nat) (ui:Tok) (p:Value) (y:List Nat):Sm where
  c:=bi "str.__getitem__" [.str (S x) t,.ref a]
  mpre:=[]
  rpre:=[(a,slO i ui p)]
  post _:=[]
  news _:=[]
  res v:=.ok (.ret (.str (S y) (v.a 2)))
theorem slc_ok {w:World} {D:Nat} {x:List Nat} {t:Tok} {a:Addr} {i:Nat} {ui:Tok} {u:Option (Int × Tok)} {y:List Nat} (hx:x.length≤1000) (hy:y.length≤1000)
    (h:(Builtin.Str.strSliceIndices (some (i:Int)) (u.map (·.1)) 1 x.length).filterMap ((⟨x⟩:Array Nat)[·]?)=y) (hw:(Builtin.Str.strSliceIndices (some (i:Int)) (u.map (·.1)) 1 x.length).length=x.length→y=x):Ok w D (slcS x t a i ui (partValue u) y):=by
  refine ⟨fun _=>rfl,fun A st R C B K _ H=>?_⟩
  have ho:st.heap.get? a=some (slO i ui (partValue u)):=K.head
  refine codeAny_call_builtin F.slot_str_getitem.plain F.entry_str_getitem (F.slot_str_getitem.check _ _ _ _ _ _ _ _ (typeIs_str _ _ _) (F.args_str_getitem_2 _ _) ?_)
  refine meets_str_getitem_slice (S x) t a (some ((i:Int),ui)) u none rfl PR w A R st ⟨⟨_,ho,rfl,rfl⟩,?_⟩
  unfold sliceMade slicePicked
  split
  · rename_i hh
    have hl:(Builtin.Str.strSliceIndices (some (i:Int)) (u.map (·.1)) 1 x.length).length=x.length:=by
      have:=((Bool.and_eq_true _ _).mp hh).2
      exact eq_of_beq this
    have e:=hw hl
    have z:=H _ (nu [st.heap.objs.size,st.toks,t]) (left0t (tk:=st.toks) rfl (fun _=>rfl) (fun _=>rfl) rfl)
    subst e
    exact z
  · refine ⟨?_,?_⟩
    · show (((Builtin.Str.strSliceIndices _ _ _ _).filterMap _).toArray).size≤sizeLine
      have e2:((Builtin.Str.strSliceIndices (some (i:Int)) (u.map (·.1)) 1 x.length).filterMap ((⟨x⟩:Array Nat)[·]?)).length≤sizeLine:=by rw [h]; exact Nat.le_trans hy (by decide)
      have e4:∀ l:List Nat,(l.toArray).size=l.length:=fun l=>by simp
      rw [e4]
      exact e2
    · have z:=H _ (nu [st.heap.objs.size,st.toks+1,st.toks]) (left0t (tk:=st.toks+1) rfl (fun _=>rfl) (fun _=>rfl) rfl)
      have e3:(⟨((Builtin.Str.strSliceIndices (some (i:Int)) (u.map (·.1)) 1 (S x).length).filterMap ((S x).cps[·]?)).toArray⟩:Str)=S y:=by
        show (⟨((Builtin.Str.strSliceIndices (some (i:Int)) (u.map (·.1)) 1 x.length).filterMap ((⟨x⟩:Array Nat)[·]?)).toArray⟩:Str)=_
        rw [h]
      show R (.ok (.ret (.str _ _))) _
      exact e3 ▸ z
theorem idx_nat {x:List Nat} {a b:Nat} (hab:a≤b) (hb:b≤x.length):(Builtin.Str.strSliceIndices (some (a:Int)) (some (b:Int)) 1 x.length).filterMap ((⟨x⟩:Array Nat)[·]?)=(x.drop a).take (b-a):=
  StrLaws.sliced_plain (S x) hab hb
theorem idx_len {n a b:Nat} (hab:a≤b) (hb:b≤n):(Builtin.Str.strSliceIndices (some (a:Int)) (some (b:Int)) 1 n).length=b-a:=by
  rw [StrLaws.strSliceIndices_plain hab hb]
  simp
theorem slcS_ok {w:World} {D:Nat} {x:List Nat} {t:Tok} {a:Addr} {i j:Nat} {ui uj:Tok} (hx:x.length≤1000) (h:i≤j) (hj:j≤x.length):Ok w D (slcS x t a i ui (.int j uj) ((x.drop i).take (j-i))):=by
  refine slc_ok (u:=some ((j:Int),uj)) hx (by simp; omega) (idx_nat h hj) fun e=>?_
  have e:=e.symm.trans (idx_len h hj)
  have h1:i=0:=by omega
  have h2:j=x.length:=by omega
  subst h1 h2
  simp
theorem slcE_ok {w:World} {D:Nat} {x:List Nat} {t:Tok} {a:Addr} {i:Nat} {ui:Tok} (hx:x.length≤1000) (h:i≤x.length):Ok w D (slcS x t a i ui .none (x.drop i)):=by
  have e1:(Builtin.Str.strSliceIndices (some (i:Int)) none 1 x.length)=Builtin.Str.strSliceIndices (some (i:Int)) (some (x.length:Int)) 1 x.length:=StrLaws.sliceIdx_none_hi _ _
  refine slc_ok (u:=none) hx (by simp; omega) ?_ fun e=>?_
  · show (Builtin.Str.strSliceIndices (some (i:Int)) none 1 x.length).filterMap _=_
    rw [e1,idx_nat h (Nat.le_refl _)]
    rw [List.take_of_length_le (by simp)]
  · have e:(Builtin.Str.strSliceIndices (some (i:Int)) none 1 x.length).length=x.length:=e
    rw [e1,idx_len h (Nat.le_refl _)] at e
    have h1:i=0:=by
      by_cases hx0:x.length=0
      · omega
      · omega
    subst h1
    simp
theorem glued_nil:∀ l:List (List Nat),Builtin.Str.glued (S []) (l.map S)=S l.flatten:=by
  have key:∀ (l:List (List Nat)) (a:List Nat),(l.map S).foldl (fun acc p=>acc++(S []).cps++p.cps) (⟨a⟩:Array Nat)=⟨a++l.flatten⟩:=by
    intro l
    induction l with
    | nil=>intro a; simp
    | cons x l ih=>
      intro a
      show (l.map S).foldl _ ((⟨a⟩:Array Nat)++(⟨[]⟩:Array Nat)++(⟨x⟩:Array Nat))=_
      have e:(⟨a⟩:Array Nat)++(⟨[]⟩:Array Nat)++(⟨x⟩:Array Nat)=⟨a++x⟩:=by apply Array.ext'; simp
      rw [e,ih]
      simp
  intro l
  cases l with
  | nil=>rfl
  | cons x l=>
    show (⟨(l.map S).foldl (fun acc p=>acc++(S []).cps++p.cps) (⟨x⟩:Array Nat)⟩:Str)=_
    rw [key]
    simp
noncomputable def jpairs:List (List Nat)→(Nat→Nat)→List (Str × Tok)
  | [],_=>[]
  | l::ls,f=>(S l,f 0)::jpairs ls fun j=>f (j+1)
theorem jpairs_vals:∀ (l:List (List Nat)) (f:Nat→Nat),strValues (jpairs l f)=au l f
  | [],_=>rfl
  | x::l,f=>congrArg (Value.str (S x) (f 0)::·) (jpairs_vals l _)
theorem jpairs_fst:∀ (l:List (List Nat)) (f:Nat→Nat),(jpairs l f).map (·.1)=l.map S
  | [],_=>rfl
  | x::l,f=>congrArg (S x::·) (jpairs_fst l _)
noncomputable def jnS (a:Addr) (t:Tok) (l:List (List Nat)) (f:Nat→Nat) (e:Nat):Sm where
  c:=bi "str.join" [.str (S []) t,.ref a]
  mpre:=[]
  rpre:=[(a,lst ⟨au l f⟩ e)]
  post _:=[]
  news _:=[]
  res v:=.ok (.ret (.str (S l.flatten) (v.a 2)))
theorem jnS_ok {w:World} {D:Nat} {a:Addr} {t:Tok} {l:List (List Nat)} {f:Nat→Nat} {e:Nat} (hl:l.flatten.length≤1000):Ok w D (jnS a t l f e):=by
  refine ⟨fun _=>rfl,fun A st R C B K _ H=>?_⟩
  have ho:st.heap.get? a=some (lst ⟨au l f⟩ e):=K.head
  refine codeAny_call_builtin F.slot_str_join.plain F.entry_str_join (F.slot_str_join.check _ _ _ _ _ _ _ _ (typeIs_str _ _ _) (F.args_str_join_2 _ _) ?_)
  have hsum:∀ (l:List (List Nat)) (n:Nat),(l.map S).foldl (fun a x=>a+x.length+(S []).length) n=n+l.flatten.length:=by
    intro l
    induction l with
    | nil=>intro n; simp
    | cons x l ih=>
      intro n
      show (l.map S).foldl _ (n+x.length+0)=_
      rw [ih]
      simp; omega
  refine meets_str_join_list (S []) t a (jpairs l f) ?_ PR w A R st ⟨⟨_,ho,rfl,e,?_⟩,?_⟩
  · rw [jpairs_fst]
    have:(l.map S).toArray.foldl (fun a x=>a+x.length+(S []).length) 0=(l.map S).foldl (fun a x=>a+x.length+(S []).length) 0:=by simp
    rw [this,hsum]
    unfold Builtin.Str.tooLong
    simp only [Nat.zero_add,decide_eq_false_iff_not]
    have:(1000:Nat)≤sizeLine:=by decide
    omega
  · rw [jpairs_vals]
  · match l,hl,H with
    | [],hl,H=>exact ⟨Nat.zero_le _,H _ (nu [st.heap.objs.size,st.toks+1,st.toks]) (left0t (tk:=st.toks+1) rfl (fun _=>rfl) (fun _=>rfl) rfl)⟩
    | [x],hl,H=>
      have z:=H _ (nu [st.heap.objs.size,st.toks,f 0]) (left0t (tk:=st.toks) rfl (fun _=>rfl) (fun _=>rfl) rfl)
      have e:[x].flatten=x:=by simp
      show R (.ok (.ret (.str (S x) (f 0)))) st
      simp only [jnS,e] at z
      exact z
    | x::y::l,hl,H=>
      have z:=H _ (nu [st.heap.objs.size,st.toks+1,st.toks]) (left0t (tk:=st.toks+1) rfl (fun _=>rfl) (fun _=>rfl) rfl)
      have e:Builtin.Str.glued (S []) ((jpairs (x::y::l) f).map (·.1))=S (x::y::l).flatten:=by rw [jpairs_fst,glued_nil]
      refine ⟨?_,?_⟩
      · show (Builtin.Str.glued (S []) ((jpairs (x::y::l) f).map (·.1))).length≤sizeLine
        rw [e]
        exact Nat.le_trans hl (by decide)
      · show R (.ok (.ret (.str (Builtin.Str.glued (S []) ((jpairs (x::y::l) f).map (·.1))) _))) _
        rw [e]
        exact z
noncomputable abbrev gqE (GL:Addr):Env:=envF 2 38 37 (S [95,105,116,101,114,95,101,115,99,97,112,101,100,95,99,104,97,114,115,46,60,108,111,99,97,108,115,62,46]) GL []
noncomputable abbrev sqE (L:Addr):Env:=envF 3 45 44 (S [95,115,116,114,105,112,95,113,117,111,116,101,100,95,114,101,97,108,110,97,109,101,115,46,60,108,111,99,97,108,115,62,46]) L []
noncomputable def genO (gb:Nat) (k1 k2:Tok):Obj:=⟨.type "generator",none,.fields #[.int gb 0,.str (S [95,105,116,101,114,95,101,115,99,97,112,101,100,95,99,104,97,114,115]) k1,.str (S [95,105,116,101,114,95,101,115,99,97,112,101,100,95,99,104,97,114,115]) k2],#[]⟩
noncomputable def exE:Stmt→Expr
  | .Expr e _=>e
  | _=>.Constant .none 0 ⟨0,0,0,0⟩
noncomputable def exP:Stmt→Pos
  | .Expr _ p=>p
  | _=>p0
noncomputable def sendK (a:Resume):Sem Value:=match a with
  | .send x=>pure x
  | .throw e=>PySem.W.Fast.tw6087748403438322584 e
noncomputable def yldK (st:Stmt) (a:Resume):Sem Flow:=PySem.W.R.bindR (PySem.W.R.bindR (.pure a) sendK) fun v=>PySem.W.Fast.tw12372662630863984472 (exE st) (exP st) v
noncomputable def leafS (r:Result):Sem Flow:=match r with
  | .ok f=>.pure f
  | .error e=>.raise e
noncomputable def retK (f:Flow):Sem Fin:=match f with
  | .ret v=>PySem.W.Fast.tw6905046200447255374 v
  | _=>PySem.W.Fast.tw6905046200447255374 .none
noncomputable def flightF (env:Env) (x:Value):Sem Unit:=
  @bind Sem (@Monad.toBind Sem PySem.W.Fast.tw12456147031677567982) Value Unit (PySem.W.Fast.tw6609576154772507232 x 1) fun l=>
    @ite (Sem Unit) (@BEq.beq Value (@instBEqOfDecidableEq Value PySem.W.Fast.tw7966671052430208091) l Value.none=true) (instDecidableEqBool _ _)
      (@bind Sem (@Monad.toBind Sem PySem.W.Fast.tw12456147031677567982) Unit Unit (unsupported "frame.own-activation:exception-without-traceback") fun _=>PySem.W.Fast.tw5670386056902412789 x env.frame) (PySem.W.Fast.tw5670386056902412789 x env.frame)
noncomputable def frmK (rest:List Stmt) (env:Env) (r:Result):Sem Fin:=PySem.W.R.bindR (PySem.W.R.onRaiseR (PySem.W.R.bindR (PySem.W.R.onRaiseR (leafS r) (flightF env)) (restF rest env)) fun e=>PySem.W.Fast.tw9442747609961115081 env e) retK
noncomputable abbrev gL:Stmt:=sto 2 2
noncomputable abbrev gB1:List Stmt:=ifB (nthS (forBd gL) 0)
noncomputable abbrev gB2:List Stmt:=ifE (nthS (ifE (nthS (forBd gL) 0)) 0)
noncomputable def loopK (GL en:Addr) (t:Sem Flow):Sem Fin:=PySem.W.R.onRaiseR (PySem.W.R.bindR (PySem.W.R.bindR t (restF [] (gqE GL))) (flowF (forT gL) (.ref en) (forBd gL) (forEl gL) (gqE GL))) (raiseF (gqE GL))
noncomputable def gsP (GL en:Addr) (p q:Pos):GenState:=.suspended (fun a=>loopK GL en (PySem.W.R.bindR (PySem.W.R.bindR (yldK (nthS gB2 0) a) (restF [] (gqE GL))) (restF [] (gqE GL)))) [] (forC gL (.ref en) (gqE GL)) p [.ret (frmK (dropS 3 (fnb 2)) (gqE GL)) none false [] (.func (fnb 2) (gqE GL)) q []] false
noncomputable def gsX (GL en:Addr) (p q:Pos):GenState:=.suspended (fun a=>loopK GL en (PySem.W.R.bindR (yldK (nthS gB1 0) a) (restF (dropS 1 gB1) (gqE GL)))) [] (forC gL (.ref en) (gqE GL)) p [.ret (frmK (dropS 3 (fnb 2)) (gqE GL)) none false [] (.func (fnb 2) (gqE GL)) q []] false
noncomputable def gsF (GL:Addr):GenState:=.fresh (.func (fnb 2) (gqE GL))
noncomputable def frS4 (w:World) (k:Tk) (x:List Nat) (tt:Tok) (st:Int) (ts:Tok) (op:Value) (rs:Addr):Obj:=
  frm #[en w.params (S [97,100,100,114]) k.a (.str (S x) tt),en w.params (S [115,116,97,114,116]) k.b (.int st ts),en w.params (S [111,112,101,110,95,112,111,115]) k.c op,en w.params (S [114,101,115,117,108,116]) k.d (.ref rs)] 4
noncomputable def frS6 (w:World) (k:Tk) (x:List Nat) (tt:Tok) (st:Int) (ts:Tok) (op:Value) (rs:Addr) (pv cv:Value):Obj:=
  frm #[en w.params (S [97,100,100,114]) k.a (.str (S x) tt),en w.params (S [115,116,97,114,116]) k.b (.int st ts),en w.params (S [111,112,101,110,95,112,111,115]) k.c op,en w.params (S [114,101,115,117,108,116]) k.d (.ref rs),en w.params (S [112,111,115]) k.e pv,en w.params (S [99,104]) k.f cv] 6
noncomputable def frG1 (w:World) (ka:Tok) (x:List Nat) (tt:Tok):Obj:=frm #[en w.params (S [97,100,100,114]) ka (.str (S x) tt)] 1
noncomputable def frG4 (w:World) (k:V4 Tok) (x:List Nat) (tt:Tok) (b:Bool) (pv cv:Value):Obj:=frm #[en w.params (S [97,100,100,114]) k.a (.str (S x) tt),en w.params (S [112,111,115]) k.b pv,en w.params (S [101,115,99,97,112,101]) k.c (.bool b),en w.params (S [99,104]) k.d cv] 4
noncomputable def enQ (a:Addr) (i:Int) (v:Value):Obj:=⟨.type "enumerate",none,.fields #[.none,.bool false,.ref a,.int i 0,.none,v],#[]⟩
noncomputable def opV (op:Option Nat) (to:Tok):Value:=match op with
  | none=>.none
  | some o=>.int o to
noncomputable def lp0S (w:World) (L GL go rs:Addr) (k:Tk) (ka:Tok) (gb:Nat) (k1 k2:Tok) (x:List Nat) (tt:Tok) (ts:Tok) (st':Nat) (acc':List (List Nat)):Sm where
  c:=forC (sto 3 4) (.ref go) (sqE L)
  mpre:=[(L,frS4 w k x tt 0 ts .none rs),(GL,frG1 w ka x tt),(rs,lst #[] 0)]
  rpre:=[(go,genO gb k1 k2)]
  post v:=[(L,frS6 w ⟨v.a 3,v.a 4,v.a 5,v.a 6,v.a 7,v.a 8,0,0,0⟩ x tt st' (v.a 9) (v.x 0) rs (v.x 1) (v.x 2)),(GL,v.o 1),(rs,lst ⟨au acc' fun j=>v.a (j+10)⟩ (v.a 2))]
  news _:=[]
  gens:=[.finished]
  res _:=.ok .next
noncomputable def lpS (w:World) (L GL go rs en si:Addr) (k:Tk) (kg:V4 Tok) (bs:Bool) (gb:Nat) (k1 k2:Tok) (x:List Nat) (tt:Tok) (tg:Tok) (i:Nat) (st:Nat) (ts:Tok) (op:Value) (pv cv pg cg ev:Value) (acc:List (List Nat)) (f:Nat→Nat) (er:Nat) (st':Nat) (acc':List (List Nat)):Sm where
  c:=forC (sto 3 4) (.ref go) (sqE L)
  mpre:=[(L,frS6 w k x tt st ts op rs pv cv),(GL,frG4 w kg x tg bs pg cg),(rs,lst ⟨au acc f⟩ er),(en,enQ si i ev),(si,saO x tt i)]
  rpre:=[(go,genO gb k1 k2)]
  post v:=[(L,frS6 w ⟨v.a 3,v.a 4,v.a 5,v.a 6,v.a 7,v.a 8,0,0,0⟩ x tt st' (v.a 9) (v.x 0) rs (v.x 1) (v.x 2)),(GL,v.o 1),(rs,lst ⟨au acc' fun j=>v.a (j+10)⟩ (v.a 2)),(en,v.o 3),(si,v.o 4)]
  news _:=[]
  gens:=[.finished]
  res _:=.ok .next
noncomputable def snocF (n:Nat) (f:Nat→Nat) (t:Nat):Nat→Nat:=fun j=>if j<n then f j else t
theorem svals_congr:∀ (l:List (List Nat)) (f g:Nat→Nat),(∀ j,j<l.length→f j=g j)→au l f=au l g
  | [],_,_,_=>rfl
  | x::l,f,g,h=>by
    show Value.str (S x) (f 0)::au l _=Value.str (S x) (g 0)::au l _
    rw [h 0 (by simp),svals_congr l _ _ fun j hj=>h (j+1) (by simp; omega)]
theorem svals_app:∀ (l:List (List Nat)) (f:Nat→Nat) (y:List Nat),au (l++[y]) f=au l f++[.str (S y) (f l.length)]
  | [],_,_=>rfl
  | x::l,f,y=>congrArg (Value.str (S x) (f 0)::·) (svals_app l _ y)
theorem svals_snoc (l:List (List Nat)) (f:Nat→Nat) (y:List Nat) (t:Nat):au (l++[y]) (snocF l.length f t)=au l f++[.str (S y) t]:=by
  rw [svals_app]
  congr 1
  · exact svals_congr _ _ _ fun j hj=>by unfold snocF; rw [if_pos hj]
  · unfold snocF; rw [if_neg (Nat.lt_irrefl _)]
section
variable {w:World} {d:Nat} {L GL go rs en si:Addr} {k:Tk} {ka:Tok} {kg:V4 Tok} {gb:Nat} {k1 k2:Tok} {x:List Nat} {tt ts to:Tok} {c i st st' er o:Nat} {ov:Value} {p q:Pos} {pv cv pg cg ev:Value} {acc acc':List (List Nat)} {f:Nat→Nat}
theorem l0_p (h0:x[0]?=some c) (h1:([c]==[92])=false) (h2:([c]==[34])=false) (ha:Asc x) (hD:d≤640)
    (H:∀ en si k kg ts (to:Nat) pv cv pg cg ev f er p q,OkG w d (lpS w L GL go rs en si k kg false gb k1 k2 x tt tt 1 0 ts .none pv cv pg cg ev [] f er st' acc') gb [gsP GL en p q]):OkG w d (lp0S w L GL go rs k ka gb k1 k2 x tt ts st' acc') gb [gsF GL]:=by
  refine yth (fun n t=>yd 2 [] [] [] (enuA x tt) fun v1=>yd 4 [] [4] [] (stnS (v1.a 2) x tt 0 c) fun v2=>.swap  (owS gL (v1.a 3) (gqE GL) (v2.a 0)).t₀ (owS gL (v1.a 3) (gqE GL) (v2.a 0)).t₁ <| yd 4 [0,1] [] [] (eqSS [c] [92] (v2.a 2) (v2.a 1+3) false) fun v4=>yd 4 [0,1] [] [] (eqSS [c] [34] (v2.a 2) (v4.a 1+2) false) fun v5=>.nil) (fun n t=>xd (enuA_ok ha) fun _=>xd (be h0) fun _=>⟨owS_ok,⟨aG h1,fun v4=>⟨aG h2,fun v5=>trivial⟩⟩⟩) (fun n t ω=>((fun v1 v2 v4=>(it5 0 [] [0,1,2,5,4] [3] (lpS w L GL go rs (v1.a 3) (v1.a 2) { k with e:=v4.a 1,f:=v4.a 1+1 } ⟨ka,t+1,t+2,v2.a 1+2⟩ false gb k1 k2 x tt tt 1 0 ts .none (.int 0 (v2.a 1)) (.str (S [c]) (v2.a 2)) (.int 0 (v2.a 1)) (.str (S [c]) (v2.a 2)) (.str (S [c]) (v2.a 2)) [] (fun _=>0) 0 st' acc'))) (ω 1).v (ω 18).v (ω 146).v)) (fun n t ω=>[gsP GL ((ω 1).v.a 3) (ω 210).p (ω 10).p]) (fun n t ω=>H _ _ _ _ _ 0 _ _ _ _ _ _ _ _ _) 236 [8,8,8,0,2,0,0,4,4,0,4,4,0,0,4,12,12,12,12,12,12,1,0,0,12,12,12,12,12,10,12,12,12,12,12,12,12,12,12,12,12,12,12,12,999,12,12,12,1,1,1,1,0,0,1,3,3,3,3,3,1,3,3,3,3,3,3,1,3,3,3,3,3,3,1,3,3,7,0,4,4,0,4,4,4,4,1,0,0,4,4,0,8,1,1,1,1,0,0,1,3,3,3,3,3,1,3,3,3,3,3,3,1,3,3,3,3,3,3,1,3,3,7,0,2,2,0,2,2,2,1,0,0]
theorem l0_e (h0:x[0]?=some 92) (h3:x[1]?=some c) (ha:Asc x) (hD:d≤640)
    (H:∀ en si k kg ts (to:Nat) pv cv pg cg ev f er p q,OkG w d (lpS w L GL go rs en si k kg true gb k1 k2 x tt tt 2 0 ts .none pv cv pg cg ev [] f er st' acc') gb [gsX GL en p q]):OkG w d (lp0S w L GL go rs k ka gb k1 k2 x tt ts st' acc') gb [gsF GL]:=by
  refine yth (fun n t=>yd 2 [] [] [] (enuA x tt) fun v1=>yd 4 [] [4] [] (stnS (v1.a 2) x tt 0 92) fun v2=>.swap  (owS gL (v1.a 3) (gqE GL) (v2.a 0)).t₀ (owS gL (v1.a 3) (gqE GL) (v2.a 0)).t₁ <| yd 4 [0,1] [] [] (eqSS [92] [92] (v2.a 2) (v2.a 1+3) true) fun v4=>yd 1 [] [4] [] (stnS (v1.a 2) x tt 1 c) fun v5=>.swap  (owS gL (v1.a 3) (gqE GL) (v5.a 0)).t₀ (owS gL (v1.a 3) (gqE GL) (v5.a 0)).t₁ <| yd 4 [0,1] [] [] (an [92] [c] (v5.a 1+3) (v5.a 2)) fun v7=>yd 4 [0,1] [] [] (eqSS [92,c] [34] (v7.a 2) (v7.a 1+2) false) fun v8=>.nil) (fun n t=>xd (enuA_ok ha) fun _=>xd (be h0) fun _=>⟨owS_ok,⟨aG rfl,fun v4=>⟨be h3,fun v5=>⟨owS_ok,⟨ad (by simp) (by simp) (by simp),fun v7=>⟨aG (by simp),fun v8=>trivial⟩⟩⟩⟩⟩⟩) (fun n t ω=>((fun v1 v5 v7=>(it5 0 [] [0,1,2,5,4] [3] (lpS w L GL go rs (v1.a 3) (v1.a 2) { k with e:=v7.a 1,f:=v7.a 1+1 } ⟨ka,t+1,t+2,(ω 18).v.a 1+2⟩ true gb k1 k2 x tt tt 2 0 ts .none (.int 1 (v5.a 1)) (.str (S [92,c]) (v7.a 2)) (.int 1 (v5.a 1)) (.str (S [c]) (v5.a 2)) (.str (S [c]) (v5.a 2)) [] (fun _=>0) 0 st' acc'))) (ω 1).v (ω 274).v (ω 1554).v)) (fun n t ω=>[gsX GL ((ω 1).v.a 3) (ω 1810).p (ω 10).p]) (fun n t ω=>H _ _ _ _ _ 0 _ _ _ _ _ _ _ _ _) 344 [8,8,8,0,2,0,0,4,4,0,4,4,0,0,4,12,12,12,12,12,12,1,0,0,12,12,12,12,12,10,12,12,12,12,12,12,12,12,12,12,12,12,12,12,999,12,12,12,1,1,1,1,0,0,1,3,3,3,3,3,1,3,3,3,3,3,3,1,3,3,3,3,3,3,1,3,3,7,0,4,4,0,4,4,4,4,1,0,0,0,4,4,12,12,12,10,12,12,12,12,12,12,12,12,12,12,12,12,12,12,999,12,12,12,1,1,1,1,0,0,1,3,3,3,3,3,1,3,3,3,3,3,3,1,3,3,3,3,3,3,1,3,3,7,0,4,4,0,4,4,4,4,4,0,8,1,1,1,1,0,0,1,3,3,3,3,3,1,3,3,3,3,3,3,1,3,3,3,3,3,3,1,3,3,7,0,2,2,0,2,2,2,1,0,0]
theorem l0_q0 (h0:x[0]?=some 34) (ha:Asc x) (hD:d≤640)
    (H:∀ en si k kg ts (to:Nat) pv cv pg cg ev f er p q,OkG w d (lpS w L GL go rs en si k kg false gb k1 k2 x tt tt 1 0 ts (.int 0 to) pv cv pg cg ev [] f er st' acc') gb [gsP GL en p q]):OkG w d (lp0S w L GL go rs k ka gb k1 k2 x tt ts st' acc') gb [gsF GL]:=by
  refine yth (fun n t=>yd 2 [] [] [] (enuA x tt) fun v1=>yd 4 [] [4] [] (stnS (v1.a 2) x tt 0 34) fun v2=>.swap  (owS gL (v1.a 3) (gqE GL) (v2.a 0)).t₀ (owS gL (v1.a 3) (gqE GL) (v2.a 0)).t₁ <| yd 4 [0,1] [] [] (eqSS [34] [92] (v2.a 2) (v2.a 1+3) false) fun v4=>yd 4 [0,1] [] [] (eqSS [34] [34] (v2.a 2) (v4.a 1+2) true) fun v5=>.nil) (fun n t=>xd (enuA_ok ha) fun _=>xd (be h0) fun _=>⟨owS_ok,⟨aG rfl,fun v4=>⟨aG rfl,fun v5=>trivial⟩⟩⟩) (fun n t ω=>((fun v1 v2 v4=>(it5 0 [] [0,1,2,5,4] [3] (lpS w L GL go rs (v1.a 3) (v1.a 2) { k with e:=v4.a 1,f:=v4.a 1+1 } ⟨ka,t+1,t+2,v2.a 1+2⟩ false gb k1 k2 x tt tt 1 0 ts (.int 0 (v2.a 1)) (.int 0 (v2.a 1)) (.str (S [34]) (v2.a 2)) (.int 0 (v2.a 1)) (.str (S [34]) (v2.a 2)) (.str (S [34]) (v2.a 2)) [] (fun _=>0) 0 st' acc'))) (ω 1).v (ω 18).v (ω 146).v)) (fun n t ω=>[gsP GL ((ω 1).v.a 3) (ω 210).p (ω 10).p]) (fun n t ω=>H _ _ _ _ _ ((ω 18).v.a 1) _ _ _ _ _ _ _ _ _) 250 [8,8,8,0,2,0,0,4,4,0,4,4,0,0,4,12,12,12,12,12,12,1,0,0,12,12,12,12,12,10,12,12,12,12,12,12,12,12,12,12,12,12,12,12,999,12,12,12,1,1,1,1,0,0,1,3,3,3,3,3,1,3,3,3,3,3,3,1,3,3,3,3,3,3,1,3,3,7,0,4,4,0,4,4,4,4,1,0,0,4,4,0,8,1,1,1,1,0,0,1,3,3,3,3,3,1,3,3,3,3,3,3,1,3,3,3,3,3,3,1,3,3,7,0,2,2,0,2,2,2,1,0,0,2,2,0,2,2]
theorem lP_p (h0:x[i]?=some c) (h1:([c]==[92])=false) (h2:([c]==[34])=false) (hD:d≤640)
    (H:∀ en si k kg ts (to:Nat) pv cv pg cg ev f er p q,OkG w d (lpS w L GL go rs en si k kg false gb k1 k2 x tt tt (i+1) st ts ov pv cv pg cg ev acc f er st' acc') gb [gsP GL en p q]):OkG w d (lpS w L GL go rs en si k kg false gb k1 k2 x tt tt i st ts ov pv cv pg cg ev acc f er st' acc') gb [gsP GL en p q]:=by
  refine yth (fun n t=>yd 2 [] [4] [] (stnS si x tt i c) fun v1=>.swap  (owS gL en (gqE GL) (v1.a 0)).t₀ (owS gL en (gqE GL) (v1.a 0)).t₁ <| yd 4 [0,1] [] [] (eqSS [c] [92] (v1.a 2) (v1.a 1+3) false) fun v3=>yd 4 [0,1] [] [] (eqSS [c] [34] (v1.a 2) (v3.a 1+2) false) fun v4=>.nil) (fun n t=>xd (be h0) fun _=>⟨owS_ok,⟨aG h1,fun v3=>⟨aG h2,fun v4=>trivial⟩⟩⟩) (fun n t ω=>((fun v1=>(it5 0 [] [0,1,2,3,4] [5] (lpS w L GL go rs en si k kg false gb k1 k2 x tt tt (i+1) st ts ov (.int i (v1.a 1)) (.str (S [c]) (v1.a 2)) (.int i (v1.a 1)) (.str (S [c]) (v1.a 2)) (.str (S [c]) (v1.a 2)) acc f er st' acc'))) (ω 1).v)) (fun n t ω=>[gsP GL en (ω 49).p (q)]) (fun n t ω=>H _ _ _ _ _ 0 _ _ _ _ _ _ _ _ _) 190 [12,12,12,0,2,0,8,8,8,10,8,8,8,8,8,8,8,8,8,8,8,8,8,8,999,8,8,8,1,1,1,1,0,0,1,3,3,3,3,3,1,3,3,3,3,3,3,1,3,3,3,3,3,3,1,3,3,7,0,4,4,0,4,4,4,4,1,0,0,4,4,0,12,1,1,1,1,0,0,1,3,3,3,3,3,1,3,3,3,3,3,3,1,3,3,3,3,3,3,1,3,3,7,0,2,2,0,2,2,2,1,0,0]
theorem lP_e (h0:x[i]?=some 92) (h3:x[i+1]?=some c) (hD:d≤640)
    (H:∀ en si k kg ts (to:Nat) pv cv pg cg ev f er p q,OkG w d (lpS w L GL go rs en si k kg true gb k1 k2 x tt tt (i+2) st ts ov pv cv pg cg ev acc f er st' acc') gb [gsX GL en p q]):OkG w d (lpS w L GL go rs en si k kg false gb k1 k2 x tt tt i st ts ov pv cv pg cg ev acc f er st' acc') gb [gsP GL en p q]:=by
  refine yth (fun n t=>yd 2 [] [4] [] (stnS si x tt i 92) fun v1=>.swap  (owS gL en (gqE GL) (v1.a 0)).t₀ (owS gL en (gqE GL) (v1.a 0)).t₁ <| yd 4 [0,1] [] [] (eqSS [92] [92] (v1.a 2) (v1.a 1+3) true) fun v3=>yd 1 [] [4] [] (stnS si x tt (i+1) c) fun v4=>.swap  (owS gL en (gqE GL) (v4.a 0)).t₀ (owS gL en (gqE GL) (v4.a 0)).t₁ <| yd 4 [0,1] [] [] (an [92] [c] (v4.a 1+3) (v4.a 2)) fun v6=>yd 4 [0,1] [] [] (eqSS [92,c] [34] (v6.a 2) (v6.a 1+2) false) fun v7=>.nil) (fun n t=>xd (be h0) fun _=>⟨owS_ok,⟨aG rfl,fun v3=>⟨be h3,fun v4=>⟨owS_ok,⟨ad (by simp) (by simp) (by simp),fun v6=>⟨aG (by simp),fun v7=>trivial⟩⟩⟩⟩⟩⟩) (fun n t ω=>((fun v4=>(it5 0 [] [0,1,2,3,4] [5] (lpS w L GL go rs en si k kg true gb k1 k2 x tt tt (i+2) st ts ov (.int (i+1) (v4.a 1)) (.str (S [92,c]) ((ω 385).v.a 2)) (.int (i+1) (v4.a 1)) (.str (S [c]) (v4.a 2)) (.str (S [c]) (v4.a 2)) acc f er st' acc'))) (ω 65).v)) (fun n t ω=>[gsX GL en (ω 449).p (q)]) (fun n t ω=>H _ _ _ _ _ 0 _ _ _ _ _ _ _ _ _) 298 [12,12,12,0,2,0,8,8,8,10,8,8,8,8,8,8,8,8,8,8,8,8,8,8,999,8,8,8,1,1,1,1,0,0,1,3,3,3,3,3,1,3,3,3,3,3,3,1,3,3,3,3,3,3,1,3,3,7,0,4,4,0,4,4,4,4,1,0,0,0,4,4,8,8,8,10,8,8,8,8,8,8,8,8,8,8,8,8,8,8,999,8,8,8,1,1,1,1,0,0,1,3,3,3,3,3,1,3,3,3,3,3,3,1,3,3,3,3,3,3,1,3,3,7,0,4,4,0,4,4,4,4,4,0,12,1,1,1,1,0,0,1,3,3,3,3,3,1,3,3,3,3,3,3,1,3,3,3,3,3,3,1,3,3,7,0,2,2,0,2,2,2,1,0,0]
theorem lP_q0 (h0:x[i]?=some 34) (hD:d≤640)
    (H:∀ en si k kg ts (to:Nat) pv cv pg cg ev f er p q,OkG w d (lpS w L GL go rs en si k kg false gb k1 k2 x tt tt (i+1) st ts (.int i to) pv cv pg cg ev acc f er st' acc') gb [gsP GL en p q]):OkG w d (lpS w L GL go rs en si k kg false gb k1 k2 x tt tt i st ts .none pv cv pg cg ev acc f er st' acc') gb [gsP GL en p q]:=by
  refine yth (fun n t=>yd 2 [] [4] [] (stnS si x tt i 34) fun v1=>.swap  (owS gL en (gqE GL) (v1.a 0)).t₀ (owS gL en (gqE GL) (v1.a 0)).t₁ <| yd 4 [0,1] [] [] (eqSS [34] [92] (v1.a 2) (v1.a 1+3) false) fun v3=>yd 4 [0,1] [] [] (eqSS [34] [34] (v1.a 2) (v3.a 1+2) true) fun v4=>.nil) (fun n t=>xd (be h0) fun _=>⟨owS_ok,⟨aG rfl,fun v3=>⟨aG rfl,fun v4=>trivial⟩⟩⟩) (fun n t ω=>((fun v1=>(it5 0 [] [0,1,2,3,4] [5] (lpS w L GL go rs en si k kg false gb k1 k2 x tt tt (i+1) st ts (.int i (v1.a 1)) (.int i (v1.a 1)) (.str (S [34]) (v1.a 2)) (.int i (v1.a 1)) (.str (S [34]) (v1.a 2)) (.str (S [34]) (v1.a 2)) acc f er st' acc'))) (ω 1).v)) (fun n t ω=>[gsP GL en (ω 49).p (q)]) (fun n t ω=>H _ _ _ _ _ ((ω 1).v.a 1) _ _ _ _ _ _ _ _ _) 204 [12,12,12,0,2,0,8,8,8,10,8,8,8,8,8,8,8,8,8,8,8,8,8,8,999,8,8,8,1,1,1,1,0,0,1,3,3,3,3,3,1,3,3,3,3,3,3,1,3,3,3,3,3,3,1,3,3,7,0,4,4,0,4,4,4,4,1,0,0,4,4,0,12,1,1,1,1,0,0,1,3,3,3,3,3,1,3,3,3,3,3,3,1,3,3,3,3,3,3,1,3,3,7,0,2,2,0,2,2,2,1,0,0,2,2,0,2,2]
theorem lP_q1 (h0:x[i]?=some 34) (h4:st≠o) (h5:st≤o∧o≤x.length) (hx:x.length≤1000) (hacc:acc.length≤500) (hD:d≤640)
    (H:∀ en si k kg ts (to:Nat) pv cv pg cg ev f er p q,OkG w d (lpS w L GL go rs en si k kg false gb k1 k2 x tt tt (i+1) (i+1) ts .none pv cv pg cg ev (acc++[(x.drop st).take (o-st)]) f er st' acc') gb [gsP GL en p q]):OkG w d (lpS w L GL go rs en si k kg false gb k1 k2 x tt tt i st ts (.int o to) pv cv pg cg ev acc f er st' acc') gb [gsP GL en p q]:=by
  refine yth (fun n t=>yd 2 [] [4] [] (stnS si x tt i 34) fun v1=>.swap  (owS gL en (gqE GL) (v1.a 0)).t₀ (owS gL en (gqE GL) (v1.a 0)).t₁ <| yd 4 [0,1] [] [] (eqSS [34] [92] (v1.a 2) (v1.a 1+3) false) fun v3=>yd 4 [0,1] [] [] (eqSS [34] [34] (v1.a 2) (v3.a 1+2) true) fun v4=>yc [] (neIS st o ts to true) fun v5=>yd 0 [0] [] [10] (slcS x tt (v5.a 0) st ts (.int o to) ((x.drop st).take (o-st))) fun v6=>yd 0 [] [2] [] (bj rs (au acc f) er (.str (S ((x.drop st).take (o-st))) (v6.a 2)) (au (acc++[(x.drop st).take (o-st)]) (snocF acc.length f (v6.a 2)))) fun v7=>.nil) (fun n t=>xd (be h0) fun _=>⟨owS_ok,⟨aG rfl,fun v3=>⟨aG rfl,fun v4=>⟨bc (by omega) (by simp; omega),fun v5=>⟨slcS_ok hx h5.1 h5.2,fun v6=>⟨aq (by rw [aO]; omega) (svals_snoc _ _ _ _),fun v7=>trivial⟩⟩⟩⟩⟩⟩) (fun n t ω=>((fun v1=>(it5 0 [] [0,1,2,3,4] [5] (lpS w L GL go rs en si k kg false gb k1 k2 x tt tt (i+1) (i+1) ((ω 3377).v.a 1+1) .none (.int i (v1.a 1)) (.str (S [34]) (v1.a 2)) (.int i (v1.a 1)) (.str (S [34]) (v1.a 2)) (.str (S [34]) (v1.a 2)) (acc++[(x.drop st).take (o-st)]) (snocF acc.length f ((ω 2353).v.a 2)) (er+1) st' acc'))) (ω 1).v)) (fun n t ω=>[gsP GL en (ω 49).p (q)]) (fun n t ω=>H _ _ _ _ _ 0 _ _ _ _ _ _ _ _ _) 247 [12,12,12,0,2,0,8,8,8,10,8,8,8,8,8,8,8,8,8,8,8,8,8,8,999,8,8,8,1,1,1,1,0,0,1,3,3,3,3,3,1,3,3,3,3,3,3,1,3,3,3,3,3,3,1,3,3,7,0,4,4,0,4,4,4,4,1,0,0,4,4,0,12,1,1,1,1,0,0,1,3,3,3,3,3,1,3,3,3,3,3,3,1,3,3,3,3,3,3,1,3,3,7,0,2,2,0,2,2,2,1,0,0,2,2,2,1,0,0,2,6,6,6,6,2,2,2,2,0,2,2,0,2,2]
theorem lP_q2 (h0:x[i]?=some 34) (h4:st=o) (hD:d≤640)
    (H:∀ en si k kg ts (to:Nat) pv cv pg cg ev f er p q,OkG w d (lpS w L GL go rs en si k kg false gb k1 k2 x tt tt (i+1) (i+1) ts .none pv cv pg cg ev acc f er st' acc') gb [gsP GL en p q]):OkG w d (lpS w L GL go rs en si k kg false gb k1 k2 x tt tt i st ts (.int o to) pv cv pg cg ev acc f er st' acc') gb [gsP GL en p q]:=by
  refine yth (fun n t=>yd 2 [] [4] [] (stnS si x tt i 34) fun v1=>.swap  (owS gL en (gqE GL) (v1.a 0)).t₀ (owS gL en (gqE GL) (v1.a 0)).t₁ <| yd 4 [0,1] [] [] (eqSS [34] [92] (v1.a 2) (v1.a 1+3) false) fun v3=>yd 4 [0,1] [] [] (eqSS [34] [34] (v1.a 2) (v3.a 1+2) true) fun v4=>yc [] (neIS st o ts to false) fun v5=>.nil) (fun n t=>xd (be h0) fun _=>⟨owS_ok,⟨aG rfl,fun v3=>⟨aG rfl,fun v4=>⟨bc (by omega) (by simp; omega),fun v5=>trivial⟩⟩⟩⟩) (fun n t ω=>((fun v1=>(it5 0 [] [0,1,2,3,4] [5] (lpS w L GL go rs en si k kg false gb k1 k2 x tt tt (i+1) (i+1) ((ω 1329).v.a 1+1) .none (.int i (v1.a 1)) (.str (S [34]) (v1.a 2)) (.int i (v1.a 1)) (.str (S [34]) (v1.a 2)) (.str (S [34]) (v1.a 2)) acc f er st' acc'))) (ω 1).v)) (fun n t ω=>[gsP GL en (ω 49).p (q)]) (fun n t ω=>H _ _ _ _ _ 0 _ _ _ _ _ _ _ _ _) 226 [12,12,12,0,2,0,8,8,8,10,8,8,8,8,8,8,8,8,8,8,8,8,8,8,999,8,8,8,1,1,1,1,0,0,1,3,3,3,3,3,1,3,3,3,3,3,3,1,3,3,3,3,3,3,1,3,3,7,0,4,4,0,4,4,4,4,1,0,0,4,4,0,12,1,1,1,1,0,0,1,3,3,3,3,3,1,3,3,3,3,3,3,1,3,3,3,3,3,3,1,3,3,7,0,2,2,0,2,2,2,1,0,0,2,2,2,1,0,0,2,0,2,2,0,2,2]
theorem lP_z (h0:x[i]?=none) (hD:d≤640):OkG w d (lpS w L GL go rs en si k kg false gb k1 k2 x tt tt i st ts ov pv cv pg cg ev acc f er st acc) gb [gsP GL en p q]:=by
  refine yh (fun n t=>yd 2 [] [4] [] (sedS si x tt i) fun v1=>.nil) (fun n t=>xd (sedS_ok h0) fun _=>trivial) 33 [12,12,12,0,2,0,8,8,8,10,14,4,0,3] (fun n t ω=>((fun v1=>nu [(v1.a 0+2),(v1.a 1),er,k.a,k.b,k.c,k.d,k.e,k.f,ts] [enO 0 0,frG4 w kg x tt false pg cg,enO 0 0,enQ si i ev,⟨.type "str_ascii_iterator",none,.fields #[.none,.int i 0],#[]⟩] [ov,pv,cv] (f)) (ω 1).v))
theorem lX_p (h0:x[i]?=some c) (h1:([c]==[92])=false) (h2:([c]==[34])=false) (hD:d≤640)
    (H:∀ en si k kg ts (to:Nat) pv cv pg cg ev f er p q,OkG w d (lpS w L GL go rs en si k kg false gb k1 k2 x tt tt (i+1) st ts ov pv cv pg cg ev acc f er st' acc') gb [gsP GL en p q]):OkG w d (lpS w L GL go rs en si k kg true gb k1 k2 x tt tt i st ts ov pv cv pg cg ev acc f er st' acc') gb [gsX GL en p q]:=by
  refine yth (fun n t=>yd 2 [] [4] [] (stnS si x tt i c) fun v1=>.swap  (owS gL en (gqE GL) (v1.a 0)).t₀ (owS gL en (gqE GL) (v1.a 0)).t₁ <| yd 4 [0,1] [] [] (eqSS [c] [92] (v1.a 2) (v1.a 1+3) false) fun v3=>yd 4 [0,1] [] [] (eqSS [c] [34] (v1.a 2) (v3.a 1+2) false) fun v4=>.nil) (fun n t=>xd (be h0) fun _=>⟨owS_ok,⟨aG h1,fun v3=>⟨aG h2,fun v4=>trivial⟩⟩⟩) (fun n t ω=>((fun v1=>(it5 0 [] [0,1,2,3,4] [5] (lpS w L GL go rs en si k kg false gb k1 k2 x tt tt (i+1) st ts ov (.int i (v1.a 1)) (.str (S [c]) (v1.a 2)) (.int i (v1.a 1)) (.str (S [c]) (v1.a 2)) (.str (S [c]) (v1.a 2)) acc f er st' acc'))) (ω 1).v)) (fun n t ω=>[gsP GL en (ω 49).p (q)]) (fun n t ω=>H _ _ _ _ _ 0 _ _ _ _ _ _ _ _ _) 198 [12,12,12,0,2,0,0,4,4,8,8,8,10,8,8,8,8,8,8,8,8,8,8,8,8,8,8,999,8,8,8,1,1,1,1,0,0,1,3,3,3,3,3,1,3,3,3,3,3,3,1,3,3,3,3,3,3,1,3,3,7,0,4,4,0,4,4,4,4,1,0,0,4,4,0,12,1,1,1,1,0,0,1,3,3,3,3,3,1,3,3,3,3,3,3,1,3,3,3,3,3,3,1,3,3,7,0,2,2,0,2,2,2,1,0,0]
theorem lX_e (h0:x[i]?=some 92) (h3:x[i+1]?=some c) (hD:d≤640)
    (H:∀ en si k kg ts (to:Nat) pv cv pg cg ev f er p q,OkG w d (lpS w L GL go rs en si k kg true gb k1 k2 x tt tt (i+2) st ts ov pv cv pg cg ev acc f er st' acc') gb [gsX GL en p q]):OkG w d (lpS w L GL go rs en si k kg true gb k1 k2 x tt tt i st ts ov pv cv pg cg ev acc f er st' acc') gb [gsX GL en p q]:=by
  refine yth (fun n t=>yd 2 [] [4] [] (stnS si x tt i 92) fun v1=>.swap  (owS gL en (gqE GL) (v1.a 0)).t₀ (owS gL en (gqE GL) (v1.a 0)).t₁ <| yd 4 [0,1] [] [] (eqSS [92] [92] (v1.a 2) (v1.a 1+3) true) fun v3=>yd 1 [] [4] [] (stnS si x tt (i+1) c) fun v4=>.swap  (owS gL en (gqE GL) (v4.a 0)).t₀ (owS gL en (gqE GL) (v4.a 0)).t₁ <| yd 4 [0,1] [] [] (an [92] [c] (v4.a 1+3) (v4.a 2)) fun v6=>yd 4 [0,1] [] [] (eqSS [92,c] [34] (v6.a 2) (v6.a 1+2) false) fun v7=>.nil) (fun n t=>xd (be h0) fun _=>⟨owS_ok,⟨aG rfl,fun v3=>⟨be h3,fun v4=>⟨owS_ok,⟨ad (by simp) (by simp) (by simp),fun v6=>⟨aG (by simp),fun v7=>trivial⟩⟩⟩⟩⟩⟩) (fun n t ω=>((fun v4=>(it5 0 [] [0,1,2,3,4] [5] (lpS w L GL go rs en si k kg true gb k1 k2 x tt tt (i+2) st ts ov (.int (i+1) (v4.a 1)) (.str (S [92,c]) ((ω 385).v.a 2)) (.int (i+1) (v4.a 1)) (.str (S [c]) (v4.a 2)) (.str (S [c]) (v4.a 2)) acc f er st' acc'))) (ω 65).v)) (fun n t ω=>[gsX GL en (ω 449).p (q)]) (fun n t ω=>H _ _ _ _ _ 0 _ _ _ _ _ _ _ _ _) 306 [12,12,12,0,2,0,0,4,4,8,8,8,10,8,8,8,8,8,8,8,8,8,8,8,8,8,8,999,8,8,8,1,1,1,1,0,0,1,3,3,3,3,3,1,3,3,3,3,3,3,1,3,3,3,3,3,3,1,3,3,7,0,4,4,0,4,4,4,4,1,0,0,0,4,4,8,8,8,10,8,8,8,8,8,8,8,8,8,8,8,8,8,8,999,8,8,8,1,1,1,1,0,0,1,3,3,3,3,3,1,3,3,3,3,3,3,1,3,3,3,3,3,3,1,3,3,7,0,4,4,0,4,4,4,4,4,0,12,1,1,1,1,0,0,1,3,3,3,3,3,1,3,3,3,3,3,3,1,3,3,3,3,3,3,1,3,3,7,0,2,2,0,2,2,2,1,0,0]
theorem lX_q0 (h0:x[i]?=some 34) (hD:d≤640)
    (H:∀ en si k kg ts (to:Nat) pv cv pg cg ev f er p q,OkG w d (lpS w L GL go rs en si k kg false gb k1 k2 x tt tt (i+1) st ts (.int i to) pv cv pg cg ev acc f er st' acc') gb [gsP GL en p q]):OkG w d (lpS w L GL go rs en si k kg true gb k1 k2 x tt tt i st ts .none pv cv pg cg ev acc f er st' acc') gb [gsX GL en p q]:=by
  refine yth (fun n t=>yd 2 [] [4] [] (stnS si x tt i 34) fun v1=>.swap  (owS gL en (gqE GL) (v1.a 0)).t₀ (owS gL en (gqE GL) (v1.a 0)).t₁ <| yd 4 [0,1] [] [] (eqSS [34] [92] (v1.a 2) (v1.a 1+3) false) fun v3=>yd 4 [0,1] [] [] (eqSS [34] [34] (v1.a 2) (v3.a 1+2) true) fun v4=>.nil) (fun n t=>xd (be h0) fun _=>⟨owS_ok,⟨aG rfl,fun v3=>⟨aG rfl,fun v4=>trivial⟩⟩⟩) (fun n t ω=>((fun v1=>(it5 0 [] [0,1,2,3,4] [5] (lpS w L GL go rs en si k kg false gb k1 k2 x tt tt (i+1) st ts (.int i (v1.a 1)) (.int i (v1.a 1)) (.str (S [34]) (v1.a 2)) (.int i (v1.a 1)) (.str (S [34]) (v1.a 2)) (.str (S [34]) (v1.a 2)) acc f er st' acc'))) (ω 1).v)) (fun n t ω=>[gsP GL en (ω 49).p (q)]) (fun n t ω=>H _ _ _ _ _ ((ω 1).v.a 1) _ _ _ _ _ _ _ _ _) 212 [12,12,12,0,2,0,0,4,4,8,8,8,10,8,8,8,8,8,8,8,8,8,8,8,8,8,8,999,8,8,8,1,1,1,1,0,0,1,3,3,3,3,3,1,3,3,3,3,3,3,1,3,3,3,3,3,3,1,3,3,7,0,4,4,0,4,4,4,4,1,0,0,4,4,0,12,1,1,1,1,0,0,1,3,3,3,3,3,1,3,3,3,3,3,3,1,3,3,3,3,3,3,1,3,3,7,0,2,2,0,2,2,2,1,0,0,2,2,0,2,2]
theorem lX_q1 (h0:x[i]?=some 34) (h4:st≠o) (h5:st≤o∧o≤x.length) (hx:x.length≤1000) (hacc:acc.length≤500) (hD:d≤640)
    (H:∀ en si k kg ts (to:Nat) pv cv pg cg ev f er p q,OkG w d (lpS w L GL go rs en si k kg false gb k1 k2 x tt tt (i+1) (i+1) ts .none pv cv pg cg ev (acc++[(x.drop st).take (o-st)]) f er st' acc') gb [gsP GL en p q]):OkG w d (lpS w L GL go rs en si k kg true gb k1 k2 x tt tt i st ts (.int o to) pv cv pg cg ev acc f er st' acc') gb [gsX GL en p q]:=by
  refine yth (fun n t=>yd 2 [] [4] [] (stnS si x tt i 34) fun v1=>.swap  (owS gL en (gqE GL) (v1.a 0)).t₀ (owS gL en (gqE GL) (v1.a 0)).t₁ <| yd 4 [0,1] [] [] (eqSS [34] [92] (v1.a 2) (v1.a 1+3) false) fun v3=>yd 4 [0,1] [] [] (eqSS [34] [34] (v1.a 2) (v3.a 1+2) true) fun v4=>yc [] (neIS st o ts to true) fun v5=>yd 0 [0] [] [10] (slcS x tt (v5.a 0) st ts (.int o to) ((x.drop st).take (o-st))) fun v6=>yd 0 [] [2] [] (bj rs (au acc f) er (.str (S ((x.drop st).take (o-st))) (v6.a 2)) (au (acc++[(x.drop st).take (o-st)]) (snocF acc.length f (v6.a 2)))) fun v7=>.nil) (fun n t=>xd (be h0) fun _=>⟨owS_ok,⟨aG rfl,fun v3=>⟨aG rfl,fun v4=>⟨bc (by omega) (by simp; omega),fun v5=>⟨slcS_ok hx h5.1 h5.2,fun v6=>⟨aq (by rw [aO]; omega) (svals_snoc _ _ _ _),fun v7=>trivial⟩⟩⟩⟩⟩⟩) (fun n t ω=>((fun v1=>(it5 0 [] [0,1,2,3,4] [5] (lpS w L GL go rs en si k kg false gb k1 k2 x tt tt (i+1) (i+1) ((ω 3377).v.a 1+1) .none (.int i (v1.a 1)) (.str (S [34]) (v1.a 2)) (.int i (v1.a 1)) (.str (S [34]) (v1.a 2)) (.str (S [34]) (v1.a 2)) (acc++[(x.drop st).take (o-st)]) (snocF acc.length f ((ω 2353).v.a 2)) (er+1) st' acc'))) (ω 1).v)) (fun n t ω=>[gsP GL en (ω 49).p (q)]) (fun n t ω=>H _ _ _ _ _ 0 _ _ _ _ _ _ _ _ _) 255 [12,12,12,0,2,0,0,4,4,8,8,8,10,8,8,8,8,8,8,8,8,8,8,8,8,8,8,999,8,8,8,1,1,1,1,0,0,1,3,3,3,3,3,1,3,3,3,3,3,3,1,3,3,3,3,3,3,1,3,3,7,0,4,4,0,4,4,4,4,1,0,0,4,4,0,12,1,1,1,1,0,0,1,3,3,3,3,3,1,3,3,3,3,3,3,1,3,3,3,3,3,3,1,3,3,7,0,2,2,0,2,2,2,1,0,0,2,2,2,1,0,0,2,6,6,6,6,2,2,2,2,0,2,2,0,2,2]
theorem lX_q2 (h0:x[i]?=some 34) (h4:st=o) (hD:d≤640)
    (H:∀ en si k kg ts (to:Nat) pv cv pg cg ev f er p q,OkG w d (lpS w L GL go rs en si k kg false gb k1 k2 x tt tt (i+1) (i+1) ts .none pv cv pg cg ev acc f er st' acc') gb [gsP GL en p q]):OkG w d (lpS w L GL go rs en si k kg true gb k1 k2 x tt tt i st ts (.int o to) pv cv pg cg ev acc f er st' acc') gb [gsX GL en p q]:=by
  refine yth (fun n t=>yd 2 [] [4] [] (stnS si x tt i 34) fun v1=>.swap  (owS gL en (gqE GL) (v1.a 0)).t₀ (owS gL en (gqE GL) (v1.a 0)).t₁ <| yd 4 [0,1] [] [] (eqSS [34] [92] (v1.a 2) (v1.a 1+3) false) fun v3=>yd 4 [0,1] [] [] (eqSS [34] [34] (v1.a 2) (v3.a 1+2) true) fun v4=>yc [] (neIS st o ts to false) fun v5=>.nil) (fun n t=>xd (be h0) fun _=>⟨owS_ok,⟨aG rfl,fun v3=>⟨aG rfl,fun v4=>⟨bc (by omega) (by simp; omega),fun v5=>trivial⟩⟩⟩⟩) (fun n t ω=>((fun v1=>(it5 0 [] [0,1,2,3,4] [5] (lpS w L GL go rs en si k kg false gb k1 k2 x tt tt (i+1) (i+1) ((ω 1329).v.a 1+1) .none (.int i (v1.a 1)) (.str (S [34]) (v1.a 2)) (.int i (v1.a 1)) (.str (S [34]) (v1.a 2)) (.str (S [34]) (v1.a 2)) acc f er st' acc'))) (ω 1).v)) (fun n t ω=>[gsP GL en (ω 49).p (q)]) (fun n t ω=>H _ _ _ _ _ 0 _ _ _ _ _ _ _ _ _) 234 [12,12,12,0,2,0,0,4,4,8,8,8,10,8,8,8,8,8,8,8,8,8,8,8,8,8,8,999,8,8,8,1,1,1,1,0,0,1,3,3,3,3,3,1,3,3,3,3,3,3,1,3,3,3,3,3,3,1,3,3,7,0,4,4,0,4,4,4,4,1,0,0,4,4,0,12,1,1,1,1,0,0,1,3,3,3,3,3,1,3,3,3,3,3,3,1,3,3,3,3,3,3,1,3,3,7,0,2,2,0,2,2,2,1,0,0,2,2,2,1,0,0,2,0,2,2,0,2,2]
theorem lX_z (h0:x[i]?=none) (hD:d≤640):OkG w d (lpS w L GL go rs en si k kg true gb k1 k2 x tt tt i st ts ov pv cv pg cg ev acc f er st acc) gb [gsX GL en p q]:=by
  refine yh (fun n t=>yd 2 [] [4] [] (sedS si x tt i) fun v1=>.nil) (fun n t=>xd (sedS_ok h0) fun _=>trivial) 41 [12,12,12,0,2,0,0,4,4,8,8,8,10,14,4,0,3] (fun n t ω=>((fun v1=>nu [(v1.a 0+2),(v1.a 1),er,k.a,k.b,k.c,k.d,k.e,k.f,ts] [enO 0 0,frG4 w kg x tt false pg cg,enO 0 0,enQ si i ev,⟨.type "str_ascii_iterator",none,.fields #[.none,.int i 0],#[]⟩] [ov,pv,cv] (f)) (ω 1).v))
end
noncomputable def stF (x:List Nat):List Nat→Nat→Nat→Option Nat→List (List Nat)→Option (Nat × List (List Nat))
  | [],_,st,_,acc=>some (st,acc)
  | c::l,i,st,op,acc=>if c=92 then (match l with
      | []=>none
      | _::l'=>stF x l' (i+2) st op acc)
    else if c=34 then (match op with
      | none=>stF x l (i+1) st (some i) acc
      | some o=>stF x l (i+1) (i+1) none (if st=o then acc else acc++[(x.drop st).take (o-st)]))
    else stF x l (i+1) st op acc
noncomputable def gsB (GL en:Addr) (b:Bool) (p q:Pos):GenState:=if b=true then gsX GL en p q else gsP GL en p q
section
variable {w:World} {d:Nat} {L GL go rs en si:Addr} {k:Tk} {ka:Tok} {kg:V4 Tok} {gb:Nat} {k1 k2:Tok} {x:List Nat} {tt ts to:Tok} {c i st st' er o:Nat} {ov:Value} {p q:Pos} {pv cv pg cg ev:Value} {acc acc':List (List Nat)} {f:Nat→Nat}
theorem drop_head {x l:List Nat} {i c:Nat} (h:x.drop i=c::l):x[i]?=some c∧x.drop (i+1)=l:=by
  refine ⟨?_,?_⟩
  · have:=congrArg (·[0]?) h
    simpa using this
  · rw [← List.drop_drop,h]; rfl
theorem lp_loop (hD:d≤640) (hx:x.length≤400):∀ (n:Nat) (rem:List Nat) (b:Bool) (i st:Nat) (op:Option Nat) (acc:List (List Nat)) (en si:Addr) (k:Tk) (kg:V4 Tok) (ts to:Tok) (pv cv pg cg ev:Value) (f:Nat→Nat) (er:Nat) (p q:Pos),rem.length≤n→x.drop i=rem→(∀ o,op=some o→st≤o∧o≤x.length)→acc.length≤i→st≤i→i≤x.length→stF x rem i st op acc=some (st',acc') →
    OkG w d (lpS w L GL go rs en si k kg b gb k1 k2 x tt tt i st ts (opV op to) pv cv pg cg ev acc f er st' acc') gb [gsB GL en b p q]
  | n,[],b,i,st,op,acc,en,si,k,kg,ts,to,pv,cv,pg,cg,ev,f,er,p,q,hn,hr,ho,ha,hsi,hi,h=>by
    have h0:x[i]?=none:=by
      rw [List.drop_eq_nil_iff] at hr
      rw [List.getElem?_eq_none_iff]; exact hr
    unfold stF at h
    injection h with h
    injection h with e1 e2
    subst e1 e2
    cases b with
    | false=>exact lP_z h0 hD
    | true=>exact lX_z h0 hD
  | 0,_::_,_,_,_,_,_,_,_,_,_,_,_,_,_,_,_,_,_,_,_,_,hn,_,_,_,_,_,_=>absurd hn (by simp)
  | n+1,c::l,b,i,st,op,acc,en,si,k,kg,ts,to,pv,cv,pg,cg,ev,f,er,p,q,hn,hr,ho,ha,hsi,hi,h=>by
    rw [List.length_cons] at hn
    obtain ⟨h0,hr1⟩:=drop_head hr
    have hil:i<x.length:=by
      rw [List.getElem?_eq_some_iff] at h0
      exact h0.1
    unfold stF at h
    by_cases h92:c=92
    · rw [if_pos h92] at h
      subst h92
      cases l with
      | nil=>cases h
      | cons c2 l'=>
        obtain ⟨h3,hr2⟩:=drop_head hr1
        have hil2:i+1<x.length:=by
          rw [List.getElem?_eq_some_iff] at h3
          exact h3.1
        rw [List.length_cons] at hn
        cases b with
        | false=>exact lP_e h0 h3 hD fun en si k kg ts _ pv cv pg cg ev f er p q=>lp_loop hD hx n l' true (i+2) st op acc en si k kg ts to pv cv pg cg ev f er p q (by omega) hr2 ho (by omega) (by omega) (by omega) h
        | true=>exact lX_e h0 h3 hD fun en si k kg ts _ pv cv pg cg ev f er p q=>lp_loop hD hx n l' true (i+2) st op acc en si k kg ts to pv cv pg cg ev f er p q (by omega) hr2 ho (by omega) (by omega) (by omega) h
    · rw [if_neg h92] at h
      by_cases h34:c=34
      · rw [if_pos h34] at h
        subst h34
        cases op with
        | none=>
          have ho':∀ o,some i=some o→st≤o∧o≤x.length:=fun o e=>by
            injection e with e
            subst e
            exact ⟨hsi,hi⟩
          cases b with
          | false=>exact lP_q0 h0 hD fun en si k kg ts to pv cv pg cg ev f er p q=>lp_loop hD hx n l false (i+1) st (some i) acc en si k kg ts to pv cv pg cg ev f er p q (by omega) hr1 ho' (by omega) (by omega) (by omega) h
          | true=>exact lX_q0 h0 hD fun en si k kg ts to pv cv pg cg ev f er p q=>lp_loop hD hx n l false (i+1) st (some i) acc en si k kg ts to pv cv pg cg ev f er p q (by omega) hr1 ho' (by omega) (by omega) (by omega) h
        | some o=>
          dsimp only at h
          by_cases hs:st=o
          · rw [if_pos hs] at h
            cases b with
            | false=>exact lP_q2 h0 hs hD fun en si k kg ts to pv cv pg cg ev f er p q=>lp_loop hD hx n l false (i+1) (i+1) none acc en si k kg ts to pv cv pg cg ev f er p q (by omega) hr1 (fun _ e=>nomatch e) (by omega) (by omega) (by omega) h
            | true=>exact lX_q2 h0 hs hD fun en si k kg ts to pv cv pg cg ev f er p q=>lp_loop hD hx n l false (i+1) (i+1) none acc en si k kg ts to pv cv pg cg ev f er p q (by omega) hr1 (fun _ e=>nomatch e) (by omega) (by omega) (by omega) h
          · rw [if_neg hs] at h
            cases b with
            | false=>exact lP_q1 h0 hs (ho o rfl) (by omega) (by omega) hD fun en si k kg ts to pv cv pg cg ev f er p q=>lp_loop hD hx n l false (i+1) (i+1) none _ en si k kg ts to pv cv pg cg ev f er p q (by omega) hr1 (fun _ e=>nomatch e) (by simp; omega) (by omega) (by omega) h
            | true=>exact lX_q1 h0 hs (ho o rfl) (by omega) (by omega) hD fun en si k kg ts to pv cv pg cg ev f er p q=>lp_loop hD hx n l false (i+1) (i+1) none _ en si k kg ts to pv cv pg cg ev f er p q (by omega) hr1 (fun _ e=>nomatch e) (by simp; omega) (by omega) (by omega) h
      · rw [if_neg h34] at h
        have g1:([c]==[92])=false:=by simpa using h92
        have g2:([c]==[34])=false:=by simpa using h34
        cases b with
        | false=>exact lP_p h0 g1 g2 hD fun en si k kg ts _ pv cv pg cg ev f er p q=>lp_loop hD hx n l false (i+1) st op acc en si k kg ts to pv cv pg cg ev f er p q (by omega) hr1 ho (by omega) (by omega) (by omega) h
        | true=>exact lX_p h0 g1 g2 hD fun en si k kg ts _ pv cv pg cg ev f er p q=>lp_loop hD hx n l false (i+1) st op acc en si k kg ts to pv cv pg cg ev f er p q (by omega) hr1 ho (by omega) (by omega) (by omega) h
theorem lp_all (hD:d≤640) (hx:x.length≤400) (ha:Asc x) (h:stF x x 0 0 none []=some (st',acc')) (hne:x≠[]):OkG w d (lp0S w L GL go rs k ka gb k1 k2 x tt ts st' acc') gb [gsF GL]:=by
  cases hxx:x with
  | nil=>exact absurd hxx hne
  | cons c l=>
    rw [← hxx]
    have hr:x.drop 0=c::l:=hxx
    obtain ⟨h0,hr1⟩:=drop_head hr
    have hil:0<x.length:=by rw [hxx]; simp
    have h:stF x (c::l) 0 0 none []=some (st',acc'):=by rw [← hxx]; exact h
    unfold stF at h
    by_cases h92:c=92
    · rw [if_pos h92] at h
      subst h92
      cases l with
      | nil=>cases h
      | cons c2 l'=>
        obtain ⟨h3,hr2⟩:=drop_head hr1
        have hil2:1<x.length:=by rw [hxx]; simp
        exact l0_e h0 h3 ha hD fun en si k kg ts _ pv cv pg cg ev f er p q=>lp_loop hD hx _ l' true 2 0 none [] en si k kg ts 0 pv cv pg cg ev f er p q (Nat.le_refl _) hr2 (fun _ e=>nomatch e) (by simp) (by omega) (by omega) h
    · rw [if_neg h92] at h
      by_cases h34:c=34
      · rw [if_pos h34] at h
        subst h34
        exact l0_q0 h0 ha hD fun en si k kg ts to pv cv pg cg ev f er p q=>lp_loop hD hx _ l false 1 0 (some 0) [] en si k kg ts to pv cv pg cg ev f er p q (Nat.le_refl _) hr1 (fun o e=>by injection e with e; omega) (by simp) (by omega) (by omega) h
      · rw [if_neg h34] at h
        have g1:([c]==[92])=false:=by simpa using h92
        have g2:([c]==[34])=false:=by simpa using h34
        exact l0_p h0 g1 g2 ha hD fun en si k kg ts _ pv cv pg cg ev f er p q=>lp_loop hD hx _ l false 1 0 none [] en si k kg ts 0 pv cv pg cg ev f er p q (Nat.le_refl _) hr1 (fun _ e=>nomatch e) (by simp) (by omega) (by omega) h
end
noncomputable def stripS (x:List Nat) (tt:Tok) (r:List Nat) (gl:List GenState):Sm where
  c:=.call (.ref 45) ⟨[.str (S x) tt],[]⟩
  mpre:=[]
  rpre:=[]
  post _:=[]
  news _:=[]
  gens:=gl
  res v:=.ok (.ret (.str (S r) (v.a 2)))
section
variable {w:World} {d:Nat} {x:List Nat} {tt:Tok} {st':Nat} {acc':List (List Nat)}
theorem strip_none (hD:d≤640) (h:(!(Builtin.Str.occurrences (S x) (S [34]) 0 (S x).length 1).isEmpty)=false):Ok w d (stripS x tt x []):=by
  refine yv (fun n t=>yd 0 [0] [] [] (bd x [34] tt (t+1) false) fun v1=>.nil) (fun n t=>xd (aA h) fun _=>trivial) 19 [0,0,0,1,1,1,1,2] (fun n t ω=>((fun v1=>nu [(v1.a 0),(v1.a 1),tt] [] []) (ω 0).v))
theorem strip_t (hD:d≤520) (hx:x.length≤400) (ha:Asc x) (h:(!(Builtin.Str.occurrences (S x) (S [34]) 0 (S x).length 1).isEmpty)=true) (hs:stF x x 0 0 none []=some (st',acc')) (hne:x≠[]) (hl:acc'.length≤500) (hst:st'<x.length) (hfl:(acc'++[x.drop st']).flatten.length≤1000):Ok w d (stripS x tt (acc'++[x.drop st']).flatten [.finished]):=by
  refine prove2 (by omega) (fun _=>rfl) (fun n t g=>yd 0 [0] [] [] (bd x [34] tt (t+1) true) fun v1=>.nil) (fun n t g=>⟨aA h,fun v1=>trivial⟩) 74 [0,0,0,1,1,1,1,0,2,2,0,2,2,0,2,2,0,2,0,0,0,0,3,3,1,5,5,1,0,0,5,5] (fun n t g ω=>(it5 2 [0,1,2] [0,2,1] [3] (Gn.s <| Gn.mk (lp0S w n ((ω 0).v.a 0+1) ((ω 0).v.a 0+2) ((ω 0).v.a 0) ⟨t,(ω 0).v.a 1+1,(ω 0).v.a 1+2,(ω 0).v.a 1+3,0,0,0,0,0⟩ ((ω 0).v.a 1+4) g ((ω 0).v.a 1+5) ((ω 0).v.a 1+6) x tt ((ω 0).v.a 1) st' acc') [gsF ((ω 0).v.a 0+1)]))) (fun n t g ω=>(Gn.mk (lp0S w n ((ω 0).v.a 0+1) ((ω 0).v.a 0+2) ((ω 0).v.a 0) ⟨t,(ω 0).v.a 1+1,(ω 0).v.a 1+2,(ω 0).v.a 1+3,0,0,0,0,0⟩ ((ω 0).v.a 1+4) g ((ω 0).v.a 1+5) ((ω 0).v.a 1+6) x tt ((ω 0).v.a 1) st' acc') [gsF ((ω 0).v.a 0+1)]).l) (fun n t g ω=>lp_all (by omega) hx ha hs hne) (fun n t g ω vm=>yc [] (lenSS x tt) fun v3=>yc [] (ltIS st' x.length (vm.a 9) (v3.a 2) true) fun v4=>yd 0 [0] [] [4] (slcS x tt (v4.a 0) st' (vm.a 9) .none (x.drop st')) fun v5=>yd 0 [] [1] [] (bj ((ω 0).v.a 0) (au acc' fun j=>vm.a (j+10)) (vm.a 2) (.str (S (x.drop st')) (v5.a 2)) (au (acc'++[x.drop st']) (snocF acc'.length (fun j=>vm.a (j+10)) (v5.a 2)))) fun v6=>yc [1] (jnS ((ω 0).v.a 0) (v6.a 1) (acc'++[x.drop st']) (snocF acc'.length (fun j=>vm.a (j+10)) (v5.a 2)) (vm.a 2+1)) fun v7=>.nil) (fun n t g ω vm=>⟨lenSS_ok (by omega),fun v3=>⟨ltIS_ok (by omega) (by simp; omega),fun v4=>⟨slcE_ok (by omega) (by omega),fun v5=>⟨aq (by rw [aO]; omega) (svals_snoc _ _ _ _),fun v6=>⟨jnS_ok hfl,fun v7=>trivial⟩⟩⟩⟩⟩) 42 [2,0,0,2,1,0,0,2,4,4,4,4,2,2,2] [] (by decide) (fun n t ω vm ωb=>nu [((ωb 16).v.a 0),((ωb 16).v.a 1),(ωb 16).v.a 2] [] []) (fun d fr gs u R st n ω=>by kernel_rfl) fun d fr gs u R st n ω v ωb=>by kernel_rfl
theorem strip_f (hD:d≤520) (hx:x.length≤400) (ha:Asc x) (h:(!(Builtin.Str.occurrences (S x) (S [34]) 0 (S x).length 1).isEmpty)=true) (hs:stF x x 0 0 none []=some (st',acc')) (hne:x≠[]) (hl:acc'.length≤500) (hst:¬ st'<x.length) (hfl:acc'.flatten.length≤1000):Ok w d (stripS x tt acc'.flatten [.finished]):=by
  refine prove2 (by omega) (fun _=>rfl) (fun n t g=>yd 0 [0] [] [] (bd x [34] tt (t+1) true) fun v1=>.nil) (fun n t g=>⟨aA h,fun v1=>trivial⟩) 74 [0,0,0,1,1,1,1,0,2,2,0,2,2,0,2,2,0,2,0,0,0,0,3,3,1,5,5,1,0,0,5,5] (fun n t g ω=>(it5 2 [0,1,2] [0,2,1] [3] (Gn.s <| Gn.mk (lp0S w n ((ω 0).v.a 0+1) ((ω 0).v.a 0+2) ((ω 0).v.a 0) ⟨t,(ω 0).v.a 1+1,(ω 0).v.a 1+2,(ω 0).v.a 1+3,0,0,0,0,0⟩ ((ω 0).v.a 1+4) g ((ω 0).v.a 1+5) ((ω 0).v.a 1+6) x tt ((ω 0).v.a 1) st' acc') [gsF ((ω 0).v.a 0+1)]))) (fun n t g ω=>(Gn.mk (lp0S w n ((ω 0).v.a 0+1) ((ω 0).v.a 0+2) ((ω 0).v.a 0) ⟨t,(ω 0).v.a 1+1,(ω 0).v.a 1+2,(ω 0).v.a 1+3,0,0,0,0,0⟩ ((ω 0).v.a 1+4) g ((ω 0).v.a 1+5) ((ω 0).v.a 1+6) x tt ((ω 0).v.a 1) st' acc') [gsF ((ω 0).v.a 0+1)]).l) (fun n t g ω=>lp_all (by omega) hx ha hs hne) (fun n t g ω vm=>yc [] (lenSS x tt) fun v3=>yc [] (ltIS st' x.length (vm.a 9) (v3.a 2) false) fun v4=>yc [1] (jnS ((ω 0).v.a 0) (v4.a 1) acc' (fun j=>vm.a (j+10)) (vm.a 2)) fun v5=>.nil) (fun n t g ω vm=>⟨lenSS_ok (by omega),fun v3=>⟨ltIS_ok (by omega) (by simp; omega),fun v4=>⟨jnS_ok hfl,fun v5=>trivial⟩⟩⟩) 23 [2,0,0,2,1,0,0,2] [] (by decide) (fun n t ω vm ωb=>nu [((ωb 8).v.a 0),((ωb 8).v.a 1),(ωb 8).v.a 2] [] []) (fun d fr gs u R st n ω=>by kernel_rfl) fun d fr gs u R st n ω v ωb=>by kernel_rfl
theorem stF_inv:∀ (n:Nat) (rem:List Nat) (i st:Nat) (op:Option Nat) (acc:List (List Nat)),rem.length≤n→acc.flatten.length≤st→acc.length≤st→st≤i→(∀ o,op=some o→o≤i)→stF x rem i st op acc=some (st',acc')→acc'.flatten.length≤st'∧acc'.length≤st'∧st'≤i+rem.length
  | _,[],i,st,op,acc,_,h1,h2,h3,h4,h=>by
    unfold stF at h
    injection h with h
    injection h with e1 e2
    subst e1 e2
    exact ⟨h1,h2,by simpa using h3⟩
  | 0,_::_,_,_,_,_,hn,_,_,_,_,_=>absurd hn (by simp)
  | n+1,c::l,i,st,op,acc,hn,h1,h2,h3,h4,h=>by
    rw [List.length_cons] at hn ⊢
    unfold stF at h
    split at h
    · cases l with
      | nil=>cases h
      | cons c2 l'=>
        rw [List.length_cons] at hn
        have z:=stF_inv n l' (i+2) st op acc (by omega) h1 h2 (by omega) (fun o e=>by have:=h4 o e; omega) h
        exact ⟨z.1,z.2.1,by have:=z.2.2; simp; omega⟩
    · split at h
      · cases op with
        | none=>
          have z:=stF_inv n l (i+1) st (some i) acc (by omega) h1 h2 (by omega) (fun o e=>by injection e with e; omega) h
          exact ⟨z.1,z.2.1,by have:=z.2.2; omega⟩
        | some o=>
          have ho:=h4 o rfl
          dsimp only at h
          have g1:(if st=o then acc else acc++[List.take (o-st) (List.drop st x)]).flatten.length≤i+1:=by
            split
            · omega
            · rw [List.flatten_append,List.length_append]
              have:([List.take (o-st) (List.drop st x)]:List (List Nat)).flatten.length≤o-st:=by simp; omega
              omega
          have g2:(if st=o then acc else acc++[List.take (o-st) (List.drop st x)]).length≤i+1:=by
            split
            · omega
            · rw [List.length_append]; show acc.length+1≤i+1; omega
          have z:=stF_inv n l (i+1) (i+1) none _ (by omega) g1 g2 (by omega) (fun o e=>nomatch e) h
          exact ⟨z.1,z.2.1,by have:=z.2.2; omega⟩
      · have z:=stF_inv n l (i+1) st op acc (by omega) h1 h2 (by omega) (fun o e=>by have:=h4 o e; omega) h
        exact ⟨z.1,z.2.1,by have:=z.2.2; omega⟩
theorem occ_mem (l:List Nat) (c:Nat):(!(Builtin.Str.occurrences (S l) (S [c]) 0 (S l).length 1).isEmpty)=decide (c∈l):=by
  have e:(S l).length=l.length:=rfl
  rw [e,occ_one]
  by_cases hc:c∈l
  · rw [decide_eq_true hc]
    obtain ⟨j,hj,hjc⟩:=List.mem_iff_getElem.mp hc
    have:(findF l c 0 l.length).isSome:=by
      unfold findF
      rw [List.find?_isSome]
      exact ⟨j,by rw [List.mem_range'_1]; omega,by simp [hj,hjc]; omega⟩
    cases hf:findF l c 0 l.length with
    | none=>rw [hf] at this; cases this
    | some a=>rfl
  · rw [decide_eq_false hc]
    have:findF l c 0 l.length=none:=findF_none fun i _ h=>hc (List.mem_of_getElem? h)
    rw [this]
    rfl
noncomputable def stripF (x:List Nat):Option (List Nat):=if 34∈x then (match stF x x 0 0 none [] with
  | some (st,acc)=>some (if st<x.length then (acc++[x.drop st]).flatten else acc.flatten)
  | none=>none) else some x
noncomputable def aN (x:List Nat):List GenState:=if 34∈x then [.finished] else []
theorem strip_ok {r:List Nat} (hD:d≤520) (hx:x.length≤400) (ha:Asc x) (h:stripF x=some r):Ok w d (stripS x tt r (aN x)):=by
  unfold stripF at h
  unfold aN
  by_cases hq:34∈x
  · rw [if_pos hq] at h ⊢
    have hne:x≠[]:=fun e=>by rw [e] at hq; cases hq
    have ho:=(occ_mem x 34).trans (decide_eq_true hq)
    split at h
    · rename_i st acc hst
      injection h with h
      have z:=stF_inv x.length x 0 0 none [] (Nat.le_refl _) (by simp) (by simp) (Nat.le_refl _) (fun _ e=>nomatch e) hst
      by_cases hl:st<x.length
      · rw [if_pos hl] at h
        subst h
        exact strip_t hD hx ha ho hst hne (by omega) hl (by simp at z ⊢; omega)
      · rw [if_neg hl] at h
        subst h
        exact strip_f hD hx ha ho hst hne (by omega) hl (by omega)
    · cases h
  · rw [if_neg hq] at h ⊢
    injection h with h
    subst h
    exact strip_none (by omega) ((occ_mem x 34).trans (decide_eq_false hq))
end
noncomputable def itrS (x:List Nat) (t:Tok):Sm where
  c:=bi "str.__iter__" [.str (S x) t]
  mpre:=[]
  rpre:=[]
  post _:=[]
  news v:=[(v.a 2,saO x t 0)]
  res v:=.ok (.ret (.ref (v.a 2)))
theorem itrS_ok {w:World} {D:Nat} {x:List Nat} {t:Tok} (h:Asc x):Ok w D (itrS x t):=by
  refine ⟨fun _=>rfl,fun A st R C B K _ H=>?_⟩
  refine codeAny_call_builtin F.slot_str_iter.plain F.entry_str_iter (F.slot_str_iter.check _ _ _ _ _ _ _ _ (typeIs_str _ _ _) (F.args_str_iter_1 _) ?_)
  have h:(S x).cps.all (·<128)=true:=h
  show wpAny _ _ (do ret (← newFields (if (true && (S x).cps.all (·<128))=true then "str_ascii_iterator" else "str_iterator") [.str (S x) t,rawInt 0])) _ _ st
  rw [h]
  refine wpAny_bind (wpAny_newObj_type (wpAny_pure (H _ (nu [st.heap.objs.size+1,st.toks,st.heap.objs.size]) ⟨⟨fun _ _ e _=>Heap.get?_push_of_some _ e,Nat.le_of_lt (by rw [size_push']; exact Nat.lt_succ_self _),rfl,rfl⟩,by rw [size_push']; rfl,rfl,by simp [itrS],fun _ h=>(nomatch h),fun y hy=>?_,?_⟩)))
  · rcases List.mem_singleton.mp hy with rfl
    exact ⟨Heap.get?_push_size _ rfl,Nat.le_refl _⟩
  · show List.Nodup [_]
    simp
noncomputable def wrT (s:Nat):List Nat:=if s==32 || s==9 || s==92 then [92,s] else [s]
noncomputable abbrev nmE (L cl cx cw cs:Addr):Env:=envF 18 135 134 (S [95,108,97,119,95,110,97,109,101,100,46,60,108,111,99,97,108,115,62,46]) L [(S [108,101,120,101,114],cl),(S [120],cx),(S [119,114,105,116,116,101,110],cw),(S [115,105,103,110,115],cs)]
noncomputable def frN2 (w:World) (k:Tk) (lw ln:Addr):Obj:=frm #[en w.params (S [119,111,114,100]) k.a (.ref lw),en w.params (S [110,117,109,98,101,114,115]) k.b (.ref ln)] 2
noncomputable def frN3 (w:World) (k:Tk) (lw ln:Addr) (sv:Value):Obj:=frm #[en w.params (S [119,111,114,100]) k.a (.ref lw),en w.params (S [110,117,109,98,101,114,115]) k.b (.ref ln),en w.params (S [115,105,103,110]) k.c sv] 3
noncomputable def wrS (w:World) (L cl cx cw cs it wl lw ln:Addr) (k:Tk) (fr:Obj) (sg:List Nat) (ts:Tok) (i:Nat) (acc:List (List Nat)) (f:Nat→Nat) (e:Nat) (acc':List (List Nat)):Sm where
  c:=forC (sto 18 1) (.ref it) (nmE L cl cx cw cs)
  mpre:=[(L,fr),(it,saO sg ts i),(wl,lst ⟨au acc f⟩ e)]
  rpre:=[(cw,aB (some (.ref wl)))]
  post v:=[(L,frN3 w { k with c:=v.a 3 } lw ln (v.x 0)),(it,v.o 1),(wl,lst ⟨au acc' fun j=>v.a (j+4)⟩ (v.a 2))]
  news _:=[]
  res _:=.ok .next
section
variable {w:World} {d:Nat} {L cl cx cw cs it wl lw ln:Addr} {k:Tk} {sg:List Nat} {ts:Tok} {i c:Nat} {acc acc':List (List Nat)} {f:Nat→Nat} {e:Nat} {sv:Value}
theorem wr0_t (hD:d≤640) (h0:sg[i]?=some c) (h1:(!(Builtin.Str.occurrences (S [32,9,92]) (S [c]) 0 (S [32,9,92]).length 1).isEmpty)=true) (hl:acc.length≤100)
    (H:∀ kc sv f e,Ok w d (wrS w L cl cx cw cs it wl lw ln { k with c:=kc } (frN3 w { k with c:=kc } lw ln sv) sg ts (i+1) (acc++[[92,c]]) f e acc')):Ok w d (wrS w L cl cx cw cs it wl lw ln k (frN2 w k lw ln) sg ts i acc f e acc'):=by
  refine yt (fun n t=>yd 0 [] [1] [] (stnS it sg ts i c) fun v1=>yc [] (bd [32,9,92] [c] (v1.a 1+1) (v1.a 2) true) fun v2=>yc [] (an [92] [c] (v2.a 1) (v1.a 2)) fun v3=>yd 0 [] [2] [] (bj wl (au acc f) e (.str (S [92,c]) (v3.a 2)) (au (acc++[[92,c]]) (snocF acc.length f (v3.a 2)))) fun v4=>.nil) (fun n t=>xd (be h0) fun _=>xc (aA h1) fun _=>xc (ad (by simp) (by simp) (by simp)) fun _=>xd (aq (by rw [aO]; omega) (svals_snoc _ _ _ _)) fun _=>trivial) (fun n t ω=>((fun v1=>(it5 0 [] [0,1,2] [3] (wrS w L cl cx cw cs it wl lw ln { k with c:=v1.a 1 } (frN3 w { k with c:=v1.a 1 } lw ln (.str (S [c]) (v1.a 2))) sg ts (i+1) (acc++[[92,c]]) (snocF acc.length f ((ω 2).v.a 2)) (e+1) acc'))) (ω 0).v)) (fun n t ω=>H _ _ _ _) 34 [4,0,2,2,2,8,6,6,6,6,2]
theorem wr0_f (hD:d≤640) (h0:sg[i]?=some c) (h1:(!(Builtin.Str.occurrences (S [32,9,92]) (S [c]) 0 (S [32,9,92]).length 1).isEmpty)=false) (hl:acc.length≤100)
    (H:∀ kc sv f e,Ok w d (wrS w L cl cx cw cs it wl lw ln { k with c:=kc } (frN3 w { k with c:=kc } lw ln sv) sg ts (i+1) (acc++[[c]]) f e acc')):Ok w d (wrS w L cl cx cw cs it wl lw ln k (frN2 w k lw ln) sg ts i acc f e acc'):=by
  refine yt (fun n t=>yd 0 [] [1] [] (stnS it sg ts i c) fun v1=>yc [] (bd [32,9,92] [c] (v1.a 1+1) (v1.a 2) false) fun v2=>yd 0 [] [2] [] (bj wl (au acc f) e (.str (S [c]) (v1.a 2)) (au (acc++[[c]]) (snocF acc.length f (v1.a 2)))) fun v3=>.nil) (fun n t=>xd (be h0) fun _=>xc (aA h1) fun _=>xd (aq (by rw [aO]; omega) (svals_snoc _ _ _ _)) fun _=>trivial) (fun n t ω=>((fun v1=>(it5 0 [] [0,1,2] [3] (wrS w L cl cx cw cs it wl lw ln { k with c:=v1.a 1 } (frN3 w { k with c:=v1.a 1 } lw ln (.str (S [c]) (v1.a 2))) sg ts (i+1) (acc++[[c]]) (snocF acc.length f (v1.a 2)) (e+1) acc'))) (ω 0).v)) (fun n t ω=>H _ _ _ _) 30 [4,0,2,2,2,8,6,6,6,6,2]
theorem wr1_t (hD:d≤640) (h0:sg[i]?=some c) (h1:(!(Builtin.Str.occurrences (S [32,9,92]) (S [c]) 0 (S [32,9,92]).length 1).isEmpty)=true) (hl:acc.length≤100)
    (H:∀ kc sv f e,Ok w d (wrS w L cl cx cw cs it wl lw ln { k with c:=kc } (frN3 w { k with c:=kc } lw ln sv) sg ts (i+1) (acc++[[92,c]]) f e acc')):Ok w d (wrS w L cl cx cw cs it wl lw ln k (frN3 w k lw ln sv) sg ts i acc f e acc'):=by
  refine yt (fun n t=>yd 0 [] [1] [] (stnS it sg ts i c) fun v1=>yc [] (bd [32,9,92] [c] (v1.a 1+1) (v1.a 2) true) fun v2=>yc [] (an [92] [c] (v2.a 1) (v1.a 2)) fun v3=>yd 0 [] [2] [] (bj wl (au acc f) e (.str (S [92,c]) (v3.a 2)) (au (acc++[[92,c]]) (snocF acc.length f (v3.a 2)))) fun v4=>.nil) (fun n t=>xd (be h0) fun _=>xc (aA h1) fun _=>xc (ad (by simp) (by simp) (by simp)) fun _=>xd (aq (by rw [aO]; omega) (svals_snoc _ _ _ _)) fun _=>trivial) (fun n t ω=>(it5 0 [] [0,1,2] [3] (wrS w L cl cx cw cs it wl lw ln k (frN3 w k lw ln (.str (S [c]) ((ω 0).v.a 2))) sg ts (i+1) (acc++[[92,c]]) (snocF acc.length f ((ω 2).v.a 2)) (e+1) acc'))) (fun n t ω=>H k.c _ _ _) 34 [4,0,2,2,2,8,6,6,6,6,2]
theorem wr1_f (hD:d≤640) (h0:sg[i]?=some c) (h1:(!(Builtin.Str.occurrences (S [32,9,92]) (S [c]) 0 (S [32,9,92]).length 1).isEmpty)=false) (hl:acc.length≤100)
    (H:∀ kc sv f e,Ok w d (wrS w L cl cx cw cs it wl lw ln { k with c:=kc } (frN3 w { k with c:=kc } lw ln sv) sg ts (i+1) (acc++[[c]]) f e acc')):Ok w d (wrS w L cl cx cw cs it wl lw ln k (frN3 w k lw ln sv) sg ts i acc f e acc'):=by
  refine yt (fun n t=>yd 0 [] [1] [] (stnS it sg ts i c) fun v1=>yc [] (bd [32,9,92] [c] (v1.a 1+1) (v1.a 2) false) fun v2=>yd 0 [] [2] [] (bj wl (au acc f) e (.str (S [c]) (v1.a 2)) (au (acc++[[c]]) (snocF acc.length f (v1.a 2)))) fun v3=>.nil) (fun n t=>xd (be h0) fun _=>xc (aA h1) fun _=>xd (aq (by rw [aO]; omega) (svals_snoc _ _ _ _)) fun _=>trivial) (fun n t ω=>((fun v1=>(it5 0 [] [0,1,2] [3] (wrS w L cl cx cw cs it wl lw ln k (frN3 w k lw ln (.str (S [c]) (v1.a 2))) sg ts (i+1) (acc++[[c]]) (snocF acc.length f (v1.a 2)) (e+1) acc'))) (ω 0).v)) (fun n t ω=>H k.c _ _ _) 30 [4,0,2,2,2,8,6,6,6,6,2]
theorem wr_x (hD:d≤640) (h0:sg[i]?=none):Ok w d (wrS w L cl cx cw cs it wl lw ln k (frN3 w k lw ln sv) sg ts i acc f e acc):=by
  refine yv (fun n t=>yd 0 [] [1] [] (sedS it sg ts i) fun v1=>.nil) (fun n t=>xd (sedS_ok h0) fun _=>trivial) 5 [4,10] (fun n t ω=>((fun v1=>nu [(v1.a 0),(v1.a 1),e,k.c] [enO 0 0,⟨.type "str_ascii_iterator",none,.fields #[.none,.int i 0],#[]⟩] [sv] (f)) (ω 0).v))
theorem has3 (c:Nat):(!(Builtin.Str.occurrences (S [32,9,92]) (S [c]) 0 (S [32,9,92]).length 1).isEmpty)=(c==32 || c==9 || c==92):=by
  rw [occ_mem,Bool.eq_iff_iff,decide_eq_true_eq]
  simp [or_assoc]
theorem wr_loop (hD:d≤640):∀ (rem:List Nat) (i:Nat) (acc:List (List Nat)) (f:Nat→Nat) (e:Nat) (sv:Value) (k:Tk),sg.drop i=rem→acc.length+rem.length≤100 →
    Ok w d (wrS w L cl cx cw cs it wl lw ln k (frN3 w k lw ln sv) sg ts i acc f e (acc++rem.map wrT))
  | [],i,acc,f,e,sv,k,hr,hl=>by
    have h0:sg[i]?=none:=by
      rw [List.drop_eq_nil_iff] at hr
      rw [List.getElem?_eq_none_iff]; exact hr
    rw [List.map_nil,List.append_nil]
    exact wr_x hD h0
  | c::rem,i,acc,f,e,sv,k,hr,hl=>by
    rw [List.length_cons] at hl
    obtain ⟨h0,hr1⟩:=drop_head hr
    have e1:acc++(c::rem).map wrT=(acc++[wrT c])++rem.map wrT:=by simp
    rw [e1]
    have h3:=has3 c
    cases hb:(c==32 || c==9 || c==92) with
    | true=>
      have ew:wrT c=[92,c]:=by unfold wrT; rw [hb]; rfl
      rw [ew]
      exact wr1_t hD h0 (h3.trans hb) (by omega) fun kc sv f e=>wr_loop hD rem (i+1) _ f e sv _ hr1 (by simp; omega)
    | false=>
      have ew:wrT c=[c]:=by unfold wrT; rw [hb]; rfl
      rw [ew]
      exact wr1_f hD h0 (h3.trans hb) (by omega) fun kc sv f e=>wr_loop hD rem (i+1) _ f e sv _ hr1 (by simp; omega)
theorem wr_all (hD:d≤640) (hne:sg≠[]) (hl:sg.length≤100):Ok w d (wrS w L cl cx cw cs it wl lw ln k (frN2 w k lw ln) sg ts 0 [] (fun _=>0) 0 (sg.map wrT)):=by
  cases hs:sg with
  | nil=>exact absurd hs hne
  | cons c rem=>
    rw [← hs]
    have hr:sg.drop 0=c::rem:=hs
    obtain ⟨h0,hr1⟩:=drop_head hr
    have e1:sg.map wrT=([]++[wrT c])++rem.map wrT:=by rw [hs]; simp
    rw [e1]
    have hl':rem.length+1≤100:=by rw [hs] at hl; exact hl
    have h3:=has3 c
    cases hb:(c==32 || c==9 || c==92) with
    | true=>
      have ew:wrT c=[92,c]:=by unfold wrT; rw [hb]; rfl
      rw [ew]
      exact wr0_t hD h0 (h3.trans hb) (by simp) fun kc sv f e=>wr_loop hD rem 1 _ f e sv _ hr1 (by simp; omega)
    | false=>
      have ew:wrT c=[c]:=by unfold wrT; rw [hb]; rfl
      rw [ew]
      exact wr0_f hD h0 (h3.trans hb) (by simp) fun kc sv f e=>wr_loop hD rem 1 _ f e sv _ hr1 (by simp; omega)
end
noncomputable abbrev vs4 (M:V4 (List Nat)) (u:V4 Tok):List Value:=[.str (S M.a) u.a,.str (S M.b) u.b,.str (S M.c) u.c,.str (S M.d) u.d]
theorem vs4_get {v:V4 (List Nat)} {u:V4 Tok} {i:Int} (h0:0≤i) (h:i<4):(vs4 v u)[i.toNat]?=some (.str (S (v.at i)) (u.at i)):=by
  rcases four h0 h with rfl | rfl | rfl | rfl <;> rfl
theorem vs4_set {v:V4 (List Nat)} {u:V4 Tok} {i:Int} {x:List Nat} {t:Tok} (h0:0≤i) (h:i<4):(vs4 v u).set i.toNat (.str (S x) t)=vs4 (v.put i x) (u.put i t):=by
  rcases four h0 h with rfl | rfl | rfl | rfl <;> rfl
theorem setv4_ok {w:World} {d:Nat} {l:Addr} {e:Nat} {v:V4 (List Nat)} {u:V4 Tok} {i:Int} {x:List Nat} {t t':Tok} (hD:d≤780) (h0:0≤i) (h:i<4):Ok w d (setS l (vs4 v u) e i t' (.str (S x) t) (vs4 (v.put i x) (u.put i t))):=by
  rw [← vs4_set h0 h]
  exact setS_ok hD h0 (by show i.toNat<4; omega)
noncomputable def endT (e:Int):List Nat:=if e=0 then [10] else if e=1 then [13] else [13,10]
noncomputable def endK (t:Tok) (e:Int):Tok:=if e=0 then t else if e=1 then t+1 else t+2
theorem end_get {t:Tok} {e:Int} (h0:0≤e) (h:e<3):([.str (S [10]) t,.str (S [13]) (t+1),.str (S [13,10]) (t+2)]:List Value)[e.toNat]?=some (.str (S (endT e)) (endK t e)):=by
  obtain rfl | rfl | rfl:e=0 ∨ e=1 ∨ e=2:=by omega
  all_goals rfl
theorem endT_ne (e:Int):endT e≠[]:=by unfold endT; split <;> (try split) <;> simp
theorem endT_le (e:Int):(endT e).length≤2:=by unfold endT; split <;> (try split) <;> simp
theorem fm3 (q:Int):0≤q.fmod 3∧q.fmod 3<3:=⟨Int.fmod_nonneg_of_pos _ (by decide),Int.fmod_lt_of_pos _ (by decide)⟩
noncomputable def qdS (tx:List Nat) (tt:Tok) (r:List Nat):Sm where
  c:=.call (.ref 111) ⟨[.str (S tx) tt],[]⟩
  mpre:=[]
  rpre:=[]
  post _:=[]
  news _:=[]
  res v:=.ok (.ret (.str (S r) (v.a 2)))
noncomputable def opn:List Nat:=[45,13,10,13,10]
noncomputable def frN5 (w:World) (k:Tk) (lw ln:Addr) (sv:Value) (to:Tok) (ml:Addr):Obj:=frm #[en w.params (S [119,111,114,100]) k.a (.ref lw),en w.params (S [110,117,109,98,101,114,115]) k.b (.ref ln),en w.params (S [115,105,103,110]) k.c sv,en w.params (S [111,112,101,110,105,110,103]) k.d (.str (S opn) to),en w.params (S [109,97,105,108,115]) k.e (.ref ml)] 5
noncomputable def frN7 (w:World) (k:Tk) (lw ln:Addr) (sv:Value) (to:Tok) (ml:Addr) (kv ev:Value):Obj:=frm #[en w.params (S [119,111,114,100]) k.a (.ref lw),en w.params (S [110,117,109,98,101,114,115]) k.b (.ref ln),en w.params (S [115,105,103,110]) k.c sv,en w.params (S [111,112,101,110,105,110,103]) k.d (.str (S opn) to),en w.params (S [109,97,105,108,115]) k.e (.ref ml),en w.params (S [107]) k.f kv,en w.params (S [101,110,100]) k.g ev] 7
noncomputable def mlS (w:World) (L cl cx cw cs it ml wl lw ln:Addr) (k:Tk) (fr:Obj) (sv:Value) (to:Tok) (v:V6 Int) (u:V6 Tok) (e:Nat) (X:V6 Int) (TX:V6 Tok) (e':Nat) (W:V4 (List Nat)) (uW:V4 Tok) (ew:Nat) (cur rem:Int) (M:V4 (List Nat)) (uM:V4 Tok) (em:Nat) (cv:Option Value) (M':V4 (List Nat)):Sm where
  c:=forC (sto 18 4) (.ref it) (nmE L cl cx cw cs)
  mpre:=[(L,fr),(it,rangeO cur rem),(ml,lst ⟨vs4 M uM⟩ em),(cx,aB cv)]
  rpre:=[(lw,li6 v u e),(ln,li6 X TX e'),(cw,aB (some (.ref wl))),(wl,lst ⟨vs4 W uW⟩ ew)]
  post v:=[(L,frN7 w { k with f:=v.a 3,g:=v.a 4 } lw ln sv to ml (v.x 0) (v.x 1)),(it,v.o 1),(ml,lst ⟨vs4 M' ⟨v.a 5,v.a 6,v.a 7,v.a 8⟩⟩ (v.a 2)),(cx,aB (some (v.x 2)))]
  news _:=[]
  res _:=.ok .next
section
variable {w:World} {d:Nat} {L cl cx cw cs it ml wl lw ln:Addr} {k:Tk} {sv:Value} {to:Tok} {v:V6 Int} {u:V6 Tok} {e:Nat} {X:V6 Int} {TX:V6 Tok} {e':Nat} {W:V4 (List Nat)} {uW:V4 Tok} {ew:Nat} {cur rem:Int} {M:V4 (List Nat)} {uM:V4 Tok} {em:Nat} {cv:Option Value} {M':V4 (List Nat)} {x q:Int} {tx tq tm tw:Tok} {m wr en r:List Nat} {kv ev:Value}
theorem ml1 (hD:d≤640) (hr:0<rem∧rem≤6) (hc:0≤cur) (g1:(vi6 v u)[cur.toNat]?=some (.int x tx)) (g2:(vi6 X TX)[cur.toNat]?=some (.int q tq)) (hx:0≤x∧x<4) (g3:(vs4 M uM)[x.toNat]?=some (.str (S m) tm)) (g4:(vs4 W uW)[x.toNat]?=some (.str (S wr) tw)) (hm:m≠[]) (hw:wr≠[]) (hl:m.length+wr.length≤500)
    (hq:∀ tt,Ok w (d+60) (qdS (((m++[46])++wr)++endT ((q.fdiv 160).fmod 3)) tt r))
    (H:∀ kv ev (cv:Value) kf kg u5 e5,Ok w d (mlS w L cl cx cw cs it ml wl lw ln { k with f:=kf,g:=kg } (frN7 w { k with f:=kf,g:=kg } lw ln sv to ml kv ev) sv to v u e X TX e' W uW ew (cur+1) (rem-1) (M.put x r) u5 e5 (some cv) M')) :
    Ok w d (mlS w L cl cx cw cs it ml wl lw ln k (frN7 w k lw ln sv to ml kv ev) sv to v u e X TX e' W uW ew cur rem M uM em cv M'):=by
  refine yt (fun n t=>yd 0 [] [1] [] (rngS it cur rem) fun v1=>yc [4] (ag lw (vi6 v u) e cur (v1.a 2) (.int x tx)) fun v2=>yd 0 [0] [] [5] (ag ln (vi6 X TX) e' cur (v1.a 2) (.int q tq)) fun v3=>yd 2 [] [] [8] (ag (v2.a 0) [.str (S [10]) (v2.a 1),.str (S [13]) (v2.a 1+1),.str (S [13,10]) (v2.a 1+2)] 0 ((q.fdiv 160).fmod 3) (v3.a 1+3) (.str (S (endT ((q.fdiv 160).fmod 3))) (endK (v2.a 1) ((q.fdiv 160).fmod 3)))) fun v4=>yd 1 [] [] [2] (ag ml (vs4 M uM) em x tx (.str (S m) tm)) fun v5=>yc [] (an m [46] tm (v5.a 1)) fun v6=>yc [7] (ag wl (vs4 W uW) ew x tx (.str (S wr) tw)) fun v7=>yc [] (an (m++[46]) wr (v6.a 2) tw) fun v8=>yc [] (an ((m++[46])++wr) (endT ((q.fdiv 160).fmod 3)) (v8.a 2) (endK (v2.a 1) ((q.fdiv 160).fmod 3))) fun v9=>yc [] (qdS (((m++[46])++wr)++endT ((q.fdiv 160).fmod 3)) (v9.a 2) r) fun v10=>yd 0 [] [2] [] (setS ml (vs4 M uM) em x tx (.str (S r) (v10.a 2)) (vs4 (M.put x r) (uM.put x (v10.a 2)))) fun v11=>.nil) (fun n t=>xd (aP (by omega) hr.1 hr.2) fun _=>xc (ab (by omega) hc g1) fun _=>xd (ab (by omega) hc g2) fun _=>xd (ab (by omega) (fm3 _).1 (end_get (fm3 _).1 (fm3 _).2)) fun _=>xd (ab (by omega) hx.1 g3) fun _=>xc (ad hm (by simp) (by simp; omega)) fun _=>xc (ab (by omega) hx.1 g4) fun _=>xc (ad (by simp) hw (by simp; omega)) fun _=>xc (ad (by simp) (endT_ne _) (by have:=endT_le ((q.fdiv 160).fmod 3); simp; omega)) fun _=>xc (hq _) fun _=>xd (setv4_ok (by omega) hx.1 hx.2) fun _=>trivial) (fun n t ω=>(it5 0 [] [0,1,2,3] [4,5,6,7] (mlS w L cl cx cw cs it ml wl lw ln k (frN7 w k lw ln sv to ml (.int cur ((ω 0).v.a 2)) (.str (S (endT ((q.fdiv 160).fmod 3))) (endK ((ω 1).v.a 1) ((q.fdiv 160).fmod 3)))) sv to v u e X TX e' W uW ew (cur+1) (rem-1) (M.put x r) (uM.put x ((ω 9).v.a 2)) em (some (.int x tx)) M'))) (fun n t ω=>H _ _ _ k.f k.g _ _) 111 [4,0,2,2,2,2,10,10,10,8,8,2,2,12,12,12,18,18,18,0,2,2,0,2,8,6,6,6,14,8,16,16,16,2,0,2,8,6,6]
theorem ml0 (hD:d≤640) (hr:0<rem∧rem≤6) (hc:0≤cur) (g1:(vi6 v u)[cur.toNat]?=some (.int x tx)) (g2:(vi6 X TX)[cur.toNat]?=some (.int q tq)) (hx:0≤x∧x<4) (g3:(vs4 M uM)[x.toNat]?=some (.str (S m) tm)) (g4:(vs4 W uW)[x.toNat]?=some (.str (S wr) tw)) (hm:m≠[]) (hw:wr≠[]) (hl:m.length+wr.length≤500)
    (hq:∀ tt,Ok w (d+60) (qdS (((m++[46])++wr)++endT ((q.fdiv 160).fmod 3)) tt r))
    (H:∀ kv ev (cv:Value) kf kg u5 e5,Ok w d (mlS w L cl cx cw cs it ml wl lw ln { k with f:=kf,g:=kg } (frN7 w { k with f:=kf,g:=kg } lw ln sv to ml kv ev) sv to v u e X TX e' W uW ew (cur+1) (rem-1) (M.put x r) u5 e5 (some cv) M')) :
    Ok w d (mlS w L cl cx cw cs it ml wl lw ln k (frN5 w k lw ln sv to ml) sv to v u e X TX e' W uW ew cur rem M uM em cv M'):=by
  refine yt (fun n t=>yd 0 [] [1] [] (rngS it cur rem) fun v1=>yc [4] (ag lw (vi6 v u) e cur (v1.a 2) (.int x tx)) fun v2=>yd 0 [0] [] [5] (ag ln (vi6 X TX) e' cur (v1.a 2) (.int q tq)) fun v3=>yd 2 [] [] [8] (ag (v2.a 0) [.str (S [10]) (v2.a 1),.str (S [13]) (v2.a 1+1),.str (S [13,10]) (v2.a 1+2)] 0 ((q.fdiv 160).fmod 3) (v3.a 1+3) (.str (S (endT ((q.fdiv 160).fmod 3))) (endK (v2.a 1) ((q.fdiv 160).fmod 3)))) fun v4=>yd 1 [] [] [2] (ag ml (vs4 M uM) em x tx (.str (S m) tm)) fun v5=>yc [] (an m [46] tm (v5.a 1)) fun v6=>yc [7] (ag wl (vs4 W uW) ew x tx (.str (S wr) tw)) fun v7=>yc [] (an (m++[46]) wr (v6.a 2) tw) fun v8=>yc [] (an ((m++[46])++wr) (endT ((q.fdiv 160).fmod 3)) (v8.a 2) (endK (v2.a 1) ((q.fdiv 160).fmod 3))) fun v9=>yc [] (qdS (((m++[46])++wr)++endT ((q.fdiv 160).fmod 3)) (v9.a 2) r) fun v10=>yd 0 [] [2] [] (setS ml (vs4 M uM) em x tx (.str (S r) (v10.a 2)) (vs4 (M.put x r) (uM.put x (v10.a 2)))) fun v11=>.nil) (fun n t=>xd (aP (by omega) hr.1 hr.2) fun _=>xc (ab (by omega) hc g1) fun _=>xd (ab (by omega) hc g2) fun _=>xd (ab (by omega) (fm3 _).1 (end_get (fm3 _).1 (fm3 _).2)) fun _=>xd (ab (by omega) hx.1 g3) fun _=>xc (ad hm (by simp) (by simp; omega)) fun _=>xc (ab (by omega) hx.1 g4) fun _=>xc (ad (by simp) hw (by simp; omega)) fun _=>xc (ad (by simp) (endT_ne _) (by have:=endT_le ((q.fdiv 160).fmod 3); simp; omega)) fun _=>xc (hq _) fun _=>xd (setv4_ok (by omega) hx.1 hx.2) fun _=>trivial) (fun n t ω=>((fun v1 v4=>(it5 0 [] [0,1,2,3] [4,5,6,7] (mlS w L cl cx cw cs it ml wl lw ln { k with f:=v1.a 1,g:=v4.a 1 } (frN7 w { k with f:=v1.a 1,g:=v4.a 1 } lw ln sv to ml (.int cur (v1.a 2)) (.str (S (endT ((q.fdiv 160).fmod 3))) (endK ((ω 1).v.a 1) ((q.fdiv 160).fmod 3)))) sv to v u e X TX e' W uW ew (cur+1) (rem-1) (M.put x r) (uM.put x ((ω 9).v.a 2)) em (some (.int x tx)) M'))) (ω 0).v (ω 3).v)) (fun n t ω=>H _ _ _ _ _ _ _) 111 [4,0,2,2,2,2,10,10,10,8,8,2,2,12,12,12,18,18,18,0,2,2,0,2,8,6,6,6,14,8,16,16,16,2,0,2,8,6,6]
theorem mlx {xv:Value} (hD:d≤700):Ok w d (mlS w L cl cx cw cs it ml wl lw ln k (frN7 w k lw ln sv to ml kv ev) sv to v u e X TX e' W uW ew cur 0 M uM em (some xv) M):=by
  refine yv (fun n t=>.nil) (fun n t=>trivial) 15 [4,4,4,4,4,3] (fun n t ω=>nu [(n+2),t,em,k.f,k.g,uM.a,uM.b,uM.c,uM.d] [enO 0 0,rangeO cur 0] [kv,ev,xv])
end
noncomputable def rowT (s k:Nat):List Nat:=List.replicate k 46++wrT s++[13,10]
noncomputable def rowsT (s:Nat):Nat→List Nat
  | 0=>[]
  | k+1=>rowT s (k+2)++rowsT s k
noncomputable def mailT (s n:Nat):List Nat:=opn++rowsT s n
noncomputable def rowW (x:List Nat) (k:Nat):List Nat:=List.replicate k 46++x++[13,10]
noncomputable def rowsW (x:List Nat):Nat→List Nat
  | 0=>[]
  | k+1=>rowW x (k+2)++rowsW x k
noncomputable def mailW (x:List Nat) (n:Nat):List Nat:=opn++rowsW x n
theorem rowsT_eq (s:Nat):∀ n,rowsT s n=rowsW (wrT s) n
  | 0=>rfl
  | n+1=>by unfold rowsT rowsW; rw [rowsT_eq s n]; rfl
theorem mailT_eq (s n:Nat):mailT s n=mailW (wrT s) n:=by unfold mailT mailW; rw [rowsT_eq]
noncomputable def rp8:Nat→List Nat→List Nat→List Nat
  | 0,_,r=>r
  | n+1,a,r=>a++rp8 n a r
noncomputable def oq (n:Nat):List Nat:=[0,0,0,1,1,1,0,0,0,0,0,0,0,0,0,0,0,1,0,0,0,0,0,3,3,3,3,3,3,0,0,3,3,3,0,0]++rp8 (n+1) [3,3,3,3,3,3,0,0] ([3,3,3,0,0,0]++rp8 (n+2) [0,0,5,5,5,5,5,5] [])
section
variable {w:World} {d:Nat} {tt:Tok}
noncomputable def mlW (x:List Nat) (n:Nat) (e:Int):List Nat:=((mailW x n++[46])++x)++endT e
noncomputable def QP (w:World) (d:Nat) (tt:Tok) (x:List Nat) (n:Nat) (e:Int):Prop:=Ok w d (qdS (mlW x n e) tt (mailW x (n+1)))
theorem qg {x:List Nat} (N n:Nat) (e:Int) (hD:d≤640)
    (H:∀ d' fr gs u R st n₀ ω,endL (run (VN w (d+60) d' fr gs u R st n₀ []) N (qdS (mlW x n e) tt (mailW x (n+1))).c none .base (bh (qdS (mlW x n e) tt (mailW x (n+1))).c) ⟨n₀,st.toks,.nil,ω,[]⟩ [] .nil 0 0 [] (oq n) [] []) 0 [] 0 [] =
      endR (run (VN w (d+60) d' fr gs u R st n₀ []) N (qdS (mlW x n e) tt (mailW x (n+1))).c none .base (bh (qdS (mlW x n e) tt (mailW x (n+1))).c) ⟨n₀,st.toks,.nil,ω,[]⟩ [] .nil 0 0 [] (oq n) [] []) (qdS (mlW x n e) tt (mailW x (n+1))) [] (nu [n₀+3,st.toks+(2*n+10),st.toks+(2*n+9)]):=by intros; kernel_rfl):QP w d tt x n e:=
  prove (by omega) (fun _=>rfl) (fun _ _=>.nil) (fun _ _=>trivial) N (oq n) [] (by decide) (fun a t _=>nu [a+3,t+(2*n+10),t+(2*n+9)]) H
noncomputable abbrev k14 (k:Nat):Nat:=.succ (.succ (.succ (.succ (.succ (.succ (.succ (.succ (.succ (.succ (.succ (.succ (.succ (.succ k)))))))))))))
theorem all18 {P:Nat→Int→Prop} (a0:P 0 0) (b0:P 0 1) (c0:P 0 2) (a1:P 1 0) (b1:P 1 1) (c1:P 1 2) (a2:P 2 0) (b2:P 2 1) (c2:P 2 2) (a3:P 3 0) (b3:P 3 1) (c3:P 3 2) (a4:P 4 0) (b4:P 4 1) (c4:P 4 2) (a5:P 5 0) (b5:P 5 1) (c5:P 5 2):∀ n<6,∀ e:Int,0≤e→e<3→P n e:=by
  intro n hn e h0 h3
  obtain rfl | rfl | rfl | rfl | rfl | rfl:n=0 ∨ n=1 ∨ n=2 ∨ n=3 ∨ n=4 ∨ n=5:=by omega
  all_goals (obtain rfl | rfl | rfl:e=0 ∨ e=1 ∨ e=2:=by omega)
  all_goals assumption
theorem qs1 (k:Nat) (hD:d≤640):∀ n<6,∀ e:Int,0≤e→e<3→QP w d tt [k14 k] n e:=all18 (qg 149 0 0 hD) (qg 151 0 1 hD) (qg 148 0 2 hD) (qg 184 1 0 hD) (qg 186 1 1 hD) (qg 183 1 2 hD) (qg 219 2 0 hD) (qg 221 2 1 hD) (qg 218 2 2 hD) (qg 255 3 0 hD) (qg 257 3 1 hD) (qg 254 3 2 hD) (qg 291 4 0 hD) (qg 293 4 1 hD) (qg 290 4 2 hD) (qg 328 5 0 hD) (qg 330 5 1 hD) (qg 327 5 2 hD)
theorem qs2 (k:Nat) (hD:d≤640):∀ n<6,∀ e:Int,0≤e→e<3→QP w d tt [92,k14 k] n e:=all18 (qg 149 0 0 hD) (qg 151 0 1 hD) (qg 148 0 2 hD) (qg 184 1 0 hD) (qg 186 1 1 hD) (qg 183 1 2 hD) (qg 220 2 0 hD) (qg 222 2 1 hD) (qg 219 2 2 hD) (qg 256 3 0 hD) (qg 258 3 1 hD) (qg 255 3 2 hD) (qg 293 4 0 hD) (qg 295 4 1 hD) (qg 292 4 2 hD) (qg 330 5 0 hD) (qg 332 5 1 hD) (qg 329 5 2 hD)
theorem qs3 (hD:d≤640):∀ n<6,∀ e:Int,0≤e→e<3→QP w d tt [92,9] n e:=all18 (qg 149 0 0 hD) (qg 151 0 1 hD) (qg 148 0 2 hD) (qg 184 1 0 hD) (qg 186 1 1 hD) (qg 183 1 2 hD) (qg 220 2 0 hD) (qg 222 2 1 hD) (qg 219 2 2 hD) (qg 256 3 0 hD) (qg 258 3 1 hD) (qg 255 3 2 hD) (qg 293 4 0 hD) (qg 295 4 1 hD) (qg 292 4 2 hD) (qg 330 5 0 hD) (qg 332 5 1 hD) (qg 329 5 2 hD)
theorem qs {s n:Nat} {e:Int} {x:List Nat} (h:wrT s=x) (H:QP w d tt x n e):Ok w d (qdS (((mailT s n++[46])++wrT s)++endT e) tt (mailT s (n+1))):=by
  rw [mailT_eq,mailT_eq,h]; exact H
noncomputable def abc8:List Nat:=[97,32,34,92,40,39,98,9]
theorem qd_all (hD:d≤640) {s:Nat} (hs:s∈abc8) {n:Nat} (hn:n<6) {e:Int} (h0:0≤e) (h3:e<3):Ok w d (qdS (((mailT s n++[46])++wrT s)++endT e) tt (mailT s (n+1))):=by
  simp only [abc8,List.mem_cons,List.not_mem_nil,or_false] at hs
  rcases hs with rfl | rfl | rfl | rfl | rfl | rfl | rfl | rfl
  · exact qs rfl (qs1 83 hD n hn e h0 h3)
  · exact qs rfl (qs2 18 hD n hn e h0 h3)
  · exact qs rfl (qs1 20 hD n hn e h0 h3)
  · exact qs rfl (qs2 78 hD n hn e h0 h3)
  · exact qs rfl (qs1 26 hD n hn e h0 h3)
  · exact qs rfl (qs1 25 hD n hn e h0 h3)
  · exact qs rfl (qs1 84 hD n hn e h0 h3)
  · exact qs rfl (qs3 hD n hn e h0 h3)
end
section
open PySem.SeqAt PySem.MeetsSeq
noncomputable def aZ (v:V6 Int) (x:Int):Nat:=(List.countP (fun y=>y==x) [v.a,v.b,v.c,v.d,v.e,v.f])
noncomputable def cntS (l:Addr) (v:V6 Int) (u:V6 Tok) (e:Nat) (x:Int) (t:Tok) (n:Nat):Sm where
  c:=bi "list.count" [.ref l,.int x t]
  mpre:=[]
  rpre:=[(l,li6 v u e)]
  post _:=[]
  news _:=[]
  res v:=.ok (.ret (.int n (v.a 2)))
noncomputable def isI (x:Int):Value→Bool
  | .int b _=>b==x
  | _=>false
theorem cntS_ok {w:World} {D:Nat} {l:Addr} {v:V6 Int} {u:V6 Tok} {e:Nat} {x:Int} {t:Tok} {n:Nat} (h:aZ v x=n):Ok w D (cntS l v u e x t n):=by
  subst h
  refine ⟨fun _=>rfl,fun A st R C B K _ H=>?_⟩
  have ho:st.heap.get? l=some (li6 v u e):=K.head
  refine codeAny_call_builtin F.slot_list_count.plain F.entry_list_count (F.slot_list_count.check _ _ _ _ _ _ _ _ ⟨_,ho,rfl⟩ (F.args_list_count_2 _ _) ?_)
  refine list_count l ⟨vi6 v u⟩ e (.int x t) (isI x) (fun y hy=>?_) PR w A R st ⟨ho,?_⟩
  · have hy:y∈vi6 v u:=by simpa using hy
    simp only [List.mem_cons,List.not_mem_nil,or_false] at hy
    rcases hy with rfl | rfl | rfl | rfl | rfl | rfl <;> exact EqGives.int _ _ _ _
  · exact H _ (nu [st.heap.objs.size,st.toks+1,st.toks]) (left0t (tk:=st.toks+1) rfl (fun _=>rfl) (fun _=>rfl) rfl)
noncomputable def lneS (l b:Addr) (A:List (List Nat)) (f:Nat→Nat) (e:Nat) (B:List (List Nat)) (g:Nat→Nat) (e':Nat) (r:Bool):Sm where
  c:=bi "list.__ne__" [.ref l,.ref b]
  mpre:=[]
  rpre:=[(l,lst ⟨au A f⟩ e),(b,lst ⟨au B g⟩ e')]
  post _:=[]
  news _:=[]
  res _:=.ok (.ret (.bool r))
theorem svals_get:∀ (A:List (List Nat)) (f:Nat→Nat) (j:Nat),(au A f)[j]?=(A[j]?).map fun a=>.str (S a) (f j)
  | [],_,_=>by simp [au]
  | a::A,f,0=>rfl
  | a::A,f,j+1=>svals_get A (fun j=>f (j+1)) j
theorem lne_same {w:World} {D:Nat} {l b:Addr} {A:List (List Nat)} {f:Nat→Nat} {e:Nat} {g:Nat→Nat} {e':Nat}:Ok w D (lneS l b A f e A g e' false):=by
  refine ⟨fun _=>rfl,fun Ar st R C B K _ H=>?_⟩
  have ho:st.heap.get? l=some (lst ⟨au A f⟩ e):=K.head
  have ho2:st.heap.get? b=some (lst ⟨au A g⟩ e'):=K.tail.head
  refine codeAny_call_builtin F.slot_list_ne.plain F.entry_list_ne (F.slot_list_ne.check _ _ _ _ _ _ _ _ ⟨_,ho,rfl⟩ (F.args_list_ne_2 _ _) ?_)
  have hsz:(⟨au A f⟩:Array Value).size=(⟨au A g⟩:Array Value).size:=by show (au A f).length=(au A g).length; rw [aO,aO]
  refine SeqAt.list_neAt l b ⟨au A f⟩ ⟨au A g⟩ e e' none none #[] #[] hsz (fun _=>true) PR w Ar R st ⟨ho,ho2,fun j h1 h2=>?_,?_⟩
  · have a1:(⟨au A f⟩:Array Value)[j]?=(au A f)[j]?:=by simp
    have a2:(⟨au A g⟩:Array Value)[j]?=(au A g)[j]?:=by simp
    have b1:=Array.getElem?_eq_getElem h1
    have b2:=Array.getElem?_eq_getElem h2
    rw [a1,svals_get] at b1
    rw [a2,svals_get] at b2
    cases hA:A[j]? with
    | none=>rw [hA] at b1; cases b1
    | some a=>
      rw [hA] at b1 b2
      injection b1 with b1
      injection b2 with b2
      rw [← b1,← b2]
      exact (show EqGives (.str (S a) (f j)) (.str (S a) (g j)) true from fun prog w A E s Q h=>wpAny_eqBool_str (by simpa using h)).at _ _
  · have:(!(List.range (⟨au A f⟩:Array Value).size).all fun _=>true)=false:=by simp
    rw [this]
    exact H _ (nu [st.heap.objs.size,st.toks]) (left0t (tk:=st.toks) (l:=[]) rfl (fun _=>rfl) (fun _=>rfl) rfl)
end
noncomputable def cvals:Nat→(Nat→Nat)→List Value
  | 0,_=>[]
  | n+1,f=>.int (n+2) (f 0)::cvals n fun j=>f (j+1)
theorem aD:∀ (n:Nat) (f:Nat→Nat),(cvals n f).length=n
  | 0,_=>rfl
  | n+1,f=>congrArg (·+1) (aD n _)
theorem cvals_of:∀ (n:Nat) (a:List Value),a.length=n→(∀ (j:Nat) (v:Value),a[j]?=some v→∃ u:Tok,v=.int ((n+1:Int)-j) u)→∃ f,a=cvals n f
  | 0,[],_,_=>⟨fun _=>0,rfl⟩
  | 0,_::_,h,_=>by cases h
  | _+1,[],h,_=>by cases h
  | n+1,v::a,h,H=>by
    obtain ⟨f,hf⟩:=cvals_of n a (Nat.succ.inj h) fun j v' hv=>by
      obtain ⟨u,hu⟩:=H (j+1) v' hv
      refine ⟨u,?_⟩
      rw [hu]
      congr 1
      push_cast
      omega
    obtain ⟨u,hv⟩:=H 0 v rfl
    refine ⟨fun j=>match j with | 0=>u | j+1=>f j,?_⟩
    subst hv hf
    show _::cvals n f=_::cvals n f
    congr 2
noncomputable def rngO (a b c:Int) (t1 t2 t3:Tok):Obj:=⟨.type "range",none,.fields #[.int a t1,.int b t2,.int c t3],#[]⟩
noncomputable def lrS (A rng:Addr) (n:Nat) (t1 t2 t3:Tok):Sm where
  c:=bi "list.__init__" [.ref A,.ref rng]
  mpre:=[(A,lst #[] 0)]
  rpre:=[(rng,rngO (n+1) 1 (-1) t1 t2 t3)]
  post v:=[(A,lst ⟨cvals n fun j=>v.a (j+3)⟩ (v.a 2))]
  news _:=[]
  res _:=.ok (.ret .none)
  sz:=some (A+1)
theorem lrS_ok {w:World} {D:Nat} {S rng:Addr} {n:Nat} {t1 t2 t3:Tok} (hn:n≤6):Ok w D (lrS S rng n t1 t2 t3):=by
  refine ⟨fun _=>rfl,fun A st R C B K Z H=>?_⟩
  have hS:st.heap.get? S=some (lst #[] 0):=K.head
  have hr:st.heap.get? rng=some (rngO (n+1) 1 (-1) t1 t2 t3):=K.tail.head
  have ft:=F.called_list
  refine codeAny_call_builtin ft.init.plain F.entry_list_init (ft.init.check _ _ _ _ _ _ _ _ ⟨_,hS,rfl⟩ (F.args_list_init_2 _ _) ?_)
  have hsz:Builtin.Range.rangeSize ((n:Int)+1) 1 (-1)=n:=by
    have key:∀ n:Nat,n≤6→Builtin.Range.rangeSize ((n:Int)+1) 1 (-1)=n:=by decide
    exact key n hn
  have hsm:Builtin.Range.small ((n:Int)+1) 1 (-1)=true:=by
    have key:∀ n:Nat,n≤6→Builtin.Range.small ((n:Int)+1) 1 (-1)=true:=by decide
    exact key n hn
  refine wpAny_list_init_range C.handled (show IsRange st.heap rng ((n:Int)+1) 1 (-1) t1 t2 t3 from hr) hsm hsz (by omega) S hS fun h' tk acc' c' hk hS' hacc=>?_
  obtain ⟨f,hf⟩:=cvals_of n acc'.toList (by rw [Array.length_toList,hacc.1]) fun j v hv=>by
    obtain ⟨u,hu⟩:=hacc.2 j v (by rw [← Array.getElem?_toList]; exact hv)
    have e:(n:Int)+1+j*(-1)=(n+1:Int)-j:=by omega
    exact ⟨u,by rw [hu,e]⟩
  refine H _ ⟨fun j=>match j with | 0=>h'.objs.size | 1=>tk | 2=>c' | j+3=>f j,fun _=>default,fun _=>.none,fun _ _=>0⟩ ⟨⟨fun b o e hb=>hk b o (fun q=>hb (by simp [lrS,q])) e,?_,rfl,rfl⟩,rfl,rfl,by simp [lrS],fun y hy=>?_,fun _ h=>(nomatch h),List.nodup_nil⟩
  · rw [Z _ rfl]
    exact Heap.lt_size hS'
  · rcases List.mem_singleton.mp hy with rfl
    refine hS'.trans ?_
    have:acc'=⟨cvals n f⟩:=by rw [← hf]
    rw [this]
noncomputable def cmpR:Expr→Expr
  | .Compare _ _ (c::_) _=>c
  | e=>e
noncomputable def binR:Expr→Expr
  | .BinOp _ _ r _=>r
  | e=>e
noncomputable def callA:Expr→Expr
  | .Call _ (a::_) _ _=>a
  | e=>e
noncomputable abbrev ntB (j:Nat):Stmt:=nthS (forBd (sto 18 6)) j
noncomputable def nC1:Expr:=callA (binR (cmpR (ifT (ntB 1))))
noncomputable def nC2:Expr:=asgE (ntB 4)
noncomputable def nC3:Expr:=cmpR (ifT (ntB 5))
noncomputable def nqual:Str:=S [95,108,97,119,95,110,97,109,101,100,46,60,108,111,99,97,108,115,62,46]
noncomputable def nE1 (dct L cx cw:Addr):Env:=⟨{ kind:=.function,names:=[(S [46,48],.local),(S [107],.local),(S [119,114,105,116,116,101,110],.cell),(S [120],.cell)],isGenerator:=false,isCoroutine:=false },dct,3,[(S [120],cx),(S [119,114,105,116,116,101,110],cw)],nqual,none,.ref 134,some L,0⟩
noncomputable def nE2 (dct L cl:Addr):Env:=⟨{ kind:=.function,names:=[(S [46,48],.local),(S [107],.local),(S [108,101,120,101,114],.cell)],isGenerator:=false,isCoroutine:=false },dct,3,[(S [108,101,120,101,114],cl)],nqual,none,.ref 134,some L,0⟩
noncomputable def nE3 (dct L cx cs:Addr):Env:=⟨{ kind:=.function,names:=[(S [46,48],.local),(S [107],.local),(S [115,105,103,110,115],.cell),(S [120],.cell)],isGenerator:=false,isCoroutine:=false },dct,3,[(S [120],cx),(S [115,105,103,110,115],cs)],nqual,none,.ref 134,some L,0⟩
noncomputable def kdF (w:World):Nat→Tok→Value→Obj
  | 0,_,_=>aV
  | _+1,t,v=>⟨.type "dict",none,.dict #[en w.params (S [107]) t v] 1,#[]⟩
noncomputable def crow (w:List Nat) (k:Nat):List Nat:=(List.replicate k 46++w)++[13,10]
noncomputable def aX (w:List Nat):Nat→List (List Nat)
  | 0=>[]
  | n+1=>crow w (n+2)::aX w n
noncomputable def a9 (s:Nat) (k:Nat):List Nat:=List.replicate k 46++[s]
noncomputable def cnams (s:Nat):Nat→List (List Nat)
  | 0=>[]
  | n+1=>a9 s (n+2)::cnams s n
noncomputable def c1S (w:World) (L it acc dct cl cx cw wl:Addr) (n:Nat) (f:Nat→Nat) (e:Nat) (x:Int) (tx:Tok) (W:V4 (List Nat)) (uW:V4 Tok) (ew:Nat) (wr:List Nat):Sm where
  c:=.compStart nC1 0 (.ref it) (.ref acc) (nE1 dct L cx cw)
  mpre:=[(it,lit cl 0),(acc,lst #[] 0),(dct,aV)]
  rpre:=[(cl,lst ⟨cvals n f⟩ e),(cx,aB (some (.int x tx))),(cw,aB (some (.ref wl))),(wl,lst ⟨vs4 W uW⟩ ew)]
  post v:=[(it,v.o 0),(acc,lst ⟨au (aX wr n) fun j=>v.a (j+4)⟩ (v.a 2)),(dct,kdF w n (v.a 3) (v.x 0))]
  news _:=[]
  res _:=.ok .next
noncomputable def c2S (w:World) (L it acc dct cl lc:Addr) (n:Nat) (f:Nat→Nat) (e:Nat) (x:Lx) (ln:Int) (lt:Tok) (l:List Nat) (gg:Nat→Nat) (ec ep:Nat) (l':List Nat) (ln':Int) (s:Nat):Sm where
  c:=.compStart nC2 0 (.ref it) (.ref acc) (nE2 dct L lc)
  mpre:=[(it,lit cl 0),(acc,lst #[] 0),(dct,aV)]++x.mut w ln lt (chs l gg) ec [] ep
  rpre:=(cl,lst ⟨cvals n f⟩ e)::(lc,aB (some (.ref x.self)))::x.fix w
  post v:=[(it,v.o 0),(acc,lst ⟨au (cnams s n) fun j=>v.f 0 j⟩ (v.a 2)),(dct,kdF w n (v.a 5) (v.x 0))]++x.mut w ln' (v.a 3) (chs l' fun j=>v.a (j+6)) (v.a 4) [] ep
  news _:=[]
  res _:=.ok .next
noncomputable def c3S (w:World) (L it acc dct cl cx cs:Addr) (n:Nat) (f:Nat→Nat) (e:Nat) (x:Int) (tx:Tok) (sg:List Nat) (ts:Tok) (s:Nat):Sm where
  c:=.compStart nC3 0 (.ref it) (.ref acc) (nE3 dct L cx cs)
  mpre:=[(it,lit cl 0),(acc,lst #[] 0),(dct,aV)]
  rpre:=[(cl,lst ⟨cvals n f⟩ e),(cx,aB (some (.int x tx))),(cs,aB (some (.str (S sg) ts)))]
  post v:=[(it,v.o 0),(acc,lst ⟨au (cnams s n) fun j=>v.a (j+4)⟩ (v.a 2)),(dct,kdF w n (v.a 3) (v.x 0))]
  news _:=[]
  res _:=.ok .next
section
variable {w:World} {d:Nat} {L it acc dct cl cx cw cs lc wl:Addr} {n:Nat} {f gg:Nat→Nat} {e:Nat} {x:Int} {tx ts tw:Tok} {W:V4 (List Nat)} {uW:V4 Tok} {ew:Nat} {wr:List Nat} {sg:List Nat} {s:Nat} {X:Lx} {ln ln':Int} {lt:Tok} {l l':List Nat} {ec ep:Nat}
theorem c1_0 (hD:d≤600) (hx:0≤x) (g4:(vs4 W uW)[x.toNat]?=some (.str (S wr) tw)) (hw:wr≠[]) (hl:wr.length≤10):Ok w d (c1S w L it acc dct cl cx cw wl 0 f e x tx W uW ew wr):=by
  refine yv (fun n t=>.nil) (fun n t=>trivial) 18 [2,0,10,2,2,1,0,0,2,2,2,2,2,2,8,2,2,3] (fun n t ω=>nu [(n+2),t,0,0] [⟨(.type "list_iterator"),none,.fields #[.none,(.int 0 0)],#[]⟩] [])
theorem c1_1 (hD:d≤600) (hx:0≤x) (g4:(vs4 W uW)[x.toNat]?=some (.str (S wr) tw)) (hw:wr≠[]) (hl:wr.length≤10):Ok w d (c1S w L it acc dct cl cx cw wl 1 f e x tx W uW ew wr):=by
  refine yv (fun n t=>yd 3 [] [] [6] (ag wl (vs4 W uW) ew x tx (.str (S wr) tw)) fun v1=>yc [] (an [46,46] wr (t+2) tw) fun v2=>yc [] (an ([46,46]++wr) [13,10] (v2.a 2) (v2.a 1)) fun v3=>.nil) (fun n t=>xd (ab (by omega) hx g4) fun _=>xc (ad (by simp) hw (by simp; omega)) fun _=>xc (ad (by simp) (by simp) (by simp; omega)) fun _=>trivial) 73 [2,0,10,2,2,1,0,0,2,2,2,2,2,2,8,2,2,0,6,6,6,12,10,14,14,14,4,4,4,4,2,2,2,2,8,2,2,3] (fun n t ω=>((fun v3=>nu [(v3.a 0+2),(v3.a 1),1,t,v3.a 2] [⟨(.type "list_iterator"),none,.fields #[.none,(.int 1 0)],#[]⟩] [.int 2 (f 0)]) (ω 11).v))
theorem c1_2 (hD:d≤600) (hx:0≤x) (g4:(vs4 W uW)[x.toNat]?=some (.str (S wr) tw)) (hw:wr≠[]) (hl:wr.length≤10):Ok w d (c1S w L it acc dct cl cx cw wl 2 f e x tx W uW ew wr):=by
  refine yv (fun n t=>yd 3 [] [] [6] (ag wl (vs4 W uW) ew x tx (.str (S wr) tw)) fun v1=>yc [] (an [46,46,46] wr (t+2) tw) fun v2=>yc [] (an ([46,46,46]++wr) [13,10] (v2.a 2) (v2.a 1)) fun v3=>yd 4 [] [] [6] (ag wl (vs4 W uW) ew x tx (.str (S wr) tw)) fun v4=>yc [] (an [46,46] wr (v3.a 1+2) tw) fun v5=>yc [] (an ([46,46]++wr) [13,10] (v5.a 2) (v5.a 1)) fun v6=>.nil) (fun n t=>xd (ab (by omega) hx g4) fun _=>xc (ad (by simp) hw (by simp; omega)) fun _=>xc (ad (by simp) (by simp) (by simp; omega)) fun _=>xd (ab (by omega) hx g4) fun _=>xc (ad (by simp) hw (by simp; omega)) fun _=>xc (ad (by simp) (by simp) (by simp; omega)) fun _=>trivial) 128 [2,0,10,2,2,1,0,0,2,2,2,2,2,2,8,2,2,0,6,6,6,12,10,14,14,14,4,4,4,4,2,2,2,2,8,2,2,0,6,6,6,12,10,14,14,14,4,4,4,4,2,2,2,2,8,2,2,3] (fun n t ω=>((fun v6=>nu [(v6.a 0+2),(v6.a 1),2,t,(ω 11).v.a 2,v6.a 2] [⟨(.type "list_iterator"),none,.fields #[.none,(.int 2 0)],#[]⟩] [.int 2 (f 1)]) (ω 23).v))
theorem c1_3 (hD:d≤600) (hx:0≤x) (g4:(vs4 W uW)[x.toNat]?=some (.str (S wr) tw)) (hw:wr≠[]) (hl:wr.length≤10):Ok w d (c1S w L it acc dct cl cx cw wl 3 f e x tx W uW ew wr):=by
  refine yv (fun n t=>yd 3 [] [] [6] (ag wl (vs4 W uW) ew x tx (.str (S wr) tw)) fun v1=>yc [] (an [46,46,46,46] wr (t+2) tw) fun v2=>yc [] (an ([46,46,46,46]++wr) [13,10] (v2.a 2) (v2.a 1)) fun v3=>yd 4 [] [] [6] (ag wl (vs4 W uW) ew x tx (.str (S wr) tw)) fun v4=>yc [] (an [46,46,46] wr (v3.a 1+2) tw) fun v5=>yc [] (an ([46,46,46]++wr) [13,10] (v5.a 2) (v5.a 1)) fun v6=>yd 4 [] [] [6] (ag wl (vs4 W uW) ew x tx (.str (S wr) tw)) fun v7=>yc [] (an [46,46] wr (v6.a 1+2) tw) fun v8=>yc [] (an ([46,46]++wr) [13,10] (v8.a 2) (v8.a 1)) fun v9=>.nil) (fun n t=>xd (ab (by omega) hx g4) fun _=>xc (ad (by simp) hw (by simp; omega)) fun _=>xc (ad (by simp) (by simp) (by simp; omega)) fun _=>xd (ab (by omega) hx g4) fun _=>xc (ad (by simp) hw (by simp; omega)) fun _=>xc (ad (by simp) (by simp) (by simp; omega)) fun _=>xd (ab (by omega) hx g4) fun _=>xc (ad (by simp) hw (by simp; omega)) fun _=>xc (ad (by simp) (by simp) (by simp; omega)) fun _=>trivial) 183 [2,0,10,2,2,1,0,0,2,2,2,2,2,2,8,2,2,0,6,6,6,12,10,14,14,14,4,4,4,4,2,2,2,2,8,2,2,0,6,6,6,12,10,14,14,14,4,4,4,4,2,2,2,2,8,2,2,0,6,6,6,12,10,14,14,14,4,4,4,4,2,2,2,2,8,2,2,3] (fun n t ω=>((fun v9=>nu [(v9.a 0+2),(v9.a 1),3,t,(ω 11).v.a 2,(ω 23).v.a 2,v9.a 2] [⟨(.type "list_iterator"),none,.fields #[.none,(.int 3 0)],#[]⟩] [.int 2 (f 2)]) (ω 35).v))
theorem c1_4 (hD:d≤600) (hx:0≤x) (g4:(vs4 W uW)[x.toNat]?=some (.str (S wr) tw)) (hw:wr≠[]) (hl:wr.length≤10):Ok w d (c1S w L it acc dct cl cx cw wl 4 f e x tx W uW ew wr):=by
  refine yv (fun n t=>yd 3 [] [] [6] (ag wl (vs4 W uW) ew x tx (.str (S wr) tw)) fun v1=>yc [] (an [46,46,46,46,46] wr (t+2) tw) fun v2=>yc [] (an ([46,46,46,46,46]++wr) [13,10] (v2.a 2) (v2.a 1)) fun v3=>yd 4 [] [] [6] (ag wl (vs4 W uW) ew x tx (.str (S wr) tw)) fun v4=>yc [] (an [46,46,46,46] wr (v3.a 1+2) tw) fun v5=>yc [] (an ([46,46,46,46]++wr) [13,10] (v5.a 2) (v5.a 1)) fun v6=>yd 4 [] [] [6] (ag wl (vs4 W uW) ew x tx (.str (S wr) tw)) fun v7=>yc [] (an [46,46,46] wr (v6.a 1+2) tw) fun v8=>yc [] (an ([46,46,46]++wr) [13,10] (v8.a 2) (v8.a 1)) fun v9=>yd 4 [] [] [6] (ag wl (vs4 W uW) ew x tx (.str (S wr) tw)) fun v10=>yc [] (an [46,46] wr (v9.a 1+2) tw) fun v11=>yc [] (an ([46,46]++wr) [13,10] (v11.a 2) (v11.a 1)) fun v12=>.nil) (fun n t=>xd (ab (by omega) hx g4) fun _=>xc (ad (by simp) hw (by simp; omega)) fun _=>xc (ad (by simp) (by simp) (by simp; omega)) fun _=>xd (ab (by omega) hx g4) fun _=>xc (ad (by simp) hw (by simp; omega)) fun _=>xc (ad (by simp) (by simp) (by simp; omega)) fun _=>xd (ab (by omega) hx g4) fun _=>xc (ad (by simp) hw (by simp; omega)) fun _=>xc (ad (by simp) (by simp) (by simp; omega)) fun _=>xd (ab (by omega) hx g4) fun _=>xc (ad (by simp) hw (by simp; omega)) fun _=>xc (ad (by simp) (by simp) (by simp; omega)) fun _=>trivial) 238 [2,0,10,2,2,1,0,0,2,2,2,2,2,2,8,2,2,0,6,6,6,12,10,14,14,14,4,4,4,4,2,2,2,2,8,2,2,0,6,6,6,12,10,14,14,14,4,4,4,4,2,2,2,2,8,2,2,0,6,6,6,12,10,14,14,14,4,4,4,4,2,2,2,2,8,2,2,0,6,6,6,12,10,14,14,14,4,4,4,4,2,2,2,2,8,2,2,3] (fun n t ω=>((fun v12=>nu [(v12.a 0+2),(v12.a 1),4,t,(ω 11).v.a 2,(ω 23).v.a 2,(ω 35).v.a 2,v12.a 2] [⟨(.type "list_iterator"),none,.fields #[.none,(.int 4 0)],#[]⟩] [.int 2 (f 3)]) (ω 47).v))
theorem c1_5 (hD:d≤600) (hx:0≤x) (g4:(vs4 W uW)[x.toNat]?=some (.str (S wr) tw)) (hw:wr≠[]) (hl:wr.length≤10):Ok w d (c1S w L it acc dct cl cx cw wl 5 f e x tx W uW ew wr):=by
  refine yv (fun n t=>yd 3 [] [] [6] (ag wl (vs4 W uW) ew x tx (.str (S wr) tw)) fun v1=>yc [] (an [46,46,46,46,46,46] wr (t+2) tw) fun v2=>yc [] (an ([46,46,46,46,46,46]++wr) [13,10] (v2.a 2) (v2.a 1)) fun v3=>yd 4 [] [] [6] (ag wl (vs4 W uW) ew x tx (.str (S wr) tw)) fun v4=>yc [] (an [46,46,46,46,46] wr (v3.a 1+2) tw) fun v5=>yc [] (an ([46,46,46,46,46]++wr) [13,10] (v5.a 2) (v5.a 1)) fun v6=>yd 4 [] [] [6] (ag wl (vs4 W uW) ew x tx (.str (S wr) tw)) fun v7=>yc [] (an [46,46,46,46] wr (v6.a 1+2) tw) fun v8=>yc [] (an ([46,46,46,46]++wr) [13,10] (v8.a 2) (v8.a 1)) fun v9=>yd 4 [] [] [6] (ag wl (vs4 W uW) ew x tx (.str (S wr) tw)) fun v10=>yc [] (an [46,46,46] wr (v9.a 1+2) tw) fun v11=>yc [] (an ([46,46,46]++wr) [13,10] (v11.a 2) (v11.a 1)) fun v12=>yd 4 [] [] [6] (ag wl (vs4 W uW) ew x tx (.str (S wr) tw)) fun v13=>yc [] (an [46,46] wr (v12.a 1+2) tw) fun v14=>yc [] (an ([46,46]++wr) [13,10] (v14.a 2) (v14.a 1)) fun v15=>.nil) (fun n t=>xd (ab (by omega) hx g4) fun _=>xc (ad (by simp) hw (by simp; omega)) fun _=>xc (ad (by simp) (by simp) (by simp; omega)) fun _=>xd (ab (by omega) hx g4) fun _=>xc (ad (by simp) hw (by simp; omega)) fun _=>xc (ad (by simp) (by simp) (by simp; omega)) fun _=>xd (ab (by omega) hx g4) fun _=>xc (ad (by simp) hw (by simp; omega)) fun _=>xc (ad (by simp) (by simp) (by simp; omega)) fun _=>xd (ab (by omega) hx g4) fun _=>xc (ad (by simp) hw (by simp; omega)) fun _=>xc (ad (by simp) (by simp) (by simp; omega)) fun _=>xd (ab (by omega) hx g4) fun _=>xc (ad (by simp) hw (by simp; omega)) fun _=>xc (ad (by simp) (by simp) (by simp; omega)) fun _=>trivial) 293 [2,0,10,2,2,1,0,0,2,2,2,2,2,2,8,2,2,0,6,6,6,12,10,14,14,14,4,4,4,4,2,2,2,2,8,2,2,0,6,6,6,12,10,14,14,14,4,4,4,4,2,2,2,2,8,2,2,0,6,6,6,12,10,14,14,14,4,4,4,4,2,2,2,2,8,2,2,0,6,6,6,12,10,14,14,14,4,4,4,4,2,2,2,2,8,2,2,0,6,6,6,12,10,14,14,14,4,4,4,4,2,2,2,2,8,2,2,3] (fun n t ω=>((fun v15=>nu [(v15.a 0+2),(v15.a 1),5,t,(ω 11).v.a 2,(ω 23).v.a 2,(ω 35).v.a 2,(ω 47).v.a 2,v15.a 2] [⟨(.type "list_iterator"),none,.fields #[.none,(.int 5 0)],#[]⟩] [.int 2 (f 4)]) (ω 59).v))
theorem c1_6 (hD:d≤600) (hx:0≤x) (g4:(vs4 W uW)[x.toNat]?=some (.str (S wr) tw)) (hw:wr≠[]) (hl:wr.length≤10):Ok w d (c1S w L it acc dct cl cx cw wl 6 f e x tx W uW ew wr):=by
  refine yv (fun n t=>yd 3 [] [] [6] (ag wl (vs4 W uW) ew x tx (.str (S wr) tw)) fun v1=>yc [] (an [46,46,46,46,46,46,46] wr (t+2) tw) fun v2=>yc [] (an ([46,46,46,46,46,46,46]++wr) [13,10] (v2.a 2) (v2.a 1)) fun v3=>yd 4 [] [] [6] (ag wl (vs4 W uW) ew x tx (.str (S wr) tw)) fun v4=>yc [] (an [46,46,46,46,46,46] wr (v3.a 1+2) tw) fun v5=>yc [] (an ([46,46,46,46,46,46]++wr) [13,10] (v5.a 2) (v5.a 1)) fun v6=>yd 4 [] [] [6] (ag wl (vs4 W uW) ew x tx (.str (S wr) tw)) fun v7=>yc [] (an [46,46,46,46,46] wr (v6.a 1+2) tw) fun v8=>yc [] (an ([46,46,46,46,46]++wr) [13,10] (v8.a 2) (v8.a 1)) fun v9=>yd 4 [] [] [6] (ag wl (vs4 W uW) ew x tx (.str (S wr) tw)) fun v10=>yc [] (an [46,46,46,46] wr (v9.a 1+2) tw) fun v11=>yc [] (an ([46,46,46,46]++wr) [13,10] (v11.a 2) (v11.a 1)) fun v12=>yd 4 [] [] [6] (ag wl (vs4 W uW) ew x tx (.str (S wr) tw)) fun v13=>yc [] (an [46,46,46] wr (v12.a 1+2) tw) fun v14=>yc [] (an ([46,46,46]++wr) [13,10] (v14.a 2) (v14.a 1)) fun v15=>yd 4 [] [] [6] (ag wl (vs4 W uW) ew x tx (.str (S wr) tw)) fun v16=>yc [] (an [46,46] wr (v15.a 1+2) tw) fun v17=>yc [] (an ([46,46]++wr) [13,10] (v17.a 2) (v17.a 1)) fun v18=>.nil) (fun n t=>xd (ab (by omega) hx g4) fun _=>xc (ad (by simp) hw (by simp; omega)) fun _=>xc (ad (by simp) (by simp) (by simp; omega)) fun _=>xd (ab (by omega) hx g4) fun _=>xc (ad (by simp) hw (by simp; omega)) fun _=>xc (ad (by simp) (by simp) (by simp; omega)) fun _=>xd (ab (by omega) hx g4) fun _=>xc (ad (by simp) hw (by simp; omega)) fun _=>xc (ad (by simp) (by simp) (by simp; omega)) fun _=>xd (ab (by omega) hx g4) fun _=>xc (ad (by simp) hw (by simp; omega)) fun _=>xc (ad (by simp) (by simp) (by simp; omega)) fun _=>xd (ab (by omega) hx g4) fun _=>xc (ad (by simp) hw (by simp; omega)) fun _=>xc (ad (by simp) (by simp) (by simp; omega)) fun _=>xd (ab (by omega) hx g4) fun _=>xc (ad (by simp) hw (by simp; omega)) fun _=>xc (ad (by simp) (by simp) (by simp; omega)) fun _=>trivial) 348 [2,0,10,2,2,1,0,0,2,2,2,2,2,2,8,2,2,0,6,6,6,12,10,14,14,14,4,4,4,4,2,2,2,2,8,2,2,0,6,6,6,12,10,14,14,14,4,4,4,4,2,2,2,2,8,2,2,0,6,6,6,12,10,14,14,14,4,4,4,4,2,2,2,2,8,2,2,0,6,6,6,12,10,14,14,14,4,4,4,4,2,2,2,2,8,2,2,0,6,6,6,12,10,14,14,14,4,4,4,4,2,2,2,2,8,2,2,0,6,6,6,12,10,14,14,14,4,4,4,4,2,2,2,2,8,2,2,3] (fun n t ω=>((fun v18=>nu [(v18.a 0+2),(v18.a 1),6,t,(ω 11).v.a 2,(ω 23).v.a 2,(ω 35).v.a 2,(ω 47).v.a 2,(ω 59).v.a 2,v18.a 2] [⟨(.type "list_iterator"),none,.fields #[.none,(.int 6 0)],#[]⟩] [.int 2 (f 5)]) (ω 71).v))
theorem c3_0 (hD:d≤600) (hx:0≤x∧x<4) (hg:(seqIndex? x sg.length).bind (sg[·]?)=some s):Ok w d (c3S w L it acc dct cl cx cs 0 f e x tx sg ts s):=by
  refine yv (fun n t=>.nil) (fun n t=>trivial) 18 [2,0,10,2,2,1,0,0,2,2,2,2,2,2,8,2,2,3] (fun n t ω=>nu [(n+2),t,0,0] [⟨(.type "list_iterator"),none,.fields #[.none,(.int 0 0)],#[]⟩] [])
theorem c3_1 (hD:d≤600) (hx:0≤x∧x<4) (hg:(seqIndex? x sg.length).bind (sg[·]?)=some s):Ok w d (c3S w L it acc dct cl cx cs 1 f e x tx sg ts s):=by
  refine yv (fun n t=>yd 3 [] [] [] (ay sg x ts tx s) fun v1=>yc [] (an [46,46] [s] (t+2) (v1.a 2)) fun v2=>.nil) (fun n t=>xd (af hg (by omega)) fun _=>xc (ad (by simp) (by simp) (by simp)) fun _=>trivial) 66 [2,0,10,2,2,1,0,0,2,2,2,2,2,2,8,2,2,0,6,6,6,12,10,4,4,4,4,2,2,2,2,8,2,2,3] (fun n t ω=>((fun v2=>nu [(v2.a 0+2),(v2.a 1),1,t,v2.a 2] [⟨(.type "list_iterator"),none,.fields #[.none,(.int 1 0)],#[]⟩] [.int 2 (f 0)]) (ω 7).v))
theorem c3_2 (hD:d≤600) (hx:0≤x∧x<4) (hg:(seqIndex? x sg.length).bind (sg[·]?)=some s):Ok w d (c3S w L it acc dct cl cx cs 2 f e x tx sg ts s):=by
  refine yv (fun n t=>yd 3 [] [] [] (ay sg x ts tx s) fun v1=>yc [] (an [46,46,46] [s] (t+2) (v1.a 2)) fun v2=>yd 4 [] [] [] (ay sg x ts tx s) fun v3=>yc [] (an [46,46] [s] (v2.a 1+2) (v3.a 2)) fun v4=>.nil) (fun n t=>xd (af hg (by omega)) fun _=>xc (ad (by simp) (by simp) (by simp)) fun _=>xd (af hg (by omega)) fun _=>xc (ad (by simp) (by simp) (by simp)) fun _=>trivial) 114 [2,0,10,2,2,1,0,0,2,2,2,2,2,2,8,2,2,0,6,6,6,12,10,4,4,4,4,2,2,2,2,8,2,2,0,6,6,6,12,10,4,4,4,4,2,2,2,2,8,2,2,3] (fun n t ω=>((fun v4=>nu [(v4.a 0+2),(v4.a 1),2,t,(ω 7).v.a 2,v4.a 2] [⟨(.type "list_iterator"),none,.fields #[.none,(.int 2 0)],#[]⟩] [.int 2 (f 1)]) (ω 15).v))
theorem c3_3 (hD:d≤600) (hx:0≤x∧x<4) (hg:(seqIndex? x sg.length).bind (sg[·]?)=some s):Ok w d (c3S w L it acc dct cl cx cs 3 f e x tx sg ts s):=by
  refine yv (fun n t=>yd 3 [] [] [] (ay sg x ts tx s) fun v1=>yc [] (an [46,46,46,46] [s] (t+2) (v1.a 2)) fun v2=>yd 4 [] [] [] (ay sg x ts tx s) fun v3=>yc [] (an [46,46,46] [s] (v2.a 1+2) (v3.a 2)) fun v4=>yd 4 [] [] [] (ay sg x ts tx s) fun v5=>yc [] (an [46,46] [s] (v4.a 1+2) (v5.a 2)) fun v6=>.nil) (fun n t=>xd (af hg (by omega)) fun _=>xc (ad (by simp) (by simp) (by simp)) fun _=>xd (af hg (by omega)) fun _=>xc (ad (by simp) (by simp) (by simp)) fun _=>xd (af hg (by omega)) fun _=>xc (ad (by simp) (by simp) (by simp)) fun _=>trivial) 162 [2,0,10,2,2,1,0,0,2,2,2,2,2,2,8,2,2,0,6,6,6,12,10,4,4,4,4,2,2,2,2,8,2,2,0,6,6,6,12,10,4,4,4,4,2,2,2,2,8,2,2,0,6,6,6,12,10,4,4,4,4,2,2,2,2,8,2,2,3] (fun n t ω=>((fun v6=>nu [(v6.a 0+2),(v6.a 1),3,t,(ω 7).v.a 2,(ω 15).v.a 2,v6.a 2] [⟨(.type "list_iterator"),none,.fields #[.none,(.int 3 0)],#[]⟩] [.int 2 (f 2)]) (ω 23).v))
theorem c3_4 (hD:d≤600) (hx:0≤x∧x<4) (hg:(seqIndex? x sg.length).bind (sg[·]?)=some s):Ok w d (c3S w L it acc dct cl cx cs 4 f e x tx sg ts s):=by
  refine yv (fun n t=>yd 3 [] [] [] (ay sg x ts tx s) fun v1=>yc [] (an [46,46,46,46,46] [s] (t+2) (v1.a 2)) fun v2=>yd 4 [] [] [] (ay sg x ts tx s) fun v3=>yc [] (an [46,46,46,46] [s] (v2.a 1+2) (v3.a 2)) fun v4=>yd 4 [] [] [] (ay sg x ts tx s) fun v5=>yc [] (an [46,46,46] [s] (v4.a 1+2) (v5.a 2)) fun v6=>yd 4 [] [] [] (ay sg x ts tx s) fun v7=>yc [] (an [46,46] [s] (v6.a 1+2) (v7.a 2)) fun v8=>.nil) (fun n t=>xd (af hg (by omega)) fun _=>xc (ad (by simp) (by simp) (by simp)) fun _=>xd (af hg (by omega)) fun _=>xc (ad (by simp) (by simp) (by simp)) fun _=>xd (af hg (by omega)) fun _=>xc (ad (by simp) (by simp) (by simp)) fun _=>xd (af hg (by omega)) fun _=>xc (ad (by simp) (by simp) (by simp)) fun _=>trivial) 210 [2,0,10,2,2,1,0,0,2,2,2,2,2,2,8,2,2,0,6,6,6,12,10,4,4,4,4,2,2,2,2,8,2,2,0,6,6,6,12,10,4,4,4,4,2,2,2,2,8,2,2,0,6,6,6,12,10,4,4,4,4,2,2,2,2,8,2,2,0,6,6,6,12,10,4,4,4,4,2,2,2,2,8,2,2,3] (fun n t ω=>((fun v8=>nu [(v8.a 0+2),(v8.a 1),4,t,(ω 7).v.a 2,(ω 15).v.a 2,(ω 23).v.a 2,v8.a 2] [⟨(.type "list_iterator"),none,.fields #[.none,(.int 4 0)],#[]⟩] [.int 2 (f 3)]) (ω 31).v))
theorem c3_5 (hD:d≤600) (hx:0≤x∧x<4) (hg:(seqIndex? x sg.length).bind (sg[·]?)=some s):Ok w d (c3S w L it acc dct cl cx cs 5 f e x tx sg ts s):=by
  refine yv (fun n t=>yd 3 [] [] [] (ay sg x ts tx s) fun v1=>yc [] (an [46,46,46,46,46,46] [s] (t+2) (v1.a 2)) fun v2=>yd 4 [] [] [] (ay sg x ts tx s) fun v3=>yc [] (an [46,46,46,46,46] [s] (v2.a 1+2) (v3.a 2)) fun v4=>yd 4 [] [] [] (ay sg x ts tx s) fun v5=>yc [] (an [46,46,46,46] [s] (v4.a 1+2) (v5.a 2)) fun v6=>yd 4 [] [] [] (ay sg x ts tx s) fun v7=>yc [] (an [46,46,46] [s] (v6.a 1+2) (v7.a 2)) fun v8=>yd 4 [] [] [] (ay sg x ts tx s) fun v9=>yc [] (an [46,46] [s] (v8.a 1+2) (v9.a 2)) fun v10=>.nil) (fun n t=>xd (af hg (by omega)) fun _=>xc (ad (by simp) (by simp) (by simp)) fun _=>xd (af hg (by omega)) fun _=>xc (ad (by simp) (by simp) (by simp)) fun _=>xd (af hg (by omega)) fun _=>xc (ad (by simp) (by simp) (by simp)) fun _=>xd (af hg (by omega)) fun _=>xc (ad (by simp) (by simp) (by simp)) fun _=>xd (af hg (by omega)) fun _=>xc (ad (by simp) (by simp) (by simp)) fun _=>trivial) 258 [2,0,10,2,2,1,0,0,2,2,2,2,2,2,8,2,2,0,6,6,6,12,10,4,4,4,4,2,2,2,2,8,2,2,0,6,6,6,12,10,4,4,4,4,2,2,2,2,8,2,2,0,6,6,6,12,10,4,4,4,4,2,2,2,2,8,2,2,0,6,6,6,12,10,4,4,4,4,2,2,2,2,8,2,2,0,6,6,6,12,10,4,4,4,4,2,2,2,2,8,2,2,3] (fun n t ω=>((fun v10=>nu [(v10.a 0+2),(v10.a 1),5,t,(ω 7).v.a 2,(ω 15).v.a 2,(ω 23).v.a 2,(ω 31).v.a 2,v10.a 2] [⟨(.type "list_iterator"),none,.fields #[.none,(.int 5 0)],#[]⟩] [.int 2 (f 4)]) (ω 39).v))
theorem c3_6 (hD:d≤600) (hx:0≤x∧x<4) (hg:(seqIndex? x sg.length).bind (sg[·]?)=some s):Ok w d (c3S w L it acc dct cl cx cs 6 f e x tx sg ts s):=by
  refine yv (fun n t=>yd 3 [] [] [] (ay sg x ts tx s) fun v1=>yc [] (an [46,46,46,46,46,46,46] [s] (t+2) (v1.a 2)) fun v2=>yd 4 [] [] [] (ay sg x ts tx s) fun v3=>yc [] (an [46,46,46,46,46,46] [s] (v2.a 1+2) (v3.a 2)) fun v4=>yd 4 [] [] [] (ay sg x ts tx s) fun v5=>yc [] (an [46,46,46,46,46] [s] (v4.a 1+2) (v5.a 2)) fun v6=>yd 4 [] [] [] (ay sg x ts tx s) fun v7=>yc [] (an [46,46,46,46] [s] (v6.a 1+2) (v7.a 2)) fun v8=>yd 4 [] [] [] (ay sg x ts tx s) fun v9=>yc [] (an [46,46,46] [s] (v8.a 1+2) (v9.a 2)) fun v10=>yd 4 [] [] [] (ay sg x ts tx s) fun v11=>yc [] (an [46,46] [s] (v10.a 1+2) (v11.a 2)) fun v12=>.nil) (fun n t=>xd (af hg (by omega)) fun _=>xc (ad (by simp) (by simp) (by simp)) fun _=>xd (af hg (by omega)) fun _=>xc (ad (by simp) (by simp) (by simp)) fun _=>xd (af hg (by omega)) fun _=>xc (ad (by simp) (by simp) (by simp)) fun _=>xd (af hg (by omega)) fun _=>xc (ad (by simp) (by simp) (by simp)) fun _=>xd (af hg (by omega)) fun _=>xc (ad (by simp) (by simp) (by simp)) fun _=>xd (af hg (by omega)) fun _=>xc (ad (by simp) (by simp) (by simp)) fun _=>trivial) 306 [2,0,10,2,2,1,0,0,2,2,2,2,2,2,8,2,2,0,6,6,6,12,10,4,4,4,4,2,2,2,2,8,2,2,0,6,6,6,12,10,4,4,4,4,2,2,2,2,8,2,2,0,6,6,6,12,10,4,4,4,4,2,2,2,2,8,2,2,0,6,6,6,12,10,4,4,4,4,2,2,2,2,8,2,2,0,6,6,6,12,10,4,4,4,4,2,2,2,2,8,2,2,0,6,6,6,12,10,4,4,4,4,2,2,2,2,8,2,2,3] (fun n t ω=>((fun v12=>nu [(v12.a 0+2),(v12.a 1),6,t,(ω 7).v.a 2,(ω 15).v.a 2,(ω 23).v.a 2,(ω 31).v.a 2,(ω 39).v.a 2,v12.a 2] [⟨(.type "list_iterator"),none,.fields #[.none,(.int 6 0)],#[]⟩] [.int 2 (f 5)]) (ω 47).v))
theorem c2_1 (hD:d≤300) (h0:tokF 99 l ln=some (a9 s 2,l',ln')) (a0:(∀ c∈l,c∈abc)∧l.length<800):Ok w d (c2S w L it acc dct cl lc 1 f e X ln lt l gg ec ep l' ln' s):=by
  refine yv (fun n t=>yd 1 [] [3,4,5] [8,9,10,11,12,13] (tokS w X ln lt l gg ec ep (a9 s 2) l' ln') fun v1=>.nil) (fun n t=>xd (aL (by omega) h0 a0.1 a0.2) fun _=>trivial) 67 [2,0,10,2,2,1,0,0,2,2,2,2,2,2,14,2,2,0,6,6,16,18,0,0,0,18,0,0,0,18,0,0,0,0,18,8,0,4,4,4,4,2,2,2,2,14,2,2,3] (fun n t ω=>((fun v1=>nu [(v1.a 0+2),(v1.a 1),1,v1.a 2,v1.a 3,t] [⟨(.type "list_iterator"),none,.fields #[.none,(.int 1 0)],#[]⟩] [.int 2 (f 0)] ((fun j=>v1.a (j+5))) ((fun _ b=>nuA [v1.a 4] (fun _=>0) b))) (ω 3).v))
theorem c2_2 {l1:List Nat} {n1:Int} (hD:d≤300) (h0:tokF 99 l ln=some (a9 s 3,l1,n1)) (a0:(∀ c∈l,c∈abc)∧l.length<800) (h1:tokF 99 l1 n1=some (a9 s 2,l',ln')) (a1:(∀ c∈l1,c∈abc)∧l1.length<800):Ok w d (c2S w L it acc dct cl lc 2 f e X ln lt l gg ec ep l' ln' s):=by
  refine yv (fun n t=>yd 1 [] [3,4,5] [8,9,10,11,12,13] (tokS w X ln lt l gg ec ep (a9 s 3) l1 n1) fun v1=>yd 2 [] [3,4,5] [8,9,10,11,12,13] (tokS w X n1 (v1.a 2) l1 (fun j=>v1.a (j+5)) (v1.a 3) ep (a9 s 2) l' ln') fun v2=>.nil) (fun n t=>xd (aL (by omega) h0 a0.1 a0.2) fun _=>xd (aL (by omega) h1 a1.1 a1.2) fun _=>trivial) 116 [2,0,10,2,2,1,0,0,2,2,2,2,2,2,14,2,2,0,6,6,16,18,0,0,0,18,0,0,0,18,0,0,0,0,18,8,0,4,4,4,4,2,2,2,2,14,2,2,0,6,6,16,18,0,0,0,18,0,0,0,18,0,0,0,0,18,8,0,4,4,4,4,2,2,2,2,14,2,2,3] (fun n t ω=>((fun v2=>nu [(v2.a 0+2),(v2.a 1),2,v2.a 2,v2.a 3,t] [⟨(.type "list_iterator"),none,.fields #[.none,(.int 2 0)],#[]⟩] [.int 2 (f 1)] ((fun j=>v2.a (j+5))) ((fun _ b=>nuA [(ω 3).v.a 4,v2.a 4] (fun _=>0) b))) (ω 7).v))
theorem c2_3 {l1 l2:List Nat} {n1 n2:Int} (hD:d≤300) (h0:tokF 99 l ln=some (a9 s 4,l1,n1)) (a0:(∀ c∈l,c∈abc)∧l.length<800) (h1:tokF 99 l1 n1=some (a9 s 3,l2,n2)) (a1:(∀ c∈l1,c∈abc)∧l1.length<800) (h2:tokF 99 l2 n2=some (a9 s 2,l',ln')) (a2:(∀ c∈l2,c∈abc)∧l2.length<800):Ok w d (c2S w L it acc dct cl lc 3 f e X ln lt l gg ec ep l' ln' s):=by
  refine yv (fun n t=>yd 1 [] [3,4,5] [8,9,10,11,12,13] (tokS w X ln lt l gg ec ep (a9 s 4) l1 n1) fun v1=>yd 2 [] [3,4,5] [8,9,10,11,12,13] (tokS w X n1 (v1.a 2) l1 (fun j=>v1.a (j+5)) (v1.a 3) ep (a9 s 3) l2 n2) fun v2=>yd 2 [] [3,4,5] [8,9,10,11,12,13] (tokS w X n2 (v2.a 2) l2 (fun j=>v2.a (j+5)) (v2.a 3) ep (a9 s 2) l' ln') fun v3=>.nil) (fun n t=>xd (aL (by omega) h0 a0.1 a0.2) fun _=>xd (aL (by omega) h1 a1.1 a1.2) fun _=>xd (aL (by omega) h2 a2.1 a2.2) fun _=>trivial) 165 [2,0,10,2,2,1,0,0,2,2,2,2,2,2,14,2,2,0,6,6,16,18,0,0,0,18,0,0,0,18,0,0,0,0,18,8,0,4,4,4,4,2,2,2,2,14,2,2,0,6,6,16,18,0,0,0,18,0,0,0,18,0,0,0,0,18,8,0,4,4,4,4,2,2,2,2,14,2,2,0,6,6,16,18,0,0,0,18,0,0,0,18,0,0,0,0,18,8,0,4,4,4,4,2,2,2,2,14,2,2,3] (fun n t ω=>((fun v3=>nu [(v3.a 0+2),(v3.a 1),3,v3.a 2,v3.a 3,t] [⟨(.type "list_iterator"),none,.fields #[.none,(.int 3 0)],#[]⟩] [.int 2 (f 2)] ((fun j=>v3.a (j+5))) ((fun _ b=>nuA [(ω 3).v.a 4,(ω 7).v.a 4,v3.a 4] (fun _=>0) b))) (ω 11).v))
theorem c2_4 {l1 l2 l3:List Nat} {n1 n2 n3:Int} (hD:d≤300) (h0:tokF 99 l ln=some (a9 s 5,l1,n1)) (a0:(∀ c∈l,c∈abc)∧l.length<800) (h1:tokF 99 l1 n1=some (a9 s 4,l2,n2)) (a1:(∀ c∈l1,c∈abc)∧l1.length<800) (h2:tokF 99 l2 n2=some (a9 s 3,l3,n3)) (a2:(∀ c∈l2,c∈abc)∧l2.length<800) (h3:tokF 99 l3 n3=some (a9 s 2,l',ln')) (a3:(∀ c∈l3,c∈abc)∧l3.length<800):Ok w d (c2S w L it acc dct cl lc 4 f e X ln lt l gg ec ep l' ln' s):=by
  refine yv (fun n t=>yd 1 [] [3,4,5] [8,9,10,11,12,13] (tokS w X ln lt l gg ec ep (a9 s 5) l1 n1) fun v1=>yd 2 [] [3,4,5] [8,9,10,11,12,13] (tokS w X n1 (v1.a 2) l1 (fun j=>v1.a (j+5)) (v1.a 3) ep (a9 s 4) l2 n2) fun v2=>yd 2 [] [3,4,5] [8,9,10,11,12,13] (tokS w X n2 (v2.a 2) l2 (fun j=>v2.a (j+5)) (v2.a 3) ep (a9 s 3) l3 n3) fun v3=>yd 2 [] [3,4,5] [8,9,10,11,12,13] (tokS w X n3 (v3.a 2) l3 (fun j=>v3.a (j+5)) (v3.a 3) ep (a9 s 2) l' ln') fun v4=>.nil) (fun n t=>xd (aL (by omega) h0 a0.1 a0.2) fun _=>xd (aL (by omega) h1 a1.1 a1.2) fun _=>xd (aL (by omega) h2 a2.1 a2.2) fun _=>xd (aL (by omega) h3 a3.1 a3.2) fun _=>trivial) 214 [2,0,10,2,2,1,0,0,2,2,2,2,2,2,14,2,2,0,6,6,16,18,0,0,0,18,0,0,0,18,0,0,0,0,18,8,0,4,4,4,4,2,2,2,2,14,2,2,0,6,6,16,18,0,0,0,18,0,0,0,18,0,0,0,0,18,8,0,4,4,4,4,2,2,2,2,14,2,2,0,6,6,16,18,0,0,0,18,0,0,0,18,0,0,0,0,18,8,0,4,4,4,4,2,2,2,2,14,2,2,0,6,6,16,18,0,0,0,18,0,0,0,18,0,0,0,0,18,8,0,4,4,4,4,2,2,2,2,14,2,2,3] (fun n t ω=>((fun v4=>nu [(v4.a 0+2),(v4.a 1),4,v4.a 2,v4.a 3,t] [⟨(.type "list_iterator"),none,.fields #[.none,(.int 4 0)],#[]⟩] [.int 2 (f 3)] ((fun j=>v4.a (j+5))) ((fun _ b=>nuA [(ω 3).v.a 4,(ω 7).v.a 4,(ω 11).v.a 4,v4.a 4] (fun _=>0) b))) (ω 15).v))
theorem c2_5 {l1 l2 l3 l4:List Nat} {n1 n2 n3 n4:Int} (hD:d≤300) (h0:tokF 99 l ln=some (a9 s 6,l1,n1)) (a0:(∀ c∈l,c∈abc)∧l.length<800) (h1:tokF 99 l1 n1=some (a9 s 5,l2,n2)) (a1:(∀ c∈l1,c∈abc)∧l1.length<800) (h2:tokF 99 l2 n2=some (a9 s 4,l3,n3)) (a2:(∀ c∈l2,c∈abc)∧l2.length<800) (h3:tokF 99 l3 n3=some (a9 s 3,l4,n4)) (a3:(∀ c∈l3,c∈abc)∧l3.length<800) (h4:tokF 99 l4 n4=some (a9 s 2,l',ln')) (a4:(∀ c∈l4,c∈abc)∧l4.length<800):Ok w d (c2S w L it acc dct cl lc 5 f e X ln lt l gg ec ep l' ln' s):=by
  refine yv (fun n t=>yd 1 [] [3,4,5] [8,9,10,11,12,13] (tokS w X ln lt l gg ec ep (a9 s 6) l1 n1) fun v1=>yd 2 [] [3,4,5] [8,9,10,11,12,13] (tokS w X n1 (v1.a 2) l1 (fun j=>v1.a (j+5)) (v1.a 3) ep (a9 s 5) l2 n2) fun v2=>yd 2 [] [3,4,5] [8,9,10,11,12,13] (tokS w X n2 (v2.a 2) l2 (fun j=>v2.a (j+5)) (v2.a 3) ep (a9 s 4) l3 n3) fun v3=>yd 2 [] [3,4,5] [8,9,10,11,12,13] (tokS w X n3 (v3.a 2) l3 (fun j=>v3.a (j+5)) (v3.a 3) ep (a9 s 3) l4 n4) fun v4=>yd 2 [] [3,4,5] [8,9,10,11,12,13] (tokS w X n4 (v4.a 2) l4 (fun j=>v4.a (j+5)) (v4.a 3) ep (a9 s 2) l' ln') fun v5=>.nil) (fun n t=>xd (aL (by omega) h0 a0.1 a0.2) fun _=>xd (aL (by omega) h1 a1.1 a1.2) fun _=>xd (aL (by omega) h2 a2.1 a2.2) fun _=>xd (aL (by omega) h3 a3.1 a3.2) fun _=>xd (aL (by omega) h4 a4.1 a4.2) fun _=>trivial) 263 [2,0,10,2,2,1,0,0,2,2,2,2,2,2,14,2,2,0,6,6,16,18,0,0,0,18,0,0,0,18,0,0,0,0,18,8,0,4,4,4,4,2,2,2,2,14,2,2,0,6,6,16,18,0,0,0,18,0,0,0,18,0,0,0,0,18,8,0,4,4,4,4,2,2,2,2,14,2,2,0,6,6,16,18,0,0,0,18,0,0,0,18,0,0,0,0,18,8,0,4,4,4,4,2,2,2,2,14,2,2,0,6,6,16,18,0,0,0,18,0,0,0,18,0,0,0,0,18,8,0,4,4,4,4,2,2,2,2,14,2,2,0,6,6,16,18,0,0,0,18,0,0,0,18,0,0,0,0,18,8,0,4,4,4,4,2,2,2,2,14,2,2,3] (fun n t ω=>((fun v5=>nu [(v5.a 0+2),(v5.a 1),5,v5.a 2,v5.a 3,t] [⟨(.type "list_iterator"),none,.fields #[.none,(.int 5 0)],#[]⟩] [.int 2 (f 4)] ((fun j=>v5.a (j+5))) ((fun _ b=>nuA [(ω 3).v.a 4,(ω 7).v.a 4,(ω 11).v.a 4,(ω 15).v.a 4,v5.a 4] (fun _=>0) b))) (ω 19).v))
theorem c2_6 {l1 l2 l3 l4 l5:List Nat} {n1 n2 n3 n4 n5:Int} (hD:d≤300) (h0:tokF 99 l ln=some (a9 s 7,l1,n1)) (a0:(∀ c∈l,c∈abc)∧l.length<800) (h1:tokF 99 l1 n1=some (a9 s 6,l2,n2)) (a1:(∀ c∈l1,c∈abc)∧l1.length<800) (h2:tokF 99 l2 n2=some (a9 s 5,l3,n3)) (a2:(∀ c∈l2,c∈abc)∧l2.length<800) (h3:tokF 99 l3 n3=some (a9 s 4,l4,n4)) (a3:(∀ c∈l3,c∈abc)∧l3.length<800) (h4:tokF 99 l4 n4=some (a9 s 3,l5,n5)) (a4:(∀ c∈l4,c∈abc)∧l4.length<800) (h5:tokF 99 l5 n5=some (a9 s 2,l',ln')) (a5:(∀ c∈l5,c∈abc)∧l5.length<800):Ok w d (c2S w L it acc dct cl lc 6 f e X ln lt l gg ec ep l' ln' s):=by
  refine yv (fun n t=>yd 1 [] [3,4,5] [8,9,10,11,12,13] (tokS w X ln lt l gg ec ep (a9 s 7) l1 n1) fun v1=>yd 2 [] [3,4,5] [8,9,10,11,12,13] (tokS w X n1 (v1.a 2) l1 (fun j=>v1.a (j+5)) (v1.a 3) ep (a9 s 6) l2 n2) fun v2=>yd 2 [] [3,4,5] [8,9,10,11,12,13] (tokS w X n2 (v2.a 2) l2 (fun j=>v2.a (j+5)) (v2.a 3) ep (a9 s 5) l3 n3) fun v3=>yd 2 [] [3,4,5] [8,9,10,11,12,13] (tokS w X n3 (v3.a 2) l3 (fun j=>v3.a (j+5)) (v3.a 3) ep (a9 s 4) l4 n4) fun v4=>yd 2 [] [3,4,5] [8,9,10,11,12,13] (tokS w X n4 (v4.a 2) l4 (fun j=>v4.a (j+5)) (v4.a 3) ep (a9 s 3) l5 n5) fun v5=>yd 2 [] [3,4,5] [8,9,10,11,12,13] (tokS w X n5 (v5.a 2) l5 (fun j=>v5.a (j+5)) (v5.a 3) ep (a9 s 2) l' ln') fun v6=>.nil) (fun n t=>xd (aL (by omega) h0 a0.1 a0.2) fun _=>xd (aL (by omega) h1 a1.1 a1.2) fun _=>xd (aL (by omega) h2 a2.1 a2.2) fun _=>xd (aL (by omega) h3 a3.1 a3.2) fun _=>xd (aL (by omega) h4 a4.1 a4.2) fun _=>xd (aL (by omega) h5 a5.1 a5.2) fun _=>trivial) 312 [2,0,10,2,2,1,0,0,2,2,2,2,2,2,14,2,2,0,6,6,16,18,0,0,0,18,0,0,0,18,0,0,0,0,18,8,0,4,4,4,4,2,2,2,2,14,2,2,0,6,6,16,18,0,0,0,18,0,0,0,18,0,0,0,0,18,8,0,4,4,4,4,2,2,2,2,14,2,2,0,6,6,16,18,0,0,0,18,0,0,0,18,0,0,0,0,18,8,0,4,4,4,4,2,2,2,2,14,2,2,0,6,6,16,18,0,0,0,18,0,0,0,18,0,0,0,0,18,8,0,4,4,4,4,2,2,2,2,14,2,2,0,6,6,16,18,0,0,0,18,0,0,0,18,0,0,0,0,18,8,0,4,4,4,4,2,2,2,2,14,2,2,0,6,6,16,18,0,0,0,18,0,0,0,18,0,0,0,0,18,8,0,4,4,4,4,2,2,2,2,14,2,2,3] (fun n t ω=>((fun v6=>nu [(v6.a 0+2),(v6.a 1),6,v6.a 2,v6.a 3,t] [⟨(.type "list_iterator"),none,.fields #[.none,(.int 6 0)],#[]⟩] [.int 2 (f 5)] ((fun j=>v6.a (j+5))) ((fun _ b=>nuA [(ω 3).v.a 4,(ω 7).v.a 4,(ω 11).v.a 4,(ω 15).v.a 4,(ω 19).v.a 4,v6.a 4] (fun _=>0) b))) (ω 23).v))
theorem c2_0 (hD:d≤300):Ok w d (c2S w L it acc dct cl lc 0 f e X ln lt l gg ec ep l ln s):=by
  refine yv (fun n t=>.nil) (fun n t=>trivial) 18 [2,0,10,2,2,1,0,0,2,2,2,2,2,2,14,2,2,3] (fun n t ω=>nu [(n+2),t,0,lt,ec,0] [⟨(.type "list_iterator"),none,.fields #[.none,(.int 0 0)],#[]⟩] [] (gg))
end
section
variable {w:World} {d:Nat} {L it acc dct cl cx cw cs lc wl:Addr} {n:Nat} {f gg:Nat→Nat} {e:Nat} {x:Int} {tx ts tw:Tok} {W:V4 (List Nat)} {uW:V4 Tok} {ew:Nat} {wr:List Nat} {sg:List Nat} {s:Nat} {X:Lx} {ln ln':Int} {lt:Tok} {l l':List Nat} {ec ep:Nat}
theorem c1_all (hn:n≤6) (hD:d≤600) (hx:0≤x) (g4:(vs4 W uW)[x.toNat]?=some (.str (S wr) tw)) (hw:wr≠[]) (hl:wr.length≤10):Ok w d (c1S w L it acc dct cl cx cw wl n f e x tx W uW ew wr):=by
  match n,hn with
  | 0,_=>exact c1_0 hD hx g4 hw hl
  | 1,_=>exact c1_1 hD hx g4 hw hl
  | 2,_=>exact c1_2 hD hx g4 hw hl
  | 3,_=>exact c1_3 hD hx g4 hw hl
  | 4,_=>exact c1_4 hD hx g4 hw hl
  | 5,_=>exact c1_5 hD hx g4 hw hl
  | 6,_=>exact c1_6 hD hx g4 hw hl
  | _+7,h=>omega
theorem c3_all (hn:n≤6) (hD:d≤600) (hx:0≤x∧x<4) (hg:(seqIndex? x sg.length).bind (sg[·]?)=some s):Ok w d (c3S w L it acc dct cl cx cs n f e x tx sg ts s):=by
  match n,hn with
  | 0,_=>exact c3_0 hD hx hg
  | 1,_=>exact c3_1 hD hx hg
  | 2,_=>exact c3_2 hD hx hg
  | 3,_=>exact c3_3 hD hx hg
  | 4,_=>exact c3_4 hD hx hg
  | 5,_=>exact c3_5 hD hx hg
  | 6,_=>exact c3_6 hD hx hg
  | _+7,h=>omega
noncomputable def chainF (s:Nat):Nat→List Nat→Int→Option (List Nat × Int)
  | 0,l,ln=>some (l,ln)
  | n+1,l,ln=>match tokF 99 l ln with
    | some (tk,l',ln')=>if (l.all (fun c=>abc.contains c) && decide (l.length<800)) && tk==a9 s (n+2) then chainF s n l' ln' else none
    | none=>none
theorem aF {n:Nat} {r:List Nat × Int} (h:chainF s (n+1) l ln=some r):∃ l1 ln1,tokF 99 l ln=some (a9 s (n+2),l1,ln1)∧((∀ c∈l,c∈abc)∧l.length<800)∧chainF s n l1 ln1=some r:=by
  unfold chainF at h
  split at h
  · rename_i tk l1 ln1 ht
    split at h
    · rename_i hc
      rw [Bool.and_eq_true,Bool.and_eq_true,List.all_eq_true,decide_eq_true_eq] at hc
      have e:=eq_of_beq hc.2
      subst e
      exact ⟨l1,ln1,ht,⟨fun c hm=>by simpa using hc.1.1 c hm,hc.1.2⟩,h⟩
    · cases h
  · cases h
theorem c2_all (hn:n≤6) (hD:d≤300) (h:chainF s n l ln=some (l',ln')):Ok w d (c2S w L it acc dct cl lc n f e X ln lt l gg ec ep l' ln' s):=by
  match n,hn with
  | 0,_=>cases h; exact c2_0 hD
  | 1,_=>
    obtain ⟨_,_,h0,a0,h⟩:=aF h
    cases h
    exact c2_1 hD h0 a0
  | 2,_=>
    obtain ⟨_,_,h0,a0,h⟩:=aF h
    obtain ⟨_,_,h1,a1,h⟩:=aF h
    cases h
    exact c2_2 hD h0 a0 h1 a1
  | 3,_=>
    obtain ⟨_,_,h0,a0,h⟩:=aF h
    obtain ⟨_,_,h1,a1,h⟩:=aF h
    obtain ⟨_,_,h2,a2,h⟩:=aF h
    cases h
    exact c2_3 hD h0 a0 h1 a1 h2 a2
  | 4,_=>
    obtain ⟨_,_,h0,a0,h⟩:=aF h
    obtain ⟨_,_,h1,a1,h⟩:=aF h
    obtain ⟨_,_,h2,a2,h⟩:=aF h
    obtain ⟨_,_,h3,a3,h⟩:=aF h
    cases h
    exact c2_4 hD h0 a0 h1 a1 h2 a2 h3 a3
  | 5,_=>
    obtain ⟨_,_,h0,a0,h⟩:=aF h
    obtain ⟨_,_,h1,a1,h⟩:=aF h
    obtain ⟨_,_,h2,a2,h⟩:=aF h
    obtain ⟨_,_,h3,a3,h⟩:=aF h
    obtain ⟨_,_,h4,a4,h⟩:=aF h
    cases h
    exact c2_5 hD h0 a0 h1 a1 h2 a2 h3 a3 h4 a4
  | 6,_=>
    obtain ⟨_,_,h0,a0,h⟩:=aF h
    obtain ⟨_,_,h1,a1,h⟩:=aF h
    obtain ⟨_,_,h2,a2,h⟩:=aF h
    obtain ⟨_,_,h3,a3,h⟩:=aF h
    obtain ⟨_,_,h4,a4,h⟩:=aF h
    obtain ⟨_,_,h5,a5,h⟩:=aF h
    cases h
    exact c2_6 hD h0 a0 h1 a1 h2 a2 h3 a3 h4 a4 h5 a5
  | _+7,h=>omega
noncomputable def tokES (w:World) (x:Lx) (ln:Int) (lt:Tok) (l:List Nat) (f:Nat→Nat) (ec:Nat) (ep:Nat) (ln':Int):Sm where
  c:=.call (.ref 80) ⟨[.ref x.self],[]⟩
  mpre:=x.mut w ln lt (chs l f) ec [] ep
  rpre:=x.fix w
  post v:=x.mut w ln' (v.a 2) [] (v.a 3) [] ep
  news v:=[]
  res v:=.ok (.ret (.str (S []) (v.a 4)))
theorem tokES_1 (hD:d≤500):Ok w d (tokES w X ln lt [10] f ec ep (ln+1)):=tokE_ok hD
theorem tokES_3 (hD:d≤500):Ok w d (tokES w X ln lt [10,13,10] f ec ep (ln+1+1)):=by
  refine yv (fun n t=>yd 8 [0,1,2] [0,1,2] [11,10,3,4,5,6,7,8] (nextC w X (n+2) (n+1) (t+7) ln lt 10 (f 0) (chs [13,10] fun j=>f (j+1)) ec [] ep (ln+1)) fun v1=>yd 2 [] [0,1,2] [11,10,3,4,5,6,7,8] (nextC w X (n+2) (n+1) (t+7) (ln+1) (v1.a 2) 13 (f 1) (chs [10] fun j=>f (j+2)) (v1.a 3) [] ep (ln+1)) fun v2=>yd 2 [] [0,1,2] [11,10,3,4,5,6,7,8] (nextC w X (n+2) (n+1) (t+7) (ln+1) (v2.a 2) 10 (f 2) [] (v2.a 3) [] ep (ln+1+1)) fun v3=>yd 3 [] [] [10,0,1,2,3,4,5,6,7,8] (readM0 w X (n+1) (ln+1+1) (v3.a 2) (v3.a 3) [] ep) fun v4=>.swap  (sent0 (n+2) (t+7) (v4.a 2)) (sentK (n+2) (.str (S []) (v4.a 2)) true) <| .nil) (fun n t=>xd (nextC_ok (by omega) (by simp [chs]) (by decide) rfl) fun _=>xd (nextC_ok (by omega) (by simp [chs]) (by decide) rfl) fun _=>xd (nextC_ok (by omega) (by simp) (by decide) rfl) fun _=>xd (readM0_ok (by omega)) fun _=>⟨sent_ok,trivial⟩) 262 [0,0,0,1,1,1,1,8,0,0,0,8,0,0,0,8,8,0,2,6,6,6,6,6,0,1,1,0,0,1,8,0,0,0,8,0,0,0,0,0,0,8,8,0,2,0,0,0,0,3,0,1,1,1,5,5,1,0,0,5,5,5,0,20,20,20,20,8,0,0,0,8,0,0,0,8,8,0,2,24,0,20,20,20,20,8,0,0,0,8,0,0,0,8,8,0,2,24,0,20,20,20,20,8,0,0,0,8,0,0,0,8,8,0,2,24,24,24,24,22,0,24,999,24,24,22,0,24,24,24,24,24,24,3,20] (fun n t ω=>((fun v3 v4=>nu [(v4.a 0+2),(v4.a 1),v3.a 2,v3.a 3,t+4] [] []) (ω 11).v (ω 15).v))
end
noncomputable def a6 (x y:List Nat) (t u:Tok):Sm:=pureS (bi "str.__add__" [.str (S x) t,.str (S y) u]) fun v=>.ok (.ret (.str (S (x++y)) (v.a 2)))
theorem addG_ok {w:World} {D:Nat} {x y:List Nat} {t u:Tok} (hx:x≠[]) (hl:(x++y).length≤1000):Ok w D (a6 x y t u):=by
  by_cases hy:y=[]
  · subst hy
    have z:=gives_str_add (S x) (S []) t u
    have h1:((S x).length==0)=false:=by
      cases x with
      | nil=>exact absurd rfl hx
      | cons=>rfl
    rw [h1] at z
    have e:a6 x [] t u=pureS (bi "str.__add__" [.str (S x) t,.str (S []) u]) fun v=>.ok (.ret (.str (S x) (v.a 2))):=by unfold a6; rw [List.append_nil]
    rw [e]
    refine ⟨fun _=>rfl,fun A st R C B K _ H=>codeAny_call_builtin F.slot_str_add.plain F.entry_str_add (F.slot_str_add.check _ _ _ _ _ _ _ _ (typeIs_str _ _ _) (F.args_str_add_2 _ _) (z PR w A R st (H _ (nu [st.heap.objs.size,st.toks,t]) (left0t (tk:=st.toks) rfl (fun _=>rfl) (fun _=>rfl) rfl))))⟩
  · exact ad hx hy hl
noncomputable def frN8 (w:World) (k:Tk) (lw ln:Addr) (sv:Value) (to:Tok) (ml:Addr) (kv ev:Value) (nl:Addr):Obj:=frm #[en w.params (S [119,111,114,100]) k.a (.ref lw),en w.params (S [110,117,109,98,101,114,115]) k.b (.ref ln),en w.params (S [115,105,103,110]) k.c sv,en w.params (S [111,112,101,110,105,110,103]) k.d (.str (S opn) to),en w.params (S [109,97,105,108,115]) k.e (.ref ml),en w.params (S [107]) k.f kv,en w.params (S [101,110,100]) k.g ev,en w.params (S [110,97,109,101,115]) k.h (.ref nl)] 8
noncomputable def frN10 (w:World) (k:Tk) (ki kj:Tok) (lw ln:Addr) (sv:Value) (to:Tok) (ml:Addr) (kv ev:Value) (nl:Addr) (ct rd:Value):Obj:=frm #[en w.params (S [119,111,114,100]) k.a (.ref lw),en w.params (S [110,117,109,98,101,114,115]) k.b (.ref ln),en w.params (S [115,105,103,110]) k.c sv,en w.params (S [111,112,101,110,105,110,103]) k.d (.str (S opn) to),en w.params (S [109,97,105,108,115]) k.e (.ref ml),en w.params (S [107]) k.f kv,en w.params (S [101,110,100]) k.g ev,en w.params (S [110,97,109,101,115]) k.h (.ref nl),en w.params (S [99,111,117,110,116,115]) ki ct,en w.params (S [114,101,97,100]) kj rd] 10
structure Nq where
  L:Addr
  cl:Addr
  cx:Addr
  cw:Addr
  cs:Addr
  it:Addr
  ml:Addr
  wl:Addr
  lw:Addr
  ln:Addr
  nl:Addr
  k:Tk
  sv:Value
  to:Tok
  kv:Value
  ev:Value
  v:V6 Int
  u:V6 Tok
  e:Nat
  W:V4 (List Nat)
  uW:V4 Tok
  ew:Nat
  M:V4 (List Nat)
  uM:V4 Tok
  em:Nat
  sg:List Nat
  ts:Tok
noncomputable abbrev Nq.fr8 (q:Nq) (w:World):Obj:=frN8 w q.k q.lw q.ln q.sv q.to q.ml q.kv q.ev q.nl
noncomputable abbrev Nq.fr10 (q:Nq) (w:World) (ki kj:Tok) (ct rd:Value):Obj:=frN10 w q.k ki kj q.lw q.ln q.sv q.to q.ml q.kv q.ev q.nl ct rd
noncomputable def ntS (w:World) (q:Nq) (fr:Obj) (j:Int) (nm:List Value) (eN:Nat) (cv lv:Option Value) (tab rx:Led) (px nx:Nv→Led) (nm':Nv→List Value):Sm where
  c:=forC (sto 18 6) (.ref q.it) (nmE q.L q.cl q.cx q.cw q.cs)
  mpre:=[(q.L,fr),(q.it,rangeO j (4-j)),(q.nl,lst ⟨nm⟩ eN),(q.cx,aB cv),(q.cl,aB lv)]++tab
  rpre:=[(q.lw,li6 q.v q.u q.e),(q.ml,lst ⟨vs4 q.M q.uM⟩ q.em),(q.cw,aB (some (.ref q.wl))),(q.wl,lst ⟨vs4 q.W q.uW⟩ q.ew),(q.cs,aB (some (.str (S q.sg) q.ts)))]++rx
  post v:=[(q.L,q.fr10 w (v.f (8-j.toNat) 0) (v.f (8-j.toNat) 1) (v.x 0) (v.x 1)),(q.it,v.o 0),(q.nl,lst ⟨nm' v⟩ (v.a 2)),(q.cx,v.o 1),(q.cl,v.o 2)]++px v
  news v:=nx v
  res _:=.ok .next
structure Nk (q:Nq) (j:Int) (m wr:List Nat) (s n:Nat) (l1 l2:List Nat) (l1n l2n l3n:Int):Prop where
  cnt:aZ q.v j=n
  n6:n≤6
  gM:(vs4 q.M q.uM)[j.toNat]?=some (.str (S m) (q.uM.at j))
  gW:(vs4 q.W q.uW)[j.toNat]?=some (.str (S wr) (q.uW.at j))
  gs:(seqIndex? j q.sg.length).bind (q.sg[·]?)=some s
  wr0:wr≠[]
  wr1:wr.length≤10
  eq:m=opn++(aX wr n).flatten
  len:m.length≤700
  abc:∀ c∈m,c∈abc
  tok:tokF 99 m 1=some ([45],l1,l1n)
  chain:chainF s n l1 l1n=some (l2,l2n)
  fin:∀ (w:World) (X:Lx) (lt:Tok) (f:Nat→Nat) (ec ep:Nat),Ok w 460 (tokES w X l2n lt l2 f ec ep l3n)
  line:l3n=n+3
noncomputable def rdR (a:Addr) (s n:Nat) (f:Nat→Nat) (e:Nat):Addr × Obj:=(a,lst ⟨au (cnams s n) f⟩ e)
noncomputable def consG (own:Nat→Nat) (F:Nat→Nat→Nat):Nat→Nat→Nat:=fun a=>match a with
  | 0=>own
  | a+1=>F a
section
variable {w:World} {d:Nat} {q:Nq} {m wr:List Nat} {s nn:Nat} {l1 l2:List Nat} {l1n l2n l3n:Int} {eN:Nat} {cv lv:Option Value} {ki kj:Tok} {ct rd:Value} {a0 a1 a2:Addr} {c1 c2:Addr} {cq:Nat→Nat} {s1 n1 s2 n2 s3 n3:Nat}
theorem nt_3_0 (hD:d≤160) (h:Nk q 3 m wr s 0 l1 l2 l1n l2n l3n) (hfl:(aX wr 0).flatten.length≤1000)  : Ok w d (ntS w q (q.fr10 w ki kj ct rd) 3 [.ref a0,.ref a1,.ref a2] eN cv lv [] [(113,tabO c1 c2),(c2,codeO cq)] (fun _=>[]) (fun v=>[rdR (v.a 3) s 0 (fun b=>v.f 0 b) (v.a 4)]) (fun v=>[.ref a0,.ref a1,.ref a2,.ref (v.a 3)])):=by
  refine yv (fun n t=>yd 0 [] [1] [] (rngS q.it 3 (4-3)) fun v1=>yc [5] (cntS q.lw q.v q.u q.e 3 (v1.a 2) 0) fun v2=>yd 7 [0,1] [13] [12] (lrS (v2.a 0+1) (v2.a 0) 0 (v2.a 1+1) (v2.a 1+2) (v2.a 1+4)) fun v3=>yc [6] (ag q.ml (vs4 q.M q.uM) q.em 3 (v1.a 2) (.str (S m) (q.uM.at 3))) fun v4=>yd 1 [0,1,2] [14,15,16] [13,3,7,8] (c1S w q.L (v4.a 0) (v4.a 0+1) (v4.a 0+2) (v2.a 0+1) q.cx q.cw q.wl 0 (fun i=>v3.a (i+3)) (v3.a 2) 3 (v1.a 2) q.W q.uW q.ew wr) fun v5=>yc [15] (jnS (v4.a 0+1) (v4.a 1) (aX wr 0) (fun i=>v5.a (i+4)) (v5.a 2)) fun v6=>yc [] (a6 opn (aX wr 0).flatten q.to (v6.a 2)) fun v7=>yc [] (neSS m (opn++(aX wr 0).flatten) q.uM.4 (v7.a 2) false) fun v8=>yc [6] (ag q.ml (vs4 q.M q.uM) q.em 3 (v1.a 2) (.str (S m) (q.uM.at 3))) fun v9=>yc [10,11] (lexS2 w m (q.uM.at 3) c1 c2 cq) fun v10=>yd 0 [] [17,18,19] [20,21,22,23,24,11] (tokS w (lx v10 c1 c2 cq) 1 (v10.a 19) m (fun i=>v10.a (i+31)) (v10.a 20) 0 [45] l1 l1n) fun v11=>yc [] (neSS [45] [45] (v11.a 4) (v11.a 1) false) fun v12=>yd 1 [0,1,2] [25,26,27,17,18,19] [13,4,20,21,22,23,24,11] (c2S w q.L (v12.a 0) (v12.a 0+1) (v12.a 0+2) (v2.a 0+1) q.cl 0 (fun i=>v3.a (i+3)) (v3.a 2) (lx v10 c1 c2 cq) l1n (v11.a 2) l1 (fun i=>v11.a (i+5)) (v11.a 3) 0 l2 l2n s) fun v13=>yd 1 [0,1,2] [28,29,30] [13,3,9] (c3S w q.L (v13.a 0) (v13.a 0+1) (v13.a 0+2) (v2.a 0+1) q.cx q.cs 0 (fun i=>v3.a (i+3)) (v3.a 2) 3 (v1.a 2) q.sg q.ts s) fun v14=>.swap  (swF (sto 18 6) 5 (.ref q.it) (nmE q.L q.cl q.cx q.cw q.cs) .NotEq (v12.a 0+1) (v13.a 0+1)).t₀ (swF (sto 18 6) 5 (.ref q.it) (nmE q.L q.cl q.cx q.cw q.cs) .NotEq (v12.a 0+1) (v13.a 0+1)).t₁ <| yc [26,29] (lneS (v12.a 0+1) (v13.a 0+1) (cnams s 0) (fun b=>v13.f 0 b) (v13.a 2) (cnams s 0) (fun i=>v14.a (i+4)) (v14.a 2) false) fun v16=>yd 0 [] [17,18,19] [20,21,22,23,24,11] (tokES w (lx v10 c1 c2 cq) l2n (v13.a 3) l2 (fun i=>v13.a (i+6)) (v13.a 4) 0 l3n) fun v17=>yc [] (neSS [] [] (v17.a 4) (v17.a 1) false) fun v18=>yd 1 [] [] [13] (lenCS (v2.a 0+1) (cvals 0 fun i=>v3.a (i+3)) (v3.a 2) 0) fun v19=>yd 1 [] [] [] (neIS l3n (0+3) (v17.a 2) (v19.a 1+1) false) fun v20=>yd 0 [] [2] [] (bj q.nl [.ref a0,.ref a1,.ref a2] eN (.ref (v12.a 0+1)) [.ref a0,.ref a1,.ref a2,.ref (v12.a 0+1)]) fun v21=>.nil) (fun n t=>xd (aP (by omega) (by decide) (by decide)) fun _=>xc (cntS_ok h.cnt) fun _=>xd (lrS_ok h.n6) fun _=>xc (ab (by omega) (by decide) h.gM) fun _=>xd (c1_all h.n6 (by omega) (by decide) h.gW h.wr0 h.wr1) fun _=>xc (jnS_ok hfl) fun _=>xc (addG_ok (by simp [opn]) (by rw [← h.eq]; have:=h.len; omega)) fun _=>xc (az (by rw [← h.eq]; simp)) fun _=>xc (ab (by omega) (by decide) h.gM) fun _=>xc (lexS2_ok (by omega) (by have:=h.len; omega)) fun _=>xd (aL (by omega) h.tok h.abc (by have:=h.len; omega)) fun _=>xc (az rfl) fun _=>xd (c2_all h.n6 (by omega) h.chain) fun _=>xd (c3_all h.n6 (by omega) (by decide) h.gs) fun _=>⟨swF_ok,⟨lne_same,fun v16=>⟨(h.fin _ _ _ _ _ _).mono (by omega),fun v17=>⟨az rfl,fun v18=>⟨aE (by rw [aD]; have:=h.n6; omega) (by rw [aD]; simp),fun v19=>⟨bc (by omega) (by rw [h.line]; simp),fun v20=>⟨aq (by simp) rfl,fun v21=>trivial⟩⟩⟩⟩⟩⟩⟩) 314 [4,8,8,0,0,0,0,2,12,12,12,12,8,1,1,1,1,0,3,3,0,2,2,2,8,14,14,14,2,2,28,28,1,0,0,28,1,34,1,0,0,0,2,8,14,14,14,0,10,10,10,42,0,0,0,42,0,0,0,42,0,0,0,0,42,36,0,1,0,0,2,28,28,1,0,0,28,1,0,2,2,56,2,2,28,28,1,0,0,28,1,62,999,6,54,60,54,1,0,0,10,42,0,0,0,42,0,0,0,42,0,0,0,0,42,36,0,1,0,0,10,42,0,0,0,42,0,0,0,42,42,0,36,0,0,2,1,0,0,2,6,6,6,6,2,4,4,4,4,4,3] (fun n t ω=>((fun v12 v13 v21=>nu [(v21.a 0+2),(v21.a 1),eN+1,v12.a 0+1,v13.a 2] [⟨(.type "range_iterator"),none,.fields #[(.int 4 0),(.int 0 0),(.int 1 0)],#[]⟩,⟨(.type "cell"),none,.cell (some (.int 3 ((ω 0).v.a 2))),#[]⟩,⟨(.type "cell"),none,.cell (some (.ref ((ω 63).v.a 2))),#[]⟩] [.ref ((ω 1).v.a 0+1),.ref (v12.a 0+1)] (fun _=>0) ((consG (fun b=>v13.f 0 b) fun _ b=>nuA [ki,kj] (fun _=>0) b))) (ω 143).v (ω 399).v (ω 173455).v)) [53]
theorem nt_3_1 (hD:d≤160) (h:Nk q 3 m wr s (nn+1) l1 l2 l1n l2n l3n) (hfl:(aX wr (nn+1)).flatten.length≤1000)  : Ok w d (ntS w q (q.fr10 w ki kj ct rd) 3 [.ref a0,.ref a1,.ref a2] eN cv lv [] [(113,tabO c1 c2),(c2,codeO cq)] (fun _=>[]) (fun v=>[rdR (v.a 3) s (nn+1) (fun b=>v.f 0 b) (v.a 4)]) (fun v=>[.ref a0,.ref a1,.ref a2,.ref (v.a 3)])):=by
  refine yv (fun n t=>yd 0 [] [1] [] (rngS q.it 3 (4-3)) fun v1=>yc [5] (cntS q.lw q.v q.u q.e 3 (v1.a 2) (nn+1)) fun v2=>yd 7 [0,1] [13] [12] (lrS (v2.a 0+1) (v2.a 0) (nn+1) (v2.a 1+1) (v2.a 1+2) (v2.a 1+4)) fun v3=>yc [6] (ag q.ml (vs4 q.M q.uM) q.em 3 (v1.a 2) (.str (S m) (q.uM.at 3))) fun v4=>yd 1 [0,1,2] [14,15,16] [13,3,7,8] (c1S w q.L (v4.a 0) (v4.a 0+1) (v4.a 0+2) (v2.a 0+1) q.cx q.cw q.wl (nn+1) (fun i=>v3.a (i+3)) (v3.a 2) 3 (v1.a 2) q.W q.uW q.ew wr) fun v5=>yc [15] (jnS (v4.a 0+1) (v4.a 1) (aX wr (nn+1)) (fun i=>v5.a (i+4)) (v5.a 2)) fun v6=>yc [] (a6 opn (aX wr (nn+1)).flatten q.to (v6.a 2)) fun v7=>yc [] (neSS m (opn++(aX wr (nn+1)).flatten) q.uM.4 (v7.a 2) false) fun v8=>yc [6] (ag q.ml (vs4 q.M q.uM) q.em 3 (v1.a 2) (.str (S m) (q.uM.at 3))) fun v9=>yc [10,11] (lexS2 w m (q.uM.at 3) c1 c2 cq) fun v10=>yd 0 [] [17,18,19] [20,21,22,23,24,11] (tokS w (lx v10 c1 c2 cq) 1 (v10.a 19) m (fun i=>v10.a (i+31)) (v10.a 20) 0 [45] l1 l1n) fun v11=>yc [] (neSS [45] [45] (v11.a 4) (v11.a 1) false) fun v12=>yd 1 [0,1,2] [25,26,27,17,18,19] [13,4,20,21,22,23,24,11] (c2S w q.L (v12.a 0) (v12.a 0+1) (v12.a 0+2) (v2.a 0+1) q.cl (nn+1) (fun i=>v3.a (i+3)) (v3.a 2) (lx v10 c1 c2 cq) l1n (v11.a 2) l1 (fun i=>v11.a (i+5)) (v11.a 3) 0 l2 l2n s) fun v13=>yd 1 [0,1,2] [28,29,30] [13,3,9] (c3S w q.L (v13.a 0) (v13.a 0+1) (v13.a 0+2) (v2.a 0+1) q.cx q.cs (nn+1) (fun i=>v3.a (i+3)) (v3.a 2) 3 (v1.a 2) q.sg q.ts s) fun v14=>.swap  (swF (sto 18 6) 5 (.ref q.it) (nmE q.L q.cl q.cx q.cw q.cs) .NotEq (v12.a 0+1) (v13.a 0+1)).t₀ (swF (sto 18 6) 5 (.ref q.it) (nmE q.L q.cl q.cx q.cw q.cs) .NotEq (v12.a 0+1) (v13.a 0+1)).t₁ <| yc [26,29] (lneS (v12.a 0+1) (v13.a 0+1) (cnams s (nn+1)) (fun b=>v13.f 0 b) (v13.a 2) (cnams s (nn+1)) (fun i=>v14.a (i+4)) (v14.a 2) false) fun v16=>yd 0 [] [17,18,19] [20,21,22,23,24,11] (tokES w (lx v10 c1 c2 cq) l2n (v13.a 3) l2 (fun i=>v13.a (i+6)) (v13.a 4) 0 l3n) fun v17=>yc [] (neSS [] [] (v17.a 4) (v17.a 1) false) fun v18=>yd 1 [] [] [13] (lenCS (v2.a 0+1) (cvals (nn+1) fun i=>v3.a (i+3)) (v3.a 2) (nn+1)) fun v19=>yd 1 [] [] [] (neIS l3n ((nn+1)+3) (v17.a 2) (v19.a 1+1) false) fun v20=>yd 0 [] [2] [] (bj q.nl [.ref a0,.ref a1,.ref a2] eN (.ref (v12.a 0+1)) [.ref a0,.ref a1,.ref a2,.ref (v12.a 0+1)]) fun v21=>.nil) (fun n t=>xd (aP (by omega) (by decide) (by decide)) fun _=>xc (cntS_ok h.cnt) fun _=>xd (lrS_ok h.n6) fun _=>xc (ab (by omega) (by decide) h.gM) fun _=>xd (c1_all h.n6 (by omega) (by decide) h.gW h.wr0 h.wr1) fun _=>xc (jnS_ok hfl) fun _=>xc (addG_ok (by simp [opn]) (by rw [← h.eq]; have:=h.len; omega)) fun _=>xc (az (by rw [← h.eq]; simp)) fun _=>xc (ab (by omega) (by decide) h.gM) fun _=>xc (lexS2_ok (by omega) (by have:=h.len; omega)) fun _=>xd (aL (by omega) h.tok h.abc (by have:=h.len; omega)) fun _=>xc (az rfl) fun _=>xd (c2_all h.n6 (by omega) h.chain) fun _=>xd (c3_all h.n6 (by omega) (by decide) h.gs) fun _=>⟨swF_ok,⟨lne_same,fun v16=>⟨(h.fin _ _ _ _ _ _).mono (by omega),fun v17=>⟨az rfl,fun v18=>⟨aE (by rw [aD]; have:=h.n6; omega) (by rw [aD]; simp),fun v19=>⟨bc (by omega) (by rw [h.line]; simp),fun v20=>⟨aq (by simp) rfl,fun v21=>trivial⟩⟩⟩⟩⟩⟩⟩) 326 [4,8,8,0,0,0,0,2,12,12,12,12,8,1,1,1,1,0,3,3,0,2,2,2,8,14,14,14,2,2,28,28,1,0,0,28,1,34,34,34,1,0,0,0,2,8,14,14,14,0,10,10,10,42,0,0,0,42,0,0,0,42,0,0,0,0,42,36,0,1,0,0,2,28,28,1,0,0,28,1,0,2,2,56,56,56,2,2,28,28,1,0,0,28,1,62,62,62,999,6,54,60,54,1,0,0,10,42,0,0,0,42,0,0,0,42,0,0,0,0,42,36,0,1,0,0,10,42,0,0,0,42,0,0,0,42,42,0,36,0,0,2,1,0,0,2,6,6,6,6,2,4,4,4,4,4,3] (fun n t ω=>((fun v12 v13 v21=>nu [(v21.a 0+2),(v21.a 1),eN+1,v12.a 0+1,v13.a 2] [⟨(.type "range_iterator"),none,.fields #[(.int 4 0),(.int 0 0),(.int 1 0)],#[]⟩,⟨(.type "cell"),none,.cell (some (.int 3 ((ω 0).v.a 2))),#[]⟩,⟨(.type "cell"),none,.cell (some (.ref ((ω 63).v.a 2))),#[]⟩] [.ref ((ω 1).v.a 0+1),.ref (v12.a 0+1)] (fun _=>0) ((consG (fun b=>v13.f 0 b) fun _ b=>nuA [ki,kj] (fun _=>0) b))) (ω 143).v (ω 399).v (ω 173455).v)) [53]
theorem nt_2_0 (hD:d≤160) (h:Nk q 2 m wr s 0 l1 l2 l1n l2n l3n) (hfl:(aX wr 0).flatten.length≤1000) (H:∀ ki kj ct rd a eN cv lv ,Ok w d (ntS w q (q.fr10 w ki kj ct rd) 3 [.ref a0,.ref a1,.ref a] eN cv lv [] [(113,tabO c1 c2),(c2,codeO cq)] (fun _=>[]) (fun v=>[rdR (v.a 3) s1 n1 (fun b=>v.f 0 b) (v.a 4)]) (fun v=>[.ref a0,.ref a1,.ref a,.ref (v.a 3)]))):Ok w d (ntS w q (q.fr10 w ki kj ct rd) 2 [.ref a0,.ref a1] eN cv lv [] [(113,tabO c1 c2),(c2,codeO cq)] (fun _=>[]) (fun v=>[rdR (v.a 3) s 0 (fun b=>v.f 0 b) (v.a 4),rdR (v.a 5) s1 n1 (fun b=>v.f 1 b) (v.a 6)]) (fun v=>[.ref a0,.ref a1,.ref (v.a 3),.ref (v.a 5)])):=by
  refine yt (fun n t=>yd 0 [] [1] [] (rngS q.it 2 (4-2)) fun v1=>yc [5] (cntS q.lw q.v q.u q.e 2 (v1.a 2) 0) fun v2=>yd 7 [0,1] [13] [12] (lrS (v2.a 0+1) (v2.a 0) 0 (v2.a 1+1) (v2.a 1+2) (v2.a 1+4)) fun v3=>yc [6] (ag q.ml (vs4 q.M q.uM) q.em 2 (v1.a 2) (.str (S m) (q.uM.at 2))) fun v4=>yd 1 [0,1,2] [14,15,16] [13,3,7,8] (c1S w q.L (v4.a 0) (v4.a 0+1) (v4.a 0+2) (v2.a 0+1) q.cx q.cw q.wl 0 (fun i=>v3.a (i+3)) (v3.a 2) 2 (v1.a 2) q.W q.uW q.ew wr) fun v5=>yc [15] (jnS (v4.a 0+1) (v4.a 1) (aX wr 0) (fun i=>v5.a (i+4)) (v5.a 2)) fun v6=>yc [] (a6 opn (aX wr 0).flatten q.to (v6.a 2)) fun v7=>yc [] (neSS m (opn++(aX wr 0).flatten) q.uM.3 (v7.a 2) false) fun v8=>yc [6] (ag q.ml (vs4 q.M q.uM) q.em 2 (v1.a 2) (.str (S m) (q.uM.at 2))) fun v9=>yc [10,11] (lexS2 w m (q.uM.at 2) c1 c2 cq) fun v10=>yd 0 [] [17,18,19] [20,21,22,23,24,11] (tokS w (lx v10 c1 c2 cq) 1 (v10.a 19) m (fun i=>v10.a (i+31)) (v10.a 20) 0 [45] l1 l1n) fun v11=>yc [] (neSS [45] [45] (v11.a 4) (v11.a 1) false) fun v12=>yd 1 [0,1,2] [25,26,27,17,18,19] [13,4,20,21,22,23,24,11] (c2S w q.L (v12.a 0) (v12.a 0+1) (v12.a 0+2) (v2.a 0+1) q.cl 0 (fun i=>v3.a (i+3)) (v3.a 2) (lx v10 c1 c2 cq) l1n (v11.a 2) l1 (fun i=>v11.a (i+5)) (v11.a 3) 0 l2 l2n s) fun v13=>yd 1 [0,1,2] [28,29,30] [13,3,9] (c3S w q.L (v13.a 0) (v13.a 0+1) (v13.a 0+2) (v2.a 0+1) q.cx q.cs 0 (fun i=>v3.a (i+3)) (v3.a 2) 2 (v1.a 2) q.sg q.ts s) fun v14=>.swap  (swF (sto 18 6) 5 (.ref q.it) (nmE q.L q.cl q.cx q.cw q.cs) .NotEq (v12.a 0+1) (v13.a 0+1)).t₀ (swF (sto 18 6) 5 (.ref q.it) (nmE q.L q.cl q.cx q.cw q.cs) .NotEq (v12.a 0+1) (v13.a 0+1)).t₁ <| yc [26,29] (lneS (v12.a 0+1) (v13.a 0+1) (cnams s 0) (fun b=>v13.f 0 b) (v13.a 2) (cnams s 0) (fun i=>v14.a (i+4)) (v14.a 2) false) fun v16=>yd 0 [] [17,18,19] [20,21,22,23,24,11] (tokES w (lx v10 c1 c2 cq) l2n (v13.a 3) l2 (fun i=>v13.a (i+6)) (v13.a 4) 0 l3n) fun v17=>yc [] (neSS [] [] (v17.a 4) (v17.a 1) false) fun v18=>yd 1 [] [] [13] (lenCS (v2.a 0+1) (cvals 0 fun i=>v3.a (i+3)) (v3.a 2) 0) fun v19=>yd 1 [] [] [] (neIS l3n (0+3) (v17.a 2) (v19.a 1+1) false) fun v20=>yd 0 [] [2] [] (bj q.nl [.ref a0,.ref a1] eN (.ref (v12.a 0+1)) [.ref a0,.ref a1,.ref (v12.a 0+1)]) fun v21=>.nil) (fun n t=>xd (aP (by omega) (by decide) (by decide)) fun _=>xc (cntS_ok h.cnt) fun _=>xd (lrS_ok h.n6) fun _=>xc (ab (by omega) (by decide) h.gM) fun _=>xd (c1_all h.n6 (by omega) (by decide) h.gW h.wr0 h.wr1) fun _=>xc (jnS_ok hfl) fun _=>xc (addG_ok (by simp [opn]) (by rw [← h.eq]; have:=h.len; omega)) fun _=>xc (az (by rw [← h.eq]; simp)) fun _=>xc (ab (by omega) (by decide) h.gM) fun _=>xc (lexS2_ok (by omega) (by have:=h.len; omega)) fun _=>xd (aL (by omega) h.tok h.abc (by have:=h.len; omega)) fun _=>xc (az rfl) fun _=>xd (c2_all h.n6 (by omega) h.chain) fun _=>xd (c3_all h.n6 (by omega) (by decide) h.gs) fun _=>⟨swF_ok,⟨lne_same,fun v16=>⟨(h.fin _ _ _ _ _ _).mono (by omega),fun v17=>⟨az rfl,fun v18=>⟨aE (by rw [aD]; have:=h.n6; omega) (by rw [aD]; simp),fun v19=>⟨bc (by omega) (by rw [h.line]; simp),fun v20=>⟨aq (by simp) rfl,fun v21=>trivial⟩⟩⟩⟩⟩⟩⟩) (fun n t ω=>((fun v12=>(it5 0 [] [0,1,2,3,4] [5,6,7,8,9,10,11] (ntS w q (q.fr10 w ki kj (.ref ((ω 1).v.a 0+1)) (.ref (v12.a 0+1))) 3 [.ref a0,.ref a1,.ref (v12.a 0+1)] (eN+1) (some (.int 2 ((ω 0).v.a 2))) (some (.ref ((ω 63).v.a 2))) [] [(113,tabO c1 c2),(c2,codeO cq)] (fun _=>[]) (fun v=>[rdR (v.a 3) s1 n1 (fun b=>v.f 0 b) (v.a 4)]) (fun v=>[.ref a0,.ref a1,.ref (v12.a 0+1),.ref (v.a 3)])))) (ω 143).v)) (fun n t ω=>H ki kj _ _ _ _ _ _) 298 [4,8,8,0,0,0,0,2,12,12,12,12,8,1,1,1,1,0,3,3,0,2,2,2,8,14,14,14,2,2,28,28,1,0,0,28,1,34,1,0,0,0,2,8,14,14,14,0,10,10,10,42,0,0,0,42,0,0,0,42,0,0,0,0,42,36,0,1,0,0,2,28,28,1,0,0,28,1,0,2,2,56,2,2,28,28,1,0,0,28,1,62,999,6,54,60,54,1,0,0,10,42,0,0,0,42,0,0,0,42,0,0,0,0,42,36,0,1,0,0,10,42,0,0,0,42,0,0,0,42,42,0,36,0,0,2,1,0,0,2,6,6,6,6,2] (fun n t ω vz=>((fun v13=>nu [(vz.a 0),(vz.a 1),vz.a 2,(ω 143).v.a 0+1,v13.a 2,vz.a 3,vz.a 4] [(vz.2 0),(vz.2 1),(vz.2 2)] [vz.x 0,vz.x 1] (fun _=>0) ((consG (fun b=>v13.f 0 b) vz.f))) (ω 399).v)) [53,63]
theorem nt_2_1 (hD:d≤160) (h:Nk q 2 m wr s (nn+1) l1 l2 l1n l2n l3n) (hfl:(aX wr (nn+1)).flatten.length≤1000) (H:∀ ki kj ct rd a eN cv lv ,Ok w d (ntS w q (q.fr10 w ki kj ct rd) 3 [.ref a0,.ref a1,.ref a] eN cv lv [] [(113,tabO c1 c2),(c2,codeO cq)] (fun _=>[]) (fun v=>[rdR (v.a 3) s1 n1 (fun b=>v.f 0 b) (v.a 4)]) (fun v=>[.ref a0,.ref a1,.ref a,.ref (v.a 3)]))):Ok w d (ntS w q (q.fr10 w ki kj ct rd) 2 [.ref a0,.ref a1] eN cv lv [] [(113,tabO c1 c2),(c2,codeO cq)] (fun _=>[]) (fun v=>[rdR (v.a 3) s (nn+1) (fun b=>v.f 0 b) (v.a 4),rdR (v.a 5) s1 n1 (fun b=>v.f 1 b) (v.a 6)]) (fun v=>[.ref a0,.ref a1,.ref (v.a 3),.ref (v.a 5)])):=by
  refine yt (fun n t=>yd 0 [] [1] [] (rngS q.it 2 (4-2)) fun v1=>yc [5] (cntS q.lw q.v q.u q.e 2 (v1.a 2) (nn+1)) fun v2=>yd 7 [0,1] [13] [12] (lrS (v2.a 0+1) (v2.a 0) (nn+1) (v2.a 1+1) (v2.a 1+2) (v2.a 1+4)) fun v3=>yc [6] (ag q.ml (vs4 q.M q.uM) q.em 2 (v1.a 2) (.str (S m) (q.uM.at 2))) fun v4=>yd 1 [0,1,2] [14,15,16] [13,3,7,8] (c1S w q.L (v4.a 0) (v4.a 0+1) (v4.a 0+2) (v2.a 0+1) q.cx q.cw q.wl (nn+1) (fun i=>v3.a (i+3)) (v3.a 2) 2 (v1.a 2) q.W q.uW q.ew wr) fun v5=>yc [15] (jnS (v4.a 0+1) (v4.a 1) (aX wr (nn+1)) (fun i=>v5.a (i+4)) (v5.a 2)) fun v6=>yc [] (a6 opn (aX wr (nn+1)).flatten q.to (v6.a 2)) fun v7=>yc [] (neSS m (opn++(aX wr (nn+1)).flatten) q.uM.3 (v7.a 2) false) fun v8=>yc [6] (ag q.ml (vs4 q.M q.uM) q.em 2 (v1.a 2) (.str (S m) (q.uM.at 2))) fun v9=>yc [10,11] (lexS2 w m (q.uM.at 2) c1 c2 cq) fun v10=>yd 0 [] [17,18,19] [20,21,22,23,24,11] (tokS w (lx v10 c1 c2 cq) 1 (v10.a 19) m (fun i=>v10.a (i+31)) (v10.a 20) 0 [45] l1 l1n) fun v11=>yc [] (neSS [45] [45] (v11.a 4) (v11.a 1) false) fun v12=>yd 1 [0,1,2] [25,26,27,17,18,19] [13,4,20,21,22,23,24,11] (c2S w q.L (v12.a 0) (v12.a 0+1) (v12.a 0+2) (v2.a 0+1) q.cl (nn+1) (fun i=>v3.a (i+3)) (v3.a 2) (lx v10 c1 c2 cq) l1n (v11.a 2) l1 (fun i=>v11.a (i+5)) (v11.a 3) 0 l2 l2n s) fun v13=>yd 1 [0,1,2] [28,29,30] [13,3,9] (c3S w q.L (v13.a 0) (v13.a 0+1) (v13.a 0+2) (v2.a 0+1) q.cx q.cs (nn+1) (fun i=>v3.a (i+3)) (v3.a 2) 2 (v1.a 2) q.sg q.ts s) fun v14=>.swap  (swF (sto 18 6) 5 (.ref q.it) (nmE q.L q.cl q.cx q.cw q.cs) .NotEq (v12.a 0+1) (v13.a 0+1)).t₀ (swF (sto 18 6) 5 (.ref q.it) (nmE q.L q.cl q.cx q.cw q.cs) .NotEq (v12.a 0+1) (v13.a 0+1)).t₁ <| yc [26,29] (lneS (v12.a 0+1) (v13.a 0+1) (cnams s (nn+1)) (fun b=>v13.f 0 b) (v13.a 2) (cnams s (nn+1)) (fun i=>v14.a (i+4)) (v14.a 2) false) fun v16=>yd 0 [] [17,18,19] [20,21,22,23,24,11] (tokES w (lx v10 c1 c2 cq) l2n (v13.a 3) l2 (fun i=>v13.a (i+6)) (v13.a 4) 0 l3n) fun v17=>yc [] (neSS [] [] (v17.a 4) (v17.a 1) false) fun v18=>yd 1 [] [] [13] (lenCS (v2.a 0+1) (cvals (nn+1) fun i=>v3.a (i+3)) (v3.a 2) (nn+1)) fun v19=>yd 1 [] [] [] (neIS l3n ((nn+1)+3) (v17.a 2) (v19.a 1+1) false) fun v20=>yd 0 [] [2] [] (bj q.nl [.ref a0,.ref a1] eN (.ref (v12.a 0+1)) [.ref a0,.ref a1,.ref (v12.a 0+1)]) fun v21=>.nil) (fun n t=>xd (aP (by omega) (by decide) (by decide)) fun _=>xc (cntS_ok h.cnt) fun _=>xd (lrS_ok h.n6) fun _=>xc (ab (by omega) (by decide) h.gM) fun _=>xd (c1_all h.n6 (by omega) (by decide) h.gW h.wr0 h.wr1) fun _=>xc (jnS_ok hfl) fun _=>xc (addG_ok (by simp [opn]) (by rw [← h.eq]; have:=h.len; omega)) fun _=>xc (az (by rw [← h.eq]; simp)) fun _=>xc (ab (by omega) (by decide) h.gM) fun _=>xc (lexS2_ok (by omega) (by have:=h.len; omega)) fun _=>xd (aL (by omega) h.tok h.abc (by have:=h.len; omega)) fun _=>xc (az rfl) fun _=>xd (c2_all h.n6 (by omega) h.chain) fun _=>xd (c3_all h.n6 (by omega) (by decide) h.gs) fun _=>⟨swF_ok,⟨lne_same,fun v16=>⟨(h.fin _ _ _ _ _ _).mono (by omega),fun v17=>⟨az rfl,fun v18=>⟨aE (by rw [aD]; have:=h.n6; omega) (by rw [aD]; simp),fun v19=>⟨bc (by omega) (by rw [h.line]; simp),fun v20=>⟨aq (by simp) rfl,fun v21=>trivial⟩⟩⟩⟩⟩⟩⟩) (fun n t ω=>((fun v12=>(it5 0 [] [0,1,2,3,4] [5,6,7,8,9,10,11] (ntS w q (q.fr10 w ki kj (.ref ((ω 1).v.a 0+1)) (.ref (v12.a 0+1))) 3 [.ref a0,.ref a1,.ref (v12.a 0+1)] (eN+1) (some (.int 2 ((ω 0).v.a 2))) (some (.ref ((ω 63).v.a 2))) [] [(113,tabO c1 c2),(c2,codeO cq)] (fun _=>[]) (fun v=>[rdR (v.a 3) s1 n1 (fun b=>v.f 0 b) (v.a 4)]) (fun v=>[.ref a0,.ref a1,.ref (v12.a 0+1),.ref (v.a 3)])))) (ω 143).v)) (fun n t ω=>H ki kj _ _ _ _ _ _) 310 [4,8,8,0,0,0,0,2,12,12,12,12,8,1,1,1,1,0,3,3,0,2,2,2,8,14,14,14,2,2,28,28,1,0,0,28,1,34,34,34,1,0,0,0,2,8,14,14,14,0,10,10,10,42,0,0,0,42,0,0,0,42,0,0,0,0,42,36,0,1,0,0,2,28,28,1,0,0,28,1,0,2,2,56,56,56,2,2,28,28,1,0,0,28,1,62,62,62,999,6,54,60,54,1,0,0,10,42,0,0,0,42,0,0,0,42,0,0,0,0,42,36,0,1,0,0,10,42,0,0,0,42,0,0,0,42,42,0,36,0,0,2,1,0,0,2,6,6,6,6,2] (fun n t ω vz=>((fun v13=>nu [(vz.a 0),(vz.a 1),vz.a 2,(ω 143).v.a 0+1,v13.a 2,vz.a 3,vz.a 4] [(vz.2 0),(vz.2 1),(vz.2 2)] [vz.x 0,vz.x 1] (fun _=>0) ((consG (fun b=>v13.f 0 b) vz.f))) (ω 399).v)) [53,63]
theorem nt_1_0 (hD:d≤160) (h:Nk q 1 m wr s 0 l1 l2 l1n l2n l3n) (hfl:(aX wr 0).flatten.length≤1000) (H:∀ ki kj ct rd a eN cv lv ,Ok w d (ntS w q (q.fr10 w ki kj ct rd) 2 [.ref a0,.ref a] eN cv lv [] [(113,tabO c1 c2),(c2,codeO cq)] (fun _=>[]) (fun v=>[rdR (v.a 3) s1 n1 (fun b=>v.f 0 b) (v.a 4),rdR (v.a 5) s2 n2 (fun b=>v.f 1 b) (v.a 6)]) (fun v=>[.ref a0,.ref a,.ref (v.a 3),.ref (v.a 5)]))):Ok w d (ntS w q (q.fr10 w ki kj ct rd) 1 [.ref a0] eN cv lv [] [(113,tabO c1 c2),(c2,codeO cq)] (fun _=>[]) (fun v=>[rdR (v.a 3) s 0 (fun b=>v.f 0 b) (v.a 4),rdR (v.a 5) s1 n1 (fun b=>v.f 1 b) (v.a 6),rdR (v.a 7) s2 n2 (fun b=>v.f 2 b) (v.a 8)]) (fun v=>[.ref a0,.ref (v.a 3),.ref (v.a 5),.ref (v.a 7)])):=by
  refine yt (fun n t=>yd 0 [] [1] [] (rngS q.it 1 (4-1)) fun v1=>yc [5] (cntS q.lw q.v q.u q.e 1 (v1.a 2) 0) fun v2=>yd 7 [0,1] [13] [12] (lrS (v2.a 0+1) (v2.a 0) 0 (v2.a 1+1) (v2.a 1+2) (v2.a 1+4)) fun v3=>yc [6] (ag q.ml (vs4 q.M q.uM) q.em 1 (v1.a 2) (.str (S m) (q.uM.at 1))) fun v4=>yd 1 [0,1,2] [14,15,16] [13,3,7,8] (c1S w q.L (v4.a 0) (v4.a 0+1) (v4.a 0+2) (v2.a 0+1) q.cx q.cw q.wl 0 (fun i=>v3.a (i+3)) (v3.a 2) 1 (v1.a 2) q.W q.uW q.ew wr) fun v5=>yc [15] (jnS (v4.a 0+1) (v4.a 1) (aX wr 0) (fun i=>v5.a (i+4)) (v5.a 2)) fun v6=>yc [] (a6 opn (aX wr 0).flatten q.to (v6.a 2)) fun v7=>yc [] (neSS m (opn++(aX wr 0).flatten) q.uM.2 (v7.a 2) false) fun v8=>yc [6] (ag q.ml (vs4 q.M q.uM) q.em 1 (v1.a 2) (.str (S m) (q.uM.at 1))) fun v9=>yc [10,11] (lexS2 w m (q.uM.at 1) c1 c2 cq) fun v10=>yd 0 [] [17,18,19] [20,21,22,23,24,11] (tokS w (lx v10 c1 c2 cq) 1 (v10.a 19) m (fun i=>v10.a (i+31)) (v10.a 20) 0 [45] l1 l1n) fun v11=>yc [] (neSS [45] [45] (v11.a 4) (v11.a 1) false) fun v12=>yd 1 [0,1,2] [25,26,27,17,18,19] [13,4,20,21,22,23,24,11] (c2S w q.L (v12.a 0) (v12.a 0+1) (v12.a 0+2) (v2.a 0+1) q.cl 0 (fun i=>v3.a (i+3)) (v3.a 2) (lx v10 c1 c2 cq) l1n (v11.a 2) l1 (fun i=>v11.a (i+5)) (v11.a 3) 0 l2 l2n s) fun v13=>yd 1 [0,1,2] [28,29,30] [13,3,9] (c3S w q.L (v13.a 0) (v13.a 0+1) (v13.a 0+2) (v2.a 0+1) q.cx q.cs 0 (fun i=>v3.a (i+3)) (v3.a 2) 1 (v1.a 2) q.sg q.ts s) fun v14=>.swap  (swF (sto 18 6) 5 (.ref q.it) (nmE q.L q.cl q.cx q.cw q.cs) .NotEq (v12.a 0+1) (v13.a 0+1)).t₀ (swF (sto 18 6) 5 (.ref q.it) (nmE q.L q.cl q.cx q.cw q.cs) .NotEq (v12.a 0+1) (v13.a 0+1)).t₁ <| yc [26,29] (lneS (v12.a 0+1) (v13.a 0+1) (cnams s 0) (fun b=>v13.f 0 b) (v13.a 2) (cnams s 0) (fun i=>v14.a (i+4)) (v14.a 2) false) fun v16=>yd 0 [] [17,18,19] [20,21,22,23,24,11] (tokES w (lx v10 c1 c2 cq) l2n (v13.a 3) l2 (fun i=>v13.a (i+6)) (v13.a 4) 0 l3n) fun v17=>yc [] (neSS [] [] (v17.a 4) (v17.a 1) false) fun v18=>yd 1 [] [] [13] (lenCS (v2.a 0+1) (cvals 0 fun i=>v3.a (i+3)) (v3.a 2) 0) fun v19=>yd 1 [] [] [] (neIS l3n (0+3) (v17.a 2) (v19.a 1+1) false) fun v20=>yd 0 [] [2] [] (bj q.nl [.ref a0] eN (.ref (v12.a 0+1)) [.ref a0,.ref (v12.a 0+1)]) fun v21=>.nil) (fun n t=>xd (aP (by omega) (by decide) (by decide)) fun _=>xc (cntS_ok h.cnt) fun _=>xd (lrS_ok h.n6) fun _=>xc (ab (by omega) (by decide) h.gM) fun _=>xd (c1_all h.n6 (by omega) (by decide) h.gW h.wr0 h.wr1) fun _=>xc (jnS_ok hfl) fun _=>xc (addG_ok (by simp [opn]) (by rw [← h.eq]; have:=h.len; omega)) fun _=>xc (az (by rw [← h.eq]; simp)) fun _=>xc (ab (by omega) (by decide) h.gM) fun _=>xc (lexS2_ok (by omega) (by have:=h.len; omega)) fun _=>xd (aL (by omega) h.tok h.abc (by have:=h.len; omega)) fun _=>xc (az rfl) fun _=>xd (c2_all h.n6 (by omega) h.chain) fun _=>xd (c3_all h.n6 (by omega) (by decide) h.gs) fun _=>⟨swF_ok,⟨lne_same,fun v16=>⟨(h.fin _ _ _ _ _ _).mono (by omega),fun v17=>⟨az rfl,fun v18=>⟨aE (by rw [aD]; have:=h.n6; omega) (by rw [aD]; simp),fun v19=>⟨bc (by omega) (by rw [h.line]; simp),fun v20=>⟨aq (by simp) rfl,fun v21=>trivial⟩⟩⟩⟩⟩⟩⟩) (fun n t ω=>((fun v12=>(it5 0 [] [0,1,2,3,4] [5,6,7,8,9,10,11] (ntS w q (q.fr10 w ki kj (.ref ((ω 1).v.a 0+1)) (.ref (v12.a 0+1))) 2 [.ref a0,.ref (v12.a 0+1)] (eN+1) (some (.int 1 ((ω 0).v.a 2))) (some (.ref ((ω 63).v.a 2))) [] [(113,tabO c1 c2),(c2,codeO cq)] (fun _=>[]) (fun v=>[rdR (v.a 3) s1 n1 (fun b=>v.f 0 b) (v.a 4),rdR (v.a 5) s2 n2 (fun b=>v.f 1 b) (v.a 6)]) (fun v=>[.ref a0,.ref (v12.a 0+1),.ref (v.a 3),.ref (v.a 5)])))) (ω 143).v)) (fun n t ω=>H ki kj _ _ _ _ _ _) 298 [4,8,8,0,0,0,0,2,12,12,12,12,8,1,1,1,1,0,3,3,0,2,2,2,8,14,14,14,2,2,28,28,1,0,0,28,1,34,1,0,0,0,2,8,14,14,14,0,10,10,10,42,0,0,0,42,0,0,0,42,0,0,0,0,42,36,0,1,0,0,2,28,28,1,0,0,28,1,0,2,2,56,2,2,28,28,1,0,0,28,1,62,999,6,54,60,54,1,0,0,10,42,0,0,0,42,0,0,0,42,0,0,0,0,42,36,0,1,0,0,10,42,0,0,0,42,0,0,0,42,42,0,36,0,0,2,1,0,0,2,6,6,6,6,2] (fun n t ω vz=>((fun v13=>nu [(vz.a 0),(vz.a 1),vz.a 2,(ω 143).v.a 0+1,v13.a 2,vz.a 3,vz.a 4,vz.a 5,vz.a 6] [(vz.2 0),(vz.2 1),(vz.2 2)] [vz.x 0,vz.x 1] (fun _=>0) ((consG (fun b=>v13.f 0 b) vz.f))) (ω 399).v)) [53,63,65]
theorem nt_1_1 (hD:d≤160) (h:Nk q 1 m wr s (nn+1) l1 l2 l1n l2n l3n) (hfl:(aX wr (nn+1)).flatten.length≤1000) (H:∀ ki kj ct rd a eN cv lv ,Ok w d (ntS w q (q.fr10 w ki kj ct rd) 2 [.ref a0,.ref a] eN cv lv [] [(113,tabO c1 c2),(c2,codeO cq)] (fun _=>[]) (fun v=>[rdR (v.a 3) s1 n1 (fun b=>v.f 0 b) (v.a 4),rdR (v.a 5) s2 n2 (fun b=>v.f 1 b) (v.a 6)]) (fun v=>[.ref a0,.ref a,.ref (v.a 3),.ref (v.a 5)]))):Ok w d (ntS w q (q.fr10 w ki kj ct rd) 1 [.ref a0] eN cv lv [] [(113,tabO c1 c2),(c2,codeO cq)] (fun _=>[]) (fun v=>[rdR (v.a 3) s (nn+1) (fun b=>v.f 0 b) (v.a 4),rdR (v.a 5) s1 n1 (fun b=>v.f 1 b) (v.a 6),rdR (v.a 7) s2 n2 (fun b=>v.f 2 b) (v.a 8)]) (fun v=>[.ref a0,.ref (v.a 3),.ref (v.a 5),.ref (v.a 7)])):=by
  refine yt (fun n t=>yd 0 [] [1] [] (rngS q.it 1 (4-1)) fun v1=>yc [5] (cntS q.lw q.v q.u q.e 1 (v1.a 2) (nn+1)) fun v2=>yd 7 [0,1] [13] [12] (lrS (v2.a 0+1) (v2.a 0) (nn+1) (v2.a 1+1) (v2.a 1+2) (v2.a 1+4)) fun v3=>yc [6] (ag q.ml (vs4 q.M q.uM) q.em 1 (v1.a 2) (.str (S m) (q.uM.at 1))) fun v4=>yd 1 [0,1,2] [14,15,16] [13,3,7,8] (c1S w q.L (v4.a 0) (v4.a 0+1) (v4.a 0+2) (v2.a 0+1) q.cx q.cw q.wl (nn+1) (fun i=>v3.a (i+3)) (v3.a 2) 1 (v1.a 2) q.W q.uW q.ew wr) fun v5=>yc [15] (jnS (v4.a 0+1) (v4.a 1) (aX wr (nn+1)) (fun i=>v5.a (i+4)) (v5.a 2)) fun v6=>yc [] (a6 opn (aX wr (nn+1)).flatten q.to (v6.a 2)) fun v7=>yc [] (neSS m (opn++(aX wr (nn+1)).flatten) q.uM.2 (v7.a 2) false) fun v8=>yc [6] (ag q.ml (vs4 q.M q.uM) q.em 1 (v1.a 2) (.str (S m) (q.uM.at 1))) fun v9=>yc [10,11] (lexS2 w m (q.uM.at 1) c1 c2 cq) fun v10=>yd 0 [] [17,18,19] [20,21,22,23,24,11] (tokS w (lx v10 c1 c2 cq) 1 (v10.a 19) m (fun i=>v10.a (i+31)) (v10.a 20) 0 [45] l1 l1n) fun v11=>yc [] (neSS [45] [45] (v11.a 4) (v11.a 1) false) fun v12=>yd 1 [0,1,2] [25,26,27,17,18,19] [13,4,20,21,22,23,24,11] (c2S w q.L (v12.a 0) (v12.a 0+1) (v12.a 0+2) (v2.a 0+1) q.cl (nn+1) (fun i=>v3.a (i+3)) (v3.a 2) (lx v10 c1 c2 cq) l1n (v11.a 2) l1 (fun i=>v11.a (i+5)) (v11.a 3) 0 l2 l2n s) fun v13=>yd 1 [0,1,2] [28,29,30] [13,3,9] (c3S w q.L (v13.a 0) (v13.a 0+1) (v13.a 0+2) (v2.a 0+1) q.cx q.cs (nn+1) (fun i=>v3.a (i+3)) (v3.a 2) 1 (v1.a 2) q.sg q.ts s) fun v14=>.swap  (swF (sto 18 6) 5 (.ref q.it) (nmE q.L q.cl q.cx q.cw q.cs) .NotEq (v12.a 0+1) (v13.a 0+1)).t₀ (swF (sto 18 6) 5 (.ref q.it) (nmE q.L q.cl q.cx q.cw q.cs) .NotEq (v12.a 0+1) (v13.a 0+1)).t₁ <| yc [26,29] (lneS (v12.a 0+1) (v13.a 0+1) (cnams s (nn+1)) (fun b=>v13.f 0 b) (v13.a 2) (cnams s (nn+1)) (fun i=>v14.a (i+4)) (v14.a 2) false) fun v16=>yd 0 [] [17,18,19] [20,21,22,23,24,11] (tokES w (lx v10 c1 c2 cq) l2n (v13.a 3) l2 (fun i=>v13.a (i+6)) (v13.a 4) 0 l3n) fun v17=>yc [] (neSS [] [] (v17.a 4) (v17.a 1) false) fun v18=>yd 1 [] [] [13] (lenCS (v2.a 0+1) (cvals (nn+1) fun i=>v3.a (i+3)) (v3.a 2) (nn+1)) fun v19=>yd 1 [] [] [] (neIS l3n ((nn+1)+3) (v17.a 2) (v19.a 1+1) false) fun v20=>yd 0 [] [2] [] (bj q.nl [.ref a0] eN (.ref (v12.a 0+1)) [.ref a0,.ref (v12.a 0+1)]) fun v21=>.nil) (fun n t=>xd (aP (by omega) (by decide) (by decide)) fun _=>xc (cntS_ok h.cnt) fun _=>xd (lrS_ok h.n6) fun _=>xc (ab (by omega) (by decide) h.gM) fun _=>xd (c1_all h.n6 (by omega) (by decide) h.gW h.wr0 h.wr1) fun _=>xc (jnS_ok hfl) fun _=>xc (addG_ok (by simp [opn]) (by rw [← h.eq]; have:=h.len; omega)) fun _=>xc (az (by rw [← h.eq]; simp)) fun _=>xc (ab (by omega) (by decide) h.gM) fun _=>xc (lexS2_ok (by omega) (by have:=h.len; omega)) fun _=>xd (aL (by omega) h.tok h.abc (by have:=h.len; omega)) fun _=>xc (az rfl) fun _=>xd (c2_all h.n6 (by omega) h.chain) fun _=>xd (c3_all h.n6 (by omega) (by decide) h.gs) fun _=>⟨swF_ok,⟨lne_same,fun v16=>⟨(h.fin _ _ _ _ _ _).mono (by omega),fun v17=>⟨az rfl,fun v18=>⟨aE (by rw [aD]; have:=h.n6; omega) (by rw [aD]; simp),fun v19=>⟨bc (by omega) (by rw [h.line]; simp),fun v20=>⟨aq (by simp) rfl,fun v21=>trivial⟩⟩⟩⟩⟩⟩⟩) (fun n t ω=>((fun v12=>(it5 0 [] [0,1,2,3,4] [5,6,7,8,9,10,11] (ntS w q (q.fr10 w ki kj (.ref ((ω 1).v.a 0+1)) (.ref (v12.a 0+1))) 2 [.ref a0,.ref (v12.a 0+1)] (eN+1) (some (.int 1 ((ω 0).v.a 2))) (some (.ref ((ω 63).v.a 2))) [] [(113,tabO c1 c2),(c2,codeO cq)] (fun _=>[]) (fun v=>[rdR (v.a 3) s1 n1 (fun b=>v.f 0 b) (v.a 4),rdR (v.a 5) s2 n2 (fun b=>v.f 1 b) (v.a 6)]) (fun v=>[.ref a0,.ref (v12.a 0+1),.ref (v.a 3),.ref (v.a 5)])))) (ω 143).v)) (fun n t ω=>H ki kj _ _ _ _ _ _) 310 [4,8,8,0,0,0,0,2,12,12,12,12,8,1,1,1,1,0,3,3,0,2,2,2,8,14,14,14,2,2,28,28,1,0,0,28,1,34,34,34,1,0,0,0,2,8,14,14,14,0,10,10,10,42,0,0,0,42,0,0,0,42,0,0,0,0,42,36,0,1,0,0,2,28,28,1,0,0,28,1,0,2,2,56,56,56,2,2,28,28,1,0,0,28,1,62,62,62,999,6,54,60,54,1,0,0,10,42,0,0,0,42,0,0,0,42,0,0,0,0,42,36,0,1,0,0,10,42,0,0,0,42,0,0,0,42,42,0,36,0,0,2,1,0,0,2,6,6,6,6,2] (fun n t ω vz=>((fun v13=>nu [(vz.a 0),(vz.a 1),vz.a 2,(ω 143).v.a 0+1,v13.a 2,vz.a 3,vz.a 4,vz.a 5,vz.a 6] [(vz.2 0),(vz.2 1),(vz.2 2)] [vz.x 0,vz.x 1] (fun _=>0) ((consG (fun b=>v13.f 0 b) vz.f))) (ω 399).v)) [53,63,65]
theorem nt_0_0 (hD:d≤160) (h:Nk q 0 m wr s 0 l1 l2 l1n l2n l3n) (hfl:(aX wr 0).flatten.length≤1000) (H:∀ ki kj ct rd a eN cv lv c1 c2 cq ,Ok w d (ntS w q (q.fr10 w ki kj ct rd) 1 [.ref a] eN cv lv [] [(113,tabO c1 c2),(c2,codeO cq)] (fun _=>[]) (fun v=>[rdR (v.a 3) s1 n1 (fun b=>v.f 0 b) (v.a 4),rdR (v.a 5) s2 n2 (fun b=>v.f 1 b) (v.a 6),rdR (v.a 7) s3 n3 (fun b=>v.f 2 b) (v.a 8)]) (fun v=>[.ref a,.ref (v.a 3),.ref (v.a 5),.ref (v.a 7)]))):Ok w d (ntS w q (q.fr8 w) 0 [] eN cv none [(113,⟨.none,none,.fields #[],#[]⟩)] [] (fun v=>[(113,tabO (v.a 11) (v.a 12))]) (fun v=>[rdR (v.a 3) s 0 (fun b=>v.f 0 b) (v.a 4),rdR (v.a 5) s1 n1 (fun b=>v.f 1 b) (v.a 6),rdR (v.a 7) s2 n2 (fun b=>v.f 2 b) (v.a 8),rdR (v.a 9) s3 n3 (fun b=>v.f 3 b) (v.a 10),(v.a 12,codeO fun i=>v.a (i+13))]) (fun v=>[.ref (v.a 3),.ref (v.a 5),.ref (v.a 7),.ref (v.a 9)])):=by
  refine yt (fun n t=>yd 0 [] [1] [] (rngS q.it 0 (4-0)) fun v1=>yc [6] (cntS q.lw q.v q.u q.e 0 (v1.a 2) 0) fun v2=>yd 7 [0,1] [12] [11] (lrS (v2.a 0+1) (v2.a 0) 0 (v2.a 1+1) (v2.a 1+2) (v2.a 1+4)) fun v3=>yc [7] (ag q.ml (vs4 q.M q.uM) q.em 0 (v1.a 2) (.str (S m) (q.uM.at 0))) fun v4=>yd 1 [0,1,2] [13,14,15] [12,3,8,9] (c1S w q.L (v4.a 0) (v4.a 0+1) (v4.a 0+2) (v2.a 0+1) q.cx q.cw q.wl 0 (fun i=>v3.a (i+3)) (v3.a 2) 0 (v1.a 2) q.W q.uW q.ew wr) fun v5=>yc [14] (jnS (v4.a 0+1) (v4.a 1) (aX wr 0) (fun i=>v5.a (i+4)) (v5.a 2)) fun v6=>yc [] (a6 opn (aX wr 0).flatten q.to (v6.a 2)) fun v7=>yc [] (neSS m (opn++(aX wr 0).flatten) q.uM.1 (v7.a 2) false) fun v8=>yc [7] (ag q.ml (vs4 q.M q.uM) q.em 0 (v1.a 2) (.str (S m) (q.uM.at 0))) fun v9=>yd 0 [] [5] [] (lexS1 w m (q.uM.at 0)) fun v10=>yd 0 [] [16,17,18] [19,20,21,22,23,24] (tokS w (nLx v10) 1 (v10.a 19) m (fun i=>v10.a (i+31)) (v10.a 20) 0 [45] l1 l1n) fun v11=>yc [] (neSS [45] [45] (v11.a 4) (v11.a 1) false) fun v12=>yd 1 [0,1,2] [25,26,27,16,17,18] [12,4,19,20,21,22,23,24] (c2S w q.L (v12.a 0) (v12.a 0+1) (v12.a 0+2) (v2.a 0+1) q.cl 0 (fun i=>v3.a (i+3)) (v3.a 2) (nLx v10) l1n (v11.a 2) l1 (fun i=>v11.a (i+5)) (v11.a 3) 0 l2 l2n s) fun v13=>yd 1 [0,1,2] [28,29,30] [12,3,10] (c3S w q.L (v13.a 0) (v13.a 0+1) (v13.a 0+2) (v2.a 0+1) q.cx q.cs 0 (fun i=>v3.a (i+3)) (v3.a 2) 0 (v1.a 2) q.sg q.ts s) fun v14=>.swap  (swF (sto 18 6) 5 (.ref q.it) (nmE q.L q.cl q.cx q.cw q.cs) .NotEq (v12.a 0+1) (v13.a 0+1)).t₀ (swF (sto 18 6) 5 (.ref q.it) (nmE q.L q.cl q.cx q.cw q.cs) .NotEq (v12.a 0+1) (v13.a 0+1)).t₁ <| yc [26,29] (lneS (v12.a 0+1) (v13.a 0+1) (cnams s 0) (fun b=>v13.f 0 b) (v13.a 2) (cnams s 0) (fun i=>v14.a (i+4)) (v14.a 2) false) fun v16=>yd 0 [] [16,17,18] [19,20,21,22,23,24] (tokES w (nLx v10) l2n (v13.a 3) l2 (fun i=>v13.a (i+6)) (v13.a 4) 0 l3n) fun v17=>yc [] (neSS [] [] (v17.a 4) (v17.a 1) false) fun v18=>yd 1 [] [] [12] (lenCS (v2.a 0+1) (cvals 0 fun i=>v3.a (i+3)) (v3.a 2) 0) fun v19=>yd 1 [] [] [] (neIS l3n (0+3) (v17.a 2) (v19.a 1+1) false) fun v20=>yd 0 [] [2] [] (bj q.nl [] eN (.ref (v12.a 0+1)) [.ref (v12.a 0+1)]) fun v21=>.nil) (fun n t=>xd (aP (by omega) (by decide) (by decide)) fun _=>xc (cntS_ok h.cnt) fun _=>xd (lrS_ok h.n6) fun _=>xc (ab (by omega) (by decide) h.gM) fun _=>xd (c1_all h.n6 (by omega) (by decide) h.gW h.wr0 h.wr1) fun _=>xc (jnS_ok hfl) fun _=>xc (addG_ok (by simp [opn]) (by rw [← h.eq]; have:=h.len; omega)) fun _=>xc (az (by rw [← h.eq]; simp)) fun _=>xc (ab (by omega) (by decide) h.gM) fun _=>xd (lexS1_ok (by omega) (by have:=h.len; omega)) fun _=>xd (aL (by omega) h.tok h.abc (by have:=h.len; omega)) fun _=>xc (az rfl) fun _=>xd (c2_all h.n6 (by omega) h.chain) fun _=>xd (c3_all h.n6 (by omega) (by decide) h.gs) fun _=>⟨swF_ok,⟨lne_same,fun v16=>⟨(h.fin _ _ _ _ _ _).mono (by omega),fun v17=>⟨az rfl,fun v18=>⟨aE (by rw [aD]; have:=h.n6; omega) (by rw [aD]; simp),fun v19=>⟨bc (by omega) (by rw [h.line]; simp),fun v20=>⟨aq (by simp) rfl,fun v21=>trivial⟩⟩⟩⟩⟩⟩⟩) (fun n t ω=>((fun v10 v12=>(it5 0 [] [0,1,2,3,4] [6,7,8,9,10,5,24] (ntS w q (q.fr10 w ((ω 2).v.a 1) ((ω 399).v.a 1) (.ref ((ω 1).v.a 0+1)) (.ref (v12.a 0+1))) 1 [.ref (v12.a 0+1)] (eN+1) (some (.int 0 ((ω 0).v.a 2))) (some (.ref (v10.a 2))) [] [(113,tabO (v10.a 9) (v10.a 10)),((v10.a 10),codeO (fun i=>v10.a (i+21)))] (fun _=>[]) (fun v=>[rdR (v.a 3) s1 n1 (fun b=>v.f 0 b) (v.a 4),rdR (v.a 5) s2 n2 (fun b=>v.f 1 b) (v.a 6),rdR (v.a 7) s3 n3 (fun b=>v.f 2 b) (v.a 8)]) (fun v=>[.ref (v12.a 0+1),.ref (v.a 3),.ref (v.a 5),.ref (v.a 7)])))) (ω 63).v (ω 143).v)) (fun n t ω=>H _ _ _ _ _ _ _ _ _ _ _) 298 [4,8,8,0,0,0,0,2,14,14,14,14,8,1,1,1,1,0,3,3,0,2,2,2,8,16,16,16,2,2,26,26,1,0,0,26,1,32,1,0,0,0,2,8,16,16,16,0,10,10,10,40,0,0,0,40,0,0,0,40,0,0,0,0,40,34,0,1,0,0,2,26,26,1,0,0,26,1,0,2,2,56,2,2,26,26,1,0,0,26,1,62,999,6,54,60,54,1,0,0,10,40,0,0,0,40,0,0,0,40,0,0,0,0,40,34,0,1,0,0,10,40,0,0,0,40,0,0,0,40,40,0,34,0,0,2,1,0,0,2,6,6,6,6,2] (fun n t ω vz=>((fun v10 v13=>nu [(vz.a 0),(vz.a 1),vz.a 2,(ω 143).v.a 0+1,v13.a 2,vz.a 3,vz.a 4,vz.a 5,vz.a 6,vz.a 7,vz.a 8,v10.a 9,v10.a 10] [(vz.2 0),(vz.2 1),(vz.2 2)] [vz.x 0,vz.x 1] ((fun i=>v10.a (i+21))) ((consG (fun b=>v13.f 0 b) vz.f))) (ω 63).v (ω 399).v)) [53,63,65,67,49]
theorem nt_0_1 (hD:d≤160) (h:Nk q 0 m wr s (nn+1) l1 l2 l1n l2n l3n) (hfl:(aX wr (nn+1)).flatten.length≤1000) (H:∀ ki kj ct rd a eN cv lv c1 c2 cq ,Ok w d (ntS w q (q.fr10 w ki kj ct rd) 1 [.ref a] eN cv lv [] [(113,tabO c1 c2),(c2,codeO cq)] (fun _=>[]) (fun v=>[rdR (v.a 3) s1 n1 (fun b=>v.f 0 b) (v.a 4),rdR (v.a 5) s2 n2 (fun b=>v.f 1 b) (v.a 6),rdR (v.a 7) s3 n3 (fun b=>v.f 2 b) (v.a 8)]) (fun v=>[.ref a,.ref (v.a 3),.ref (v.a 5),.ref (v.a 7)]))):Ok w d (ntS w q (q.fr8 w) 0 [] eN cv none [(113,⟨.none,none,.fields #[],#[]⟩)] [] (fun v=>[(113,tabO (v.a 11) (v.a 12))]) (fun v=>[rdR (v.a 3) s (nn+1) (fun b=>v.f 0 b) (v.a 4),rdR (v.a 5) s1 n1 (fun b=>v.f 1 b) (v.a 6),rdR (v.a 7) s2 n2 (fun b=>v.f 2 b) (v.a 8),rdR (v.a 9) s3 n3 (fun b=>v.f 3 b) (v.a 10),(v.a 12,codeO fun i=>v.a (i+13))]) (fun v=>[.ref (v.a 3),.ref (v.a 5),.ref (v.a 7),.ref (v.a 9)])):=by
  refine yt (fun n t=>yd 0 [] [1] [] (rngS q.it 0 (4-0)) fun v1=>yc [6] (cntS q.lw q.v q.u q.e 0 (v1.a 2) (nn+1)) fun v2=>yd 7 [0,1] [12] [11] (lrS (v2.a 0+1) (v2.a 0) (nn+1) (v2.a 1+1) (v2.a 1+2) (v2.a 1+4)) fun v3=>yc [7] (ag q.ml (vs4 q.M q.uM) q.em 0 (v1.a 2) (.str (S m) (q.uM.at 0))) fun v4=>yd 1 [0,1,2] [13,14,15] [12,3,8,9] (c1S w q.L (v4.a 0) (v4.a 0+1) (v4.a 0+2) (v2.a 0+1) q.cx q.cw q.wl (nn+1) (fun i=>v3.a (i+3)) (v3.a 2) 0 (v1.a 2) q.W q.uW q.ew wr) fun v5=>yc [14] (jnS (v4.a 0+1) (v4.a 1) (aX wr (nn+1)) (fun i=>v5.a (i+4)) (v5.a 2)) fun v6=>yc [] (a6 opn (aX wr (nn+1)).flatten q.to (v6.a 2)) fun v7=>yc [] (neSS m (opn++(aX wr (nn+1)).flatten) q.uM.1 (v7.a 2) false) fun v8=>yc [7] (ag q.ml (vs4 q.M q.uM) q.em 0 (v1.a 2) (.str (S m) (q.uM.at 0))) fun v9=>yd 0 [] [5] [] (lexS1 w m (q.uM.at 0)) fun v10=>yd 0 [] [16,17,18] [19,20,21,22,23,24] (tokS w (nLx v10) 1 (v10.a 19) m (fun i=>v10.a (i+31)) (v10.a 20) 0 [45] l1 l1n) fun v11=>yc [] (neSS [45] [45] (v11.a 4) (v11.a 1) false) fun v12=>yd 1 [0,1,2] [25,26,27,16,17,18] [12,4,19,20,21,22,23,24] (c2S w q.L (v12.a 0) (v12.a 0+1) (v12.a 0+2) (v2.a 0+1) q.cl (nn+1) (fun i=>v3.a (i+3)) (v3.a 2) (nLx v10) l1n (v11.a 2) l1 (fun i=>v11.a (i+5)) (v11.a 3) 0 l2 l2n s) fun v13=>yd 1 [0,1,2] [28,29,30] [12,3,10] (c3S w q.L (v13.a 0) (v13.a 0+1) (v13.a 0+2) (v2.a 0+1) q.cx q.cs (nn+1) (fun i=>v3.a (i+3)) (v3.a 2) 0 (v1.a 2) q.sg q.ts s) fun v14=>.swap  (swF (sto 18 6) 5 (.ref q.it) (nmE q.L q.cl q.cx q.cw q.cs) .NotEq (v12.a 0+1) (v13.a 0+1)).t₀ (swF (sto 18 6) 5 (.ref q.it) (nmE q.L q.cl q.cx q.cw q.cs) .NotEq (v12.a 0+1) (v13.a 0+1)).t₁ <| yc [26,29] (lneS (v12.a 0+1) (v13.a 0+1) (cnams s (nn+1)) (fun b=>v13.f 0 b) (v13.a 2) (cnams s (nn+1)) (fun i=>v14.a (i+4)) (v14.a 2) false) fun v16=>yd 0 [] [16,17,18] [19,20,21,22,23,24] (tokES w (nLx v10) l2n (v13.a 3) l2 (fun i=>v13.a (i+6)) (v13.a 4) 0 l3n) fun v17=>yc [] (neSS [] [] (v17.a 4) (v17.a 1) false) fun v18=>yd 1 [] [] [12] (lenCS (v2.a 0+1) (cvals (nn+1) fun i=>v3.a (i+3)) (v3.a 2) (nn+1)) fun v19=>yd 1 [] [] [] (neIS l3n ((nn+1)+3) (v17.a 2) (v19.a 1+1) false) fun v20=>yd 0 [] [2] [] (bj q.nl [] eN (.ref (v12.a 0+1)) [.ref (v12.a 0+1)]) fun v21=>.nil) (fun n t=>xd (aP (by omega) (by decide) (by decide)) fun _=>xc (cntS_ok h.cnt) fun _=>xd (lrS_ok h.n6) fun _=>xc (ab (by omega) (by decide) h.gM) fun _=>xd (c1_all h.n6 (by omega) (by decide) h.gW h.wr0 h.wr1) fun _=>xc (jnS_ok hfl) fun _=>xc (addG_ok (by simp [opn]) (by rw [← h.eq]; have:=h.len; omega)) fun _=>xc (az (by rw [← h.eq]; simp)) fun _=>xc (ab (by omega) (by decide) h.gM) fun _=>xd (lexS1_ok (by omega) (by have:=h.len; omega)) fun _=>xd (aL (by omega) h.tok h.abc (by have:=h.len; omega)) fun _=>xc (az rfl) fun _=>xd (c2_all h.n6 (by omega) h.chain) fun _=>xd (c3_all h.n6 (by omega) (by decide) h.gs) fun _=>⟨swF_ok,⟨lne_same,fun v16=>⟨(h.fin _ _ _ _ _ _).mono (by omega),fun v17=>⟨az rfl,fun v18=>⟨aE (by rw [aD]; have:=h.n6; omega) (by rw [aD]; simp),fun v19=>⟨bc (by omega) (by rw [h.line]; simp),fun v20=>⟨aq (by simp) rfl,fun v21=>trivial⟩⟩⟩⟩⟩⟩⟩) (fun n t ω=>((fun v10 v12=>(it5 0 [] [0,1,2,3,4] [6,7,8,9,10,5,24] (ntS w q (q.fr10 w ((ω 2).v.a 1) ((ω 399).v.a 1) (.ref ((ω 1).v.a 0+1)) (.ref (v12.a 0+1))) 1 [.ref (v12.a 0+1)] (eN+1) (some (.int 0 ((ω 0).v.a 2))) (some (.ref (v10.a 2))) [] [(113,tabO (v10.a 9) (v10.a 10)),((v10.a 10),codeO (fun i=>v10.a (i+21)))] (fun _=>[]) (fun v=>[rdR (v.a 3) s1 n1 (fun b=>v.f 0 b) (v.a 4),rdR (v.a 5) s2 n2 (fun b=>v.f 1 b) (v.a 6),rdR (v.a 7) s3 n3 (fun b=>v.f 2 b) (v.a 8)]) (fun v=>[.ref (v12.a 0+1),.ref (v.a 3),.ref (v.a 5),.ref (v.a 7)])))) (ω 63).v (ω 143).v)) (fun n t ω=>H _ _ _ _ _ _ _ _ _ _ _) 310 [4,8,8,0,0,0,0,2,14,14,14,14,8,1,1,1,1,0,3,3,0,2,2,2,8,16,16,16,2,2,26,26,1,0,0,26,1,32,32,32,1,0,0,0,2,8,16,16,16,0,10,10,10,40,0,0,0,40,0,0,0,40,0,0,0,0,40,34,0,1,0,0,2,26,26,1,0,0,26,1,0,2,2,56,56,56,2,2,26,26,1,0,0,26,1,62,62,62,999,6,54,60,54,1,0,0,10,40,0,0,0,40,0,0,0,40,0,0,0,0,40,34,0,1,0,0,10,40,0,0,0,40,0,0,0,40,40,0,34,0,0,2,1,0,0,2,6,6,6,6,2] (fun n t ω vz=>((fun v10 v13=>nu [(vz.a 0),(vz.a 1),vz.a 2,(ω 143).v.a 0+1,v13.a 2,vz.a 3,vz.a 4,vz.a 5,vz.a 6,vz.a 7,vz.a 8,v10.a 9,v10.a 10] [(vz.2 0),(vz.2 1),(vz.2 2)] [vz.x 0,vz.x 1] ((fun i=>v10.a (i+21))) ((consG (fun b=>v13.f 0 b) vz.f))) (ω 63).v (ω 399).v)) [53,63,65,67,49]
end
theorem crow_eq (s:Nat):∀ n,rowsT s n=(aX (wrT s) n).flatten
  | 0=>rfl
  | n+1=>by
    show rowT s (n+2)++rowsT s n=crow (wrT s) (n+2)++(aX (wrT s) n).flatten
    rw [crow_eq s n]
    rfl
noncomputable def lastL (n:Nat):List Nat:=if n=0 then [10,13,10] else [10]
noncomputable def lastN (n:Nat):Int:=if n=0 then 1 else n+2
theorem nk_facts:∀ s∈abc8,∀ n<7,(((mailT s n).length≤700∧(mailT s n).all (fun c=>abc.contains c)=true)∧tokF 99 (mailT s n) 1=some ([45],(mailT s n).drop 2,1))∧chainF s n ((mailT s n).drop 2) 1=some (lastL n,lastN n):=by decide +kernel
theorem nk_of {q:Nq} {j:Int} {s n:Nat} (hs:s∈abc8) (hn:n≤6) (hc:aZ q.v j=n) (hj:0≤j∧j<4) (hM:q.M.at j=mailT s n) (hW:q.W.at j=wrT s) (hg:(seqIndex? j q.sg.length).bind (q.sg[·]?)=some s) :
    Nk q j (mailT s n) (wrT s) s n ((mailT s n).drop 2) (lastL n) 1 (lastN n) (n+3):=by
  obtain ⟨⟨⟨h1,h2⟩,h3⟩,h4⟩:=nk_facts s hs n (by omega)
  refine ⟨hc,hn,hM ▸ vs4_get hj.1 hj.2,hW ▸ vs4_get hj.1 hj.2,hg,?_,?_,?_,h1,fun c hcm=>?_,h3,h4,fun w X lt f ec ep=>?_,rfl⟩
  · unfold wrT; split <;> simp
  · unfold wrT; split <;> simp
  · unfold mailT; rw [crow_eq]
  · rw [List.all_eq_true] at h2
    simpa using h2 c hcm
  · unfold lastL lastN
    by_cases h0:n=0
    · rw [if_pos h0,if_pos h0]
      have e:((n:Int)+3)=1+1+1:=by omega
      rw [e]
      exact tokES_3 (by omega)
    · rw [if_neg h0,if_neg h0]
      have e:((n:Int)+3)=(n:Int)+2+1:=by omega
      rw [e]
      exact tokES_1 (by omega)
section
variable {w:World} {d:Nat} {q:Nq} {s0 n0 s1 n1 s2 n2 s3 n3:Nat} {eN:Nat} {cv lv:Option Value}
theorem nk_fl {j:Int} {m wr:List Nat} {s n:Nat} {l1 l2:List Nat} {a b c:Int} (h:Nk q j m wr s n l1 l2 a b c):(aX wr n).flatten.length≤1000:=by
  have:=h.len
  rw [h.eq,List.length_append] at this
  omega
theorem nt_all (hD:d≤160) {m0 w0 m1 w1 m2 w2 m3 w3 a0 a1 a2 a3 b0 b1 b2 b3:List Nat} {x0 x1 x2 x3 y0 y1 y2 y3 z0 z1 z2 z3:Int} (h0:Nk q 0 m0 w0 s0 n0 a0 b0 x0 y0 z0) (h1:Nk q 1 m1 w1 s1 n1 a1 b1 x1 y1 z1) (h2:Nk q 2 m2 w2 s2 n2 a2 b2 x2 y2 z2) (h3:Nk q 3 m3 w3 s3 n3 a3 b3 x3 y3 z3) :
    Ok w d (ntS w q (q.fr8 w) 0 [] eN cv none [(113,⟨.none,none,.fields #[],#[]⟩)] [] (fun v=>[(113,tabO (v.a 11) (v.a 12))]) (fun v=>[rdR (v.a 3) s0 n0 (fun b=>v.f 0 b) (v.a 4),rdR (v.a 5) s1 n1 (fun b=>v.f 1 b) (v.a 6),rdR (v.a 7) s2 n2 (fun b=>v.f 2 b) (v.a 8),rdR (v.a 9) s3 n3 (fun b=>v.f 3 b) (v.a 10),(v.a 12,codeO fun i=>v.a (i+13))]) (fun v=>[.ref (v.a 3),.ref (v.a 5),.ref (v.a 7),.ref (v.a 9)])):=by
  have H3:∀ ki kj ct rd (a0 a1 a2:Addr) eN cv lv c1 c2 cq,Ok w d (ntS w q (q.fr10 w ki kj ct rd) 3 [.ref a0,.ref a1,.ref a2] eN cv lv [] [(113,tabO c1 c2),(c2,codeO cq)] (fun _=>[]) (fun v=>[rdR (v.a 3) s3 n3 (fun b=>v.f 0 b) (v.a 4)]) (fun v=>[.ref a0,.ref a1,.ref a2,.ref (v.a 3)])):=fun ki kj ct rd a0 a1 a2 eN cv lv c1 c2 cq=>by
    cases n3 with
    | zero=>exact nt_3_0 hD h3 (nk_fl h3)
    | succ n=>exact nt_3_1 hD h3 (nk_fl h3)
  have H2:∀ ki kj ct rd (a0 a1:Addr) eN cv lv c1 c2 cq,Ok w d (ntS w q (q.fr10 w ki kj ct rd) 2 [.ref a0,.ref a1] eN cv lv [] [(113,tabO c1 c2),(c2,codeO cq)] (fun _=>[]) (fun v=>[rdR (v.a 3) s2 n2 (fun b=>v.f 0 b) (v.a 4),rdR (v.a 5) s3 n3 (fun b=>v.f 1 b) (v.a 6)]) (fun v=>[.ref a0,.ref a1,.ref (v.a 3),.ref (v.a 5)])):=fun ki kj ct rd a0 a1 eN cv lv c1 c2 cq=>by
    cases n2 with
    | zero=>exact nt_2_0 hD h2 (nk_fl h2) fun ki kj ct rd a eN cv lv=>H3 ki kj ct rd _ _ a eN cv lv _ _ _
    | succ n=>exact nt_2_1 hD h2 (nk_fl h2) fun ki kj ct rd a eN cv lv=>H3 ki kj ct rd _ _ a eN cv lv _ _ _
  have H1:∀ ki kj ct rd (a0:Addr) eN cv lv c1 c2 cq,Ok w d (ntS w q (q.fr10 w ki kj ct rd) 1 [.ref a0] eN cv lv [] [(113,tabO c1 c2),(c2,codeO cq)] (fun _=>[]) (fun v=>[rdR (v.a 3) s1 n1 (fun b=>v.f 0 b) (v.a 4),rdR (v.a 5) s2 n2 (fun b=>v.f 1 b) (v.a 6),rdR (v.a 7) s3 n3 (fun b=>v.f 2 b) (v.a 8)]) (fun v=>[.ref a0,.ref (v.a 3),.ref (v.a 5),.ref (v.a 7)])):=fun ki kj ct rd a0 eN cv lv c1 c2 cq=>by
    cases n1 with
    | zero=>exact nt_1_0 hD h1 (nk_fl h1) fun ki kj ct rd a eN cv lv=>H2 ki kj ct rd _ a eN cv lv _ _ _
    | succ n=>exact nt_1_1 hD h1 (nk_fl h1) fun ki kj ct rd a eN cv lv=>H2 ki kj ct rd _ a eN cv lv _ _ _
  cases n0 with
  | zero=>exact nt_0_0 hD h0 (nk_fl h0) fun ki kj ct rd a eN cv lv c1 c2 cq=>H1 ki kj ct rd a eN cv lv c1 c2 cq
  | succ n=>exact nt_0_1 hD h0 (nk_fl h0) fun ki kj ct rd a eN cv lv c1 c2 cq=>H1 ki kj ct rd a eN cv lv c1 c2 cq
end
theorem at_put4 {α:Type} {c:V4 α} {i x:Int} {y:α} (hi:0≤i∧i<4) (hx:0≤x∧x<4):(c.put i y).at x=if i=x then y else c.at x:=by
  rcases four hi.1 hi.2 with rfl | rfl | rfl | rfl <;> rcases four hx.1 hx.2 with rfl | rfl | rfl | rfl <;> rfl
noncomputable def mailsV (s:V4 Nat) (c:V4 Nat):V4 (List Nat):=⟨mailT s.a c.a,mailT s.b c.b,mailT s.c c.c,mailT s.d c.d⟩
noncomputable def wrV (s:V4 Nat):V4 (List Nat):=⟨wrT s.a,wrT s.b,wrT s.c,wrT s.d⟩
theorem mailsV_at {s c:V4 Nat} {i:Int} (h:0≤i∧i<4):(mailsV s c).at i=mailT (s.at i) (c.at i):=by
  rcases four h.1 h.2 with rfl | rfl | rfl | rfl <;> rfl
theorem wrV_at {s:V4 Nat} {i:Int} (h:0≤i∧i<4):(wrV s).at i=wrT (s.at i):=by
  rcases four h.1 h.2 with rfl | rfl | rfl | rfl <;> rfl
theorem mailsV_put {s c:V4 Nat} {i:Int} {n:Nat} (h:0≤i∧i<4):(mailsV s c).put i (mailT (s.at i) n)=mailsV s (c.put i n):=by
  rcases four h.1 h.2 with rfl | rfl | rfl | rfl <;> rfl
noncomputable def cntIt (v:V6 Int):Nat→Int→V4 Nat→V4 Nat
  | 0,_,c=>c
  | j+1,k,c=>cntIt v j (k+1) (c.put (v.at k) (c.at (v.at k)+1))
theorem mail_len:∀ s∈abc8,∀ n<7,(mailT s n).length≤100:=by decide +kernel
theorem mail_ne (s n:Nat):mailT s n≠[]:=by unfold mailT opn; simp
theorem wrT_ne (s:Nat):wrT s≠[]:=by unfold wrT; split <;> simp
theorem wrT_le (s:Nat):(wrT s).length≤2:=by unfold wrT; split <;> simp
section
variable {w:World} {d:Nat} {L cl cx cw cs it ml wl lw ln:Addr} {k:Tk} {sv:Value} {to:Tok} {v:V6 Int} {u:V6 Tok} {e:Nat} {X:V6 Int} {TX:V6 Tok} {e':Nat} {s4:V4 Nat} {uW:V4 Tok} {ew:Nat} {kv ev:Value}
theorem ml_loop (hD:d≤580) (hv:∀ i,0≤v.at i∧v.at i<4) (hs:∀ i,0≤i→i<4→s4.at i∈abc8):∀ (j:Nat) (cur:Int) (c:V4 Nat) (k:Tk) (uM:V4 Tok) (em:Nat) (cv:Value) (kv ev:Value),0≤cur→cur+j=6→(∀ i,0≤i→i<4→(c.at i:Int)≤cur) →
    Ok w d (mlS w L cl cx cw cs it ml wl lw ln k (frN7 w k lw ln sv to ml kv ev) sv to v u e X TX e' (wrV s4) uW ew cur j (mailsV s4 c) uM em (some cv) (mailsV s4 (cntIt v j cur c)))
  | 0,cur,c,k,uM,em,cv,kv,ev,_,_,_=>mlx (by omega)
  | j+1,cur,c,k,uM,em,cv,kv,ev,h0,h6,hc=>by
    have hx:=hv cur
    have hcx:=hc _ hx.1 hx.2
    have hsx:=hs _ hx.1 hx.2
    have hl:=mail_len _ hsx (c.at (v.at cur)) (by omega)
    have hl2:=wrT_le (s4.at (v.at cur))
    have z:=ml1 (w:=w) (d:=d) (L:=L) (cl:=cl) (cx:=cx) (cw:=cw) (cs:=cs) (it:=it) (ml:=ml) (wl:=wl) (lw:=lw) (ln:=ln) (k:=k) (sv:=sv) (to:=to) (v:=v) (u:=u) (e:=e) (X:=X) (TX:=TX) (e':=e') (W:=wrV s4) (uW:=uW) (ew:=ew) (cur:=cur) (rem:=(j+1:Nat)) (M:=mailsV s4 c) (uM:=uM) (em:=em) (cv:=some cv) (M':=mailsV s4 (cntIt v (j+1) cur c)) (x:=v.at cur) (q:=X.at cur) (m:=mailT (s4.at (v.at cur)) (c.at (v.at cur))) (wr:=wrT (s4.at (v.at cur))) (r:=mailT (s4.at (v.at cur)) (c.at (v.at cur)+1)) (kv:=kv) (ev:=ev) (by omega) ⟨by omega,by omega⟩ h0 (aI h0 (by omega)) (aI h0 (by omega)) hx (mailsV_at hx ▸ vs4_get hx.1 hx.2) (wrV_at hx ▸ vs4_get hx.1 hx.2) (mail_ne _ _) (wrT_ne _) (by omega)
      (fun tt=>qd_all (by omega) hsx (by omega) (fm3 _).1 (fm3 _).2)
    refine z fun kv ev cv kf kg u5 e5=>?_
    have e1:(((j+1:Nat):Int)-1)=(j:Int):=by omega
    rw [e1,mailsV_put hx]
    refine ml_loop hD hv hs j (cur+1) _ _ u5 e5 cv kv ev (by omega) (by omega) fun i h1 h2=>?_
    rw [at_put4 hx ⟨h1,h2⟩]
    split
    · omega
    · have:=hc i h1 h2
      omega
theorem ml_all (hD:d≤580) (hv:∀ i,0≤v.at i∧v.at i<4) (hs:∀ i,0≤i→i<4→s4.at i∈abc8) {uM:V4 Tok} {em:Nat} {cv:Option Value} :
    Ok w d (mlS w L cl cx cw cs it ml wl lw ln k (frN5 w k lw ln sv to ml) sv to v u e X TX e' (wrV s4) uW ew 0 6 (mailsV s4 ⟨0,0,0,0⟩) uM em cv (mailsV s4 (cntIt v 6 0 ⟨0,0,0,0⟩))):=by
  have hx:=hv 0
  have hz:∀ i:Int,(V4.mk 0 0 0 0).at i=0:=fun i=>by unfold V4.at sel4; split <;> rfl
  have hsx:=hs _ hx.1 hx.2
  have hl:=mail_len _ hsx ((V4.mk 0 0 0 0).at (v.at 0)) (by rw [hz]; omega)
  have hl2:=wrT_le (s4.at (v.at 0))
  refine ml0 (x:=v.at 0) (q:=X.at 0) (m:=mailT (s4.at (v.at 0)) ((V4.mk 0 0 0 0).at (v.at 0))) (wr:=wrT (s4.at (v.at 0))) (r:=mailT (s4.at (v.at 0)) ((V4.mk 0 0 0 0).at (v.at 0)+1)) (by omega) ⟨by omega,by omega⟩ (by omega) (aI (by omega) (by omega)) (aI (by omega) (by omega)) hx (mailsV_at hx ▸ vs4_get hx.1 hx.2) (wrV_at hx ▸ vs4_get hx.1 hx.2) (mail_ne _ _) (wrT_ne _) (by omega)
    (fun tt=>qd_all (by omega) hsx (by rw [hz]; omega) (fm3 _).1 (fm3 _).2) fun kv ev cv kf kg u5 e5=>?_
  rw [mailsV_put hx]
  refine ml_loop hD hv hs 5 (0+1) _ _ u5 e5 cv kv ev (by omega) (by omega) fun i h1 h2=>?_
  rw [at_put4 hx ⟨h1,h2⟩,hz,hz]
  split <;> omega
end
theorem cntIt_at {v:V6 Int} (hv:∀ i,0≤v.at i∧v.at i<4) {x:Int} (hx:0≤x∧x<4):∀ (j:Nat) (k:Int) (c:V4 Nat),(cntIt v j k c).at x=c.at x+((List.range j).countP fun (i:Nat)=>v.at (k+(i:Int))==x)
  | 0,_,_=>by simp [cntIt]
  | j+1,k,c=>by
    unfold cntIt
    rw [cntIt_at hv hx j,at_put4 (hv k) hx,List.range_succ_eq_map,List.countP_cons,List.countP_map]
    have e:∀ i:Nat,k+1+(i:Int)=k+((i.succ:Nat):Int):=fun i=>by push_cast; omega
    have e0:k+((0:Nat):Int)=k:=by omega
    simp only [Function.comp_def,e,e0]
    by_cases h:v.at k=x
    · simp [h]; omega
    · simp [h]
theorem cntIt_all {v:V6 Int} (hv:∀ i,0≤v.at i∧v.at i<4) {x:Int} (hx:0≤x∧x<4):(cntIt v 6 0 ⟨0,0,0,0⟩).at x=aZ v x:=by
  rw [cntIt_at hv hx]
  have hz:(V4.mk 0 0 0 0).at x=0:=by unfold V4.at sel4; split <;> rfl
  rw [hz,Nat.zero_add]
  rfl
theorem cntF_le (v:V6 Int) (x:Int):aZ v x≤6:=by
  unfold aZ
  exact List.countP_le_length
noncomputable def nqS (w:World) (q:Nq) (s4:V4 Nat) (cv:Option Value):Sm:=ntS w q (q.fr8 w) 0 [] 0 cv none [(113,⟨.none,none,.fields #[],#[]⟩)] [] (fun v=>[(113,tabO (v.a 11) (v.a 12))]) (fun v=>[rdR (v.a 3) s4.a (aZ q.v 0) (fun b=>v.f 0 b) (v.a 4),rdR (v.a 5) s4.b (aZ q.v 1) (fun b=>v.f 1 b) (v.a 6),rdR (v.a 7) s4.c (aZ q.v 2) (fun b=>v.f 2 b) (v.a 8),rdR (v.a 9) s4.d (aZ q.v 3) (fun b=>v.f 3 b) (v.a 10),(v.a 12,codeO fun i=>v.a (i+13))]) (fun v=>[.ref (v.a 3),.ref (v.a 5),.ref (v.a 7),.ref (v.a 9)])
theorem nq_ok {w:World} {d:Nat} {q:Nq} {s4:V4 Nat} {cv:Option Value} (hD:d≤160) (hv:∀ i,0≤q.v.at i∧q.v.at i<4) (hs:∀ i,0≤i→i<4→s4.at i∈abc8) (h1:q.M=mailsV s4 (cntIt q.v 6 0 ⟨0,0,0,0⟩):=by rfl) (h2:q.W=wrV s4:=by rfl) (h3:q.sg=[s4.a,s4.b,s4.c,s4.d]:=by rfl):Ok w d (nqS w q s4 cv):=by
  have key:∀ (j:Int) (s:Nat),0≤j∧j<4→s4.at j=s→([s4.a,s4.b,s4.c,s4.d]:List Nat)[j.toNat]?=some s→Nk q j (mailT s (aZ q.v j)) (wrT s) s (aZ q.v j) ((mailT s (aZ q.v j)).drop 2) (lastL (aZ q.v j)) 1 (lastN (aZ q.v j)) (aZ q.v j+3):=fun j s hj hsj hg=>by
    have e:=cntIt_all hv hj
    refine nk_of (hsj ▸ hs j hj.1 hj.2) (cntF_le _ _) rfl hj ?_ ?_ ?_
    · rw [h1,mailsV_at hj,e,hsj]
    · rw [h2,wrV_at hj,hsj]
    · rw [h3]
      have:seqIndex? j ([s4.a,s4.b,s4.c,s4.d]:List Nat).length=some j.toNat:=StrLaws.seqIndex_nonneg hj.1 (by simpa using hj.2)
      rw [this]
      exact hg
  exact nt_all hD (key 0 s4.a (by decide) rfl rfl) (key 1 s4.b (by decide) rfl rfl) (key 2 s4.c (by decide) rfl rfl) (key 3 s4.d (by decide) rfl rfl)
noncomputable def nmS (w:World) (lw ln:Addr) (s4:V4 Nat) (ts:Tok) (v:V6 Int) (u:V6 Tok) (e:Nat) (X:V6 Int) (TX:V6 Tok) (e':Nat):Sm where
  c:=.call (.ref 135) ⟨[.ref lw,.str (S [s4.a,s4.b,s4.c,s4.d]) ts,.ref ln],[]⟩
  mpre:=[(113,⟨.none,none,.fields #[],#[]⟩)]
  rpre:=[(lw,li6 v u e),(ln,li6 X TX e')]
  post v:=[(113,tabO (v.a 11) (v.a 12))]
  news o:=[(o.a 2,lst ⟨[.ref (o.a 3),.ref (o.a 5),.ref (o.a 7),.ref (o.a 9)]⟩ (o.a 13)),rdR (o.a 3) s4.a (aZ v 0) (fun b=>o.f 0 b) (o.a 4),rdR (o.a 5) s4.b (aZ v 1) (fun b=>o.f 1 b) (o.a 6),rdR (o.a 7) s4.c (aZ v 2) (fun b=>o.f 2 b) (o.a 8),rdR (o.a 9) s4.d (aZ v 3) (fun b=>o.f 3 b) (o.a 10),(o.a 12,codeO fun i=>o.a (i+14))]
  res o:=.ok (.ret (.ref (o.a 2)))
theorem nm_all {w:World} {d:Nat} {lw ln:Addr} {s4:V4 Nat} {ts:Tok} {v:V6 Int} {u:V6 Tok} {e:Nat} {X:V6 Int} {TX:V6 Tok} {e':Nat} (hD:d≤100) (hv:∀ i,0≤v.at i∧v.at i<4) (hs:∀ i,0≤i→i<4→s4.at i∈abc8) (ha:Asc [s4.a,s4.b,s4.c,s4.d]):Ok w d (nmS w lw ln s4 ts v u e X TX e'):=by
  refine yv (fun n t=>yd 0 [0,1,2,3,4,5] [] [] (itrS [s4.a,s4.b,s4.c,s4.d] ts) fun v1=>yd 0 [] [3,9,8] [5] (wrS w n (n+4) (n+3) (n+2) (n+1) (v1.a 2) (n+5) lw ln ⟨t,t+1,0,0,0,0,0,0,0⟩ (frN2 w ⟨t,t+1,0,0,0,0,0,0,0⟩ lw ln) [s4.a,s4.b,s4.c,s4.d] ts 0 [] (fun _=>0) 0 ([s4.a,s4.b,s4.c,s4.d].map wrT)) fun v2=>yd 4 [0,1,2] [3,12,10,6] [1,2,5,8] (mlS w n (n+4) (n+3) (n+2) (n+1) (v2.a 0+2) (v2.a 0) (n+5) lw ln ⟨t,t+1,v2.a 3,v2.a 1+1,v2.a 1+2,0,0,0,0⟩ (frN5 w ⟨t,t+1,v2.a 3,v2.a 1+1,v2.a 1+2,0,0,0,0⟩ lw ln (v2.x 0) (v2.a 1) (v2.a 0)) (v2.x 0) (v2.a 1) v u e X TX e' (wrV s4) ⟨v2.a 4,v2.a 5,v2.a 6,v2.a 7⟩ (v2.a 2) 0 6 (mailsV s4 ⟨0,0,0,0⟩) ⟨v2.a 1,v2.a 1,v2.a 1,v2.a 1⟩ 0 none (mailsV s4 (cntIt v 6 0 ⟨0,0,0,0⟩))) fun v3=>yd 4 [0,1,2] [3,15,13,6,7,0] [1,10,5,8,4] (nqS w ⟨n,n+4,n+3,n+2,n+1,v3.a 0+2,v2.a 0,n+5,lw,ln,v3.a 0,⟨t,t+1,v2.a 3,v2.a 1+1,v2.a 1+2,v3.a 3,v3.a 4,v3.a 1,0⟩,v2.x 0,v2.a 1,v3.x 0,v3.x 1,v,u,e,wrV s4,⟨v2.a 4,v2.a 5,v2.a 6,v2.a 7⟩,v2.a 2,mailsV s4 (cntIt v 6 0 ⟨0,0,0,0⟩),⟨v3.a 5,v3.a 6,v3.a 7,v3.a 8⟩,v3.a 2,[s4.a,s4.b,s4.c,s4.d],ts⟩ s4 (some (v3.x 2))) fun v4=>.nil) (fun n t=>xd (itrS_ok ha) fun _=>xd (wr_all (by omega) (by simp) (by simp)) fun _=>xd (ml_all (by omega) hv hs) fun _=>xd (nq_ok (by omega) hv hs) fun _=>trivial) 152 [0,0,0,1,1,3,3,0,1,1,1,5,5,3,1,0,0,20,0,8,8,8,8,8,8,0,8,8,0,0,3,3,3,3,3,3,1,0,0,3,3,3,3,5,0,8,8,0,0,3,3,3,3,3,3,1,0,0,3,3,3,3,5,8] (fun n t ω=>((fun v4=>nu [(v4.a 0),(v4.a 1),(ω 23).v.a 0,v4.a 3,v4.a 4,v4.a 5,v4.a 6,v4.a 7,v4.a 8,v4.a 9,v4.a 10,v4.a 11,v4.a 12,v4.a 2] [] [] ((fun i=>v4.a (i+13))) (v4.f)) (ω 87).v)) [27,33,35,37,39,41]
theorem aw {w:World} {D:Nat} {x y:List Nat} {t u:Tok} (hl:(x++y).length≤1000):Ok w D (a6 x y t u):=by
  by_cases hx:x=[]
  · subst hx
    have z:=gives_str_add (S []) (S y) t u
    refine ⟨fun _=>rfl,fun A st R C B K _ H=>codeAny_call_builtin F.slot_str_add.plain F.entry_str_add (F.slot_str_add.check _ _ _ _ _ _ _ _ (typeIs_str _ _ _) (F.args_str_add_2 _ _) ?_)⟩
    by_cases hy:y=[]
    · subst hy
      first
        | exact z PR w A R st (H _ (nu [st.heap.objs.size,st.toks,t]) (left0t (tk:=st.toks) rfl (fun _=>rfl) (fun _=>rfl) rfl))
        | exact z PR w A R st (H _ (nu [st.heap.objs.size,st.toks,u]) (left0t (tk:=st.toks) rfl (fun _=>rfl) (fun _=>rfl) rfl))
    · have h2:((S y).length==0)=false:=by
        cases y with
        | nil=>exact absurd rfl hy
        | cons=>rfl
      rw [h2] at z
      exact z PR w A R st (H _ (nu [st.heap.objs.size,st.toks,u]) (left0t (tk:=st.toks) rfl (fun _=>rfl) (fun _=>rfl) rfl))
  · exact addG_ok hx hl
noncomputable abbrev drE (L:Addr):Env:=envF 22 159 158 (S [95,108,97,119,95,100,114,101,115,115,101,100,46,60,108,111,99,97,108,115,62,46]) L []
structure Dq where
  L:Addr
  it:Addr
  lw:Addr
  k:Tk
  v:V6 Int
  u:V6 Tok
  e:Nat
  sg:List Nat
  ts:Tok
  i:Int
  ti:Tok
  j:Int
  tj:Tok
noncomputable def Dq.fr7 (q:Dq) (w:World) (T:List Nat) (tT:Tok) (F:List Nat) (tF:Tok) (b:Bool):Obj:=frm #[en w.params (S [119,111,114,100]) q.k.a (.ref q.lw),en w.params (S [115,105,103,110,115]) q.k.b (.str (S q.sg) q.ts),en w.params (S [105]) q.k.c (.int q.i q.ti),en w.params (S [106]) q.k.d (.int q.j q.tj),en w.params (S [116,101,120,116]) q.k.e (.str (S T) tT),en w.params (S [108,101,102,116]) q.k.f (.str (S F) tF),en w.params (S [104,105,100,100,101,110]) q.k.g (.bool b)] 7
noncomputable def Dq.fr9 (q:Dq) (w:World) (kx kp:Tok) (T:List Nat) (tT:Tok) (F:List Nat) (tF:Tok) (b:Bool) (xv pv:Value):Obj:=frm #[en w.params (S [119,111,114,100]) q.k.a (.ref q.lw),en w.params (S [115,105,103,110,115]) q.k.b (.str (S q.sg) q.ts),en w.params (S [105]) q.k.c (.int q.i q.ti),en w.params (S [106]) q.k.d (.int q.j q.tj),en w.params (S [116,101,120,116]) q.k.e (.str (S T) tT),en w.params (S [108,101,102,116]) q.k.f (.str (S F) tF),en w.params (S [104,105,100,100,101,110]) q.k.g (.bool b),en w.params (S [120]) kx xv,en w.params (S [112,105,101,99,101]) kp pv] 9
noncomputable def drS (w:World) (q:Dq) (fr:Obj) (k:Int) (T' F':List Nat) (b':Bool):Sm where
  c:=forC (sto 22 3) (.ref q.it) (drE q.L)
  mpre:=[(q.L,fr),(q.it,lit q.lw k)]
  rpre:=[(q.lw,li6 q.v q.u q.e)]
  post v:=[(q.L,q.fr9 w (v.a 2) (v.a 3) T' (v.a 4) F' (v.a 5) b' (v.x 0) (v.x 1)),(q.it,v.o 0)]
  news _:=[]
  res _:=.ok .next
section
variable {w:World} {d:Nat} {q:Dq} {T F T' F':List Nat} {tT tF kx kp:Tok} {xv pv:Value} {k x:Int} {tx:Tok} {c:Nat} {b':Bool}
theorem dr10i0 (hD:d≤640) (hk:0≤k) (g1:(vi6 q.v q.u)[k.toNat]?=some (.int x tx)) (h4:0≤x∧x<4) (g2:(seqIndex? x q.sg.length).bind (q.sg[·]?)=some c) (hl:T.length≤100∧F.length≤100) (hx:(x==q.i)=true) (he:(!(Builtin.Str.occurrences (S [34,92]) (S [c]) 0 (S [34,92]).length 1).isEmpty)=false)
    (H:∀ kx kp tT tF xv pv,Ok w d (drS w q (q.fr9 w kx kp (T++[c]) tT (F++[c]) tF false xv pv) (k+1) T' F' b')):Ok w d (drS w q (q.fr7 w T tT F tF false) k T' F' b'):=by
  refine yt (fun n t=>yd 0 [] [1] [2] (aK q.it q.lw k (vi6 q.v q.u) q.e (.int x tx)) fun v1=>yc [] (eqIS x q.i tx q.ti true) fun v2=>yc [] (ay q.sg x q.ts tx c) fun v3=>yc [] (bd [34,92] [c] (v3.a 1+1) (v3.a 2) false) fun v4=>yc [] (a6 T [c] tT (v3.a 2)) fun v5=>yc [] (a6 F [c] tF (v3.a 2)) fun v6=>.nil) (fun n t=>xd (aj (by omega) hk g1) fun _=>xc (ax (by omega) hx) fun _=>xc (af g2 (by omega)) fun _=>xc (aA he) fun _=>xc (aw (by simp; omega)) fun _=>xc (aw (by simp; omega)) fun _=>trivial) (fun n t ω=>((fun v3=>(it5 0 [] [0,1] [2] (drS w q (q.fr9 w ((ω 0).v.a 1) (v3.a 1) (T++[c]) ((ω 16).v.a 2) (F++[c]) ((ω 20).v.a 2) false (.int x tx) (.str (S [c]) (v3.a 2))) (k+1) T' F' b'))) (ω 8).v)) (fun n t ω=>H _ _ _ _ _ _) 74 [4,0,2,2,2,2,2,1,0,0,2,2,0,2,2,2,2,2,0,2,2,2,2,2,0,2,2]
theorem dr10i1 (hD:d≤640) (hk:0≤k) (g1:(vi6 q.v q.u)[k.toNat]?=some (.int x tx)) (h4:0≤x∧x<4) (g2:(seqIndex? x q.sg.length).bind (q.sg[·]?)=some c) (hl:T.length≤100∧F.length≤100) (hx:(x==q.i)=true) (he:(!(Builtin.Str.occurrences (S [34,92]) (S [c]) 0 (S [34,92]).length 1).isEmpty)=true)
    (H:∀ kx kp tT tF xv pv,Ok w d (drS w q (q.fr9 w kx kp (T++[92,c]) tT (F++[92,c]) tF false xv pv) (k+1) T' F' b')):Ok w d (drS w q (q.fr7 w T tT F tF false) k T' F' b'):=by
  refine yt (fun n t=>yd 0 [] [1] [2] (aK q.it q.lw k (vi6 q.v q.u) q.e (.int x tx)) fun v1=>yc [] (eqIS x q.i tx q.ti true) fun v2=>yc [] (ay q.sg x q.ts tx c) fun v3=>yc [] (bd [34,92] [c] (v3.a 1+1) (v3.a 2) true) fun v4=>yc [] (an [92] [c] (v4.a 1) (v3.a 2)) fun v5=>yc [] (a6 T [92,c] tT (v5.a 2)) fun v6=>yc [] (a6 F [92,c] tF (v5.a 2)) fun v7=>.nil) (fun n t=>xd (aj (by omega) hk g1) fun _=>xc (ax (by omega) hx) fun _=>xc (af g2 (by omega)) fun _=>xc (aA he) fun _=>xc (ad (by simp) (by simp) (by simp)) fun _=>xc (aw (by simp; omega)) fun _=>xc (aw (by simp; omega)) fun _=>trivial) (fun n t ω=>(it5 0 [] [0,1] [2] (drS w q (q.fr9 w ((ω 0).v.a 1) ((ω 8).v.a 1) (T++[92,c]) ((ω 20).v.a 2) (F++[92,c]) ((ω 24).v.a 2) false (.int x tx) (.str (S [92,c]) ((ω 16).v.a 2))) (k+1) T' F' b'))) (fun n t ω=>H _ _ _ _ _ _) 88 [4,0,2,2,2,2,2,1,0,0,2,2,0,2,2,2,2,0,2,2,2,2,0,2,2,2,2,2,0,2,2]
theorem dr10j0 (hD:d≤640) (hk:0≤k) (g1:(vi6 q.v q.u)[k.toNat]?=some (.int x tx)) (h4:0≤x∧x<4) (g2:(seqIndex? x q.sg.length).bind (q.sg[·]?)=some c) (hl:T.length≤100∧F.length≤100) (hx:(x==q.i)=false) (hy:(x==q.j)=true) (he:(!(Builtin.Str.occurrences (S [34,92]) (S [c]) 0 (S [34,92]).length 1).isEmpty)=false)
    (H:∀ kx kp tT tF xv pv,Ok w d (drS w q (q.fr9 w kx kp (T++[c]) tT (F++[c]) tF false xv pv) (k+1) T' F' b')):Ok w d (drS w q (q.fr7 w T tT F tF false) k T' F' b'):=by
  refine yt (fun n t=>yd 0 [] [1] [2] (aK q.it q.lw k (vi6 q.v q.u) q.e (.int x tx)) fun v1=>yc [] (eqIS x q.i tx q.ti false) fun v2=>yc [] (eqIS x q.j tx q.tj true) fun v3=>yc [] (ay q.sg x q.ts tx c) fun v4=>yc [] (bd [34,92] [c] (v4.a 1+1) (v4.a 2) false) fun v5=>yc [] (a6 T [c] tT (v4.a 2)) fun v6=>yc [] (a6 F [c] tF (v4.a 2)) fun v7=>.nil) (fun n t=>xd (aj (by omega) hk g1) fun _=>xc (ax (by omega) hx) fun _=>xc (ax (by omega) hy) fun _=>xc (af g2 (by omega)) fun _=>xc (aA he) fun _=>xc (aw (by simp; omega)) fun _=>xc (aw (by simp; omega)) fun _=>trivial) (fun n t ω=>((fun v4=>(it5 0 [] [0,1] [2] (drS w q (q.fr9 w ((ω 0).v.a 1) (v4.a 1) (T++[c]) ((ω 68).v.a 2) (F++[c]) ((ω 84).v.a 2) false (.int x tx) (.str (S [c]) (v4.a 2))) (k+1) T' F' b'))) (ω 36).v)) (fun n t ω=>H _ _ _ _ _ _) 81 [4,0,2,2,2,2,2,1,0,0,2,2,1,0,0,2,2,0,2,2,2,2,2,0,2,2,2,2,2,0,2,2]
theorem dr10j1 (hD:d≤640) (hk:0≤k) (g1:(vi6 q.v q.u)[k.toNat]?=some (.int x tx)) (h4:0≤x∧x<4) (g2:(seqIndex? x q.sg.length).bind (q.sg[·]?)=some c) (hl:T.length≤100∧F.length≤100) (hx:(x==q.i)=false) (hy:(x==q.j)=true) (he:(!(Builtin.Str.occurrences (S [34,92]) (S [c]) 0 (S [34,92]).length 1).isEmpty)=true)
    (H:∀ kx kp tT tF xv pv,Ok w d (drS w q (q.fr9 w kx kp (T++[92,c]) tT (F++[92,c]) tF false xv pv) (k+1) T' F' b')):Ok w d (drS w q (q.fr7 w T tT F tF false) k T' F' b'):=by
  refine yt (fun n t=>yd 0 [] [1] [2] (aK q.it q.lw k (vi6 q.v q.u) q.e (.int x tx)) fun v1=>yc [] (eqIS x q.i tx q.ti false) fun v2=>yc [] (eqIS x q.j tx q.tj true) fun v3=>yc [] (ay q.sg x q.ts tx c) fun v4=>yc [] (bd [34,92] [c] (v4.a 1+1) (v4.a 2) true) fun v5=>yc [] (an [92] [c] (v5.a 1) (v4.a 2)) fun v6=>yc [] (a6 T [92,c] tT (v6.a 2)) fun v7=>yc [] (a6 F [92,c] tF (v6.a 2)) fun v8=>.nil) (fun n t=>xd (aj (by omega) hk g1) fun _=>xc (ax (by omega) hx) fun _=>xc (ax (by omega) hy) fun _=>xc (af g2 (by omega)) fun _=>xc (aA he) fun _=>xc (ad (by simp) (by simp) (by simp)) fun _=>xc (aw (by simp; omega)) fun _=>xc (aw (by simp; omega)) fun _=>trivial) (fun n t ω=>(it5 0 [] [0,1] [2] (drS w q (q.fr9 w ((ω 0).v.a 1) ((ω 36).v.a 1) (T++[92,c]) ((ω 84).v.a 2) (F++[92,c]) ((ω 100).v.a 2) false (.int x tx) (.str (S [92,c]) ((ω 68).v.a 2))) (k+1) T' F' b'))) (fun n t ω=>H _ _ _ _ _ _) 95 [4,0,2,2,2,2,2,1,0,0,2,2,1,0,0,2,2,0,2,2,2,2,0,2,2,2,2,0,2,2,2,2,2,0,2,2]
theorem dr10n0 (hD:d≤640) (hk:0≤k) (g1:(vi6 q.v q.u)[k.toNat]?=some (.int x tx)) (h4:0≤x∧x<4) (g2:(seqIndex? x q.sg.length).bind (q.sg[·]?)=some c) (hl:T.length≤100∧F.length≤100) (hx:(x==q.i)=false) (hy:(x==q.j)=false) (he:(!(Builtin.Str.occurrences (S [34,92]) (S [c]) 0 (S [34,92]).length 1).isEmpty)=false)
    (H:∀ kx kp tT tF xv pv,Ok w d (drS w q (q.fr9 w kx kp ((T++[34])++[c]) tT F tF true xv pv) (k+1) T' F' b')):Ok w d (drS w q (q.fr7 w T tT F tF false) k T' F' b'):=by
  refine yt (fun n t=>yd 0 [] [1] [2] (aK q.it q.lw k (vi6 q.v q.u) q.e (.int x tx)) fun v1=>yc [] (eqIS x q.i tx q.ti false) fun v2=>yc [] (eqIS x q.j tx q.tj false) fun v3=>yc [] (a6 T [34] tT (v3.a 1)) fun v4=>yc [] (ay q.sg x q.ts tx c) fun v5=>yc [] (bd [34,92] [c] (v5.a 1+1) (v5.a 2) false) fun v6=>yc [] (a6 (T++[34]) [c] (v4.a 2) (v5.a 2)) fun v7=>.nil) (fun n t=>xd (aj (by omega) hk g1) fun _=>xc (ax (by omega) hx) fun _=>xc (ax (by omega) hy) fun _=>xc (aw (by simp; omega)) fun _=>xc (af g2 (by omega)) fun _=>xc (aA he) fun _=>xc (aw (by simp; omega)) fun _=>trivial) (fun n t ω=>((fun v5=>(it5 0 [] [0,1] [2] (drS w q (q.fr9 w ((ω 0).v.a 1) (v5.a 1) ((T++[34])++[c]) ((ω 84).v.a 2) F tF true (.int x tx) (.str (S [c]) (v5.a 2))) (k+1) T' F' b'))) (ω 52).v)) (fun n t ω=>H _ _ _ _ _ _) 91 [4,0,2,2,2,2,2,1,0,0,2,2,1,0,0,2,0,2,2,2,0,2,2,2,2,0,2,2,2,2,2,0,2,2,2]
theorem dr10n1 (hD:d≤640) (hk:0≤k) (g1:(vi6 q.v q.u)[k.toNat]?=some (.int x tx)) (h4:0≤x∧x<4) (g2:(seqIndex? x q.sg.length).bind (q.sg[·]?)=some c) (hl:T.length≤100∧F.length≤100) (hx:(x==q.i)=false) (hy:(x==q.j)=false) (he:(!(Builtin.Str.occurrences (S [34,92]) (S [c]) 0 (S [34,92]).length 1).isEmpty)=true)
    (H:∀ kx kp tT tF xv pv,Ok w d (drS w q (q.fr9 w kx kp ((T++[34])++[92,c]) tT F tF true xv pv) (k+1) T' F' b')):Ok w d (drS w q (q.fr7 w T tT F tF false) k T' F' b'):=by
  refine yt (fun n t=>yd 0 [] [1] [2] (aK q.it q.lw k (vi6 q.v q.u) q.e (.int x tx)) fun v1=>yc [] (eqIS x q.i tx q.ti false) fun v2=>yc [] (eqIS x q.j tx q.tj false) fun v3=>yc [] (a6 T [34] tT (v3.a 1)) fun v4=>yc [] (ay q.sg x q.ts tx c) fun v5=>yc [] (bd [34,92] [c] (v5.a 1+1) (v5.a 2) true) fun v6=>yc [] (an [92] [c] (v6.a 1) (v5.a 2)) fun v7=>yc [] (a6 (T++[34]) [92,c] (v4.a 2) (v7.a 2)) fun v8=>.nil) (fun n t=>xd (aj (by omega) hk g1) fun _=>xc (ax (by omega) hx) fun _=>xc (ax (by omega) hy) fun _=>xc (aw (by simp; omega)) fun _=>xc (af g2 (by omega)) fun _=>xc (aA he) fun _=>xc (ad (by simp) (by simp) (by simp)) fun _=>xc (aw (by simp; omega)) fun _=>trivial) (fun n t ω=>(it5 0 [] [0,1] [2] (drS w q (q.fr9 w ((ω 0).v.a 1) ((ω 52).v.a 1) ((T++[34])++[92,c]) ((ω 100).v.a 2) F tF true (.int x tx) (.str (S [92,c]) ((ω 84).v.a 2))) (k+1) T' F' b'))) (fun n t ω=>H _ _ _ _ _ _) 105 [4,0,2,2,2,2,2,1,0,0,2,2,1,0,0,2,0,2,2,2,0,2,2,2,2,0,2,2,2,2,0,2,2,2,2,0,2,2,2]
theorem dr00i0 (hD:d≤640) (hk:0≤k) (g1:(vi6 q.v q.u)[k.toNat]?=some (.int x tx)) (h4:0≤x∧x<4) (g2:(seqIndex? x q.sg.length).bind (q.sg[·]?)=some c) (hl:T.length≤100∧F.length≤100) (hx:(x==q.i)=true) (he:(!(Builtin.Str.occurrences (S [34,92]) (S [c]) 0 (S [34,92]).length 1).isEmpty)=false)
    (H:∀ kx kp tT tF xv pv,Ok w d (drS w q (q.fr9 w kx kp (T++[c]) tT (F++[c]) tF false xv pv) (k+1) T' F' b')):Ok w d (drS w q (q.fr9 w kx kp T tT F tF false xv pv) k T' F' b'):=by
  refine yt (fun n t=>yd 0 [] [1] [2] (aK q.it q.lw k (vi6 q.v q.u) q.e (.int x tx)) fun v1=>yc [] (eqIS x q.i tx q.ti true) fun v2=>yc [] (ay q.sg x q.ts tx c) fun v3=>yc [] (bd [34,92] [c] (v3.a 1+1) (v3.a 2) false) fun v4=>yc [] (a6 T [c] tT (v3.a 2)) fun v5=>yc [] (a6 F [c] tF (v3.a 2)) fun v6=>.nil) (fun n t=>xd (aj (by omega) hk g1) fun _=>xc (ax (by omega) hx) fun _=>xc (af g2 (by omega)) fun _=>xc (aA he) fun _=>xc (aw (by simp; omega)) fun _=>xc (aw (by simp; omega)) fun _=>trivial) (fun n t ω=>(it5 0 [] [0,1] [2] (drS w q (q.fr9 w kx kp (T++[c]) ((ω 16).v.a 2) (F++[c]) ((ω 20).v.a 2) false (.int x tx) (.str (S [c]) ((ω 8).v.a 2))) (k+1) T' F' b'))) (fun n t ω=>H _ _ _ _ _ _) 74 [4,0,2,2,2,2,2,1,0,0,2,2,0,2,2,2,2,2,0,2,2,2,2,2,0,2,2]
theorem dr00i1 (hD:d≤640) (hk:0≤k) (g1:(vi6 q.v q.u)[k.toNat]?=some (.int x tx)) (h4:0≤x∧x<4) (g2:(seqIndex? x q.sg.length).bind (q.sg[·]?)=some c) (hl:T.length≤100∧F.length≤100) (hx:(x==q.i)=true) (he:(!(Builtin.Str.occurrences (S [34,92]) (S [c]) 0 (S [34,92]).length 1).isEmpty)=true)
    (H:∀ kx kp tT tF xv pv,Ok w d (drS w q (q.fr9 w kx kp (T++[92,c]) tT (F++[92,c]) tF false xv pv) (k+1) T' F' b')):Ok w d (drS w q (q.fr9 w kx kp T tT F tF false xv pv) k T' F' b'):=by
  refine yt (fun n t=>yd 0 [] [1] [2] (aK q.it q.lw k (vi6 q.v q.u) q.e (.int x tx)) fun v1=>yc [] (eqIS x q.i tx q.ti true) fun v2=>yc [] (ay q.sg x q.ts tx c) fun v3=>yc [] (bd [34,92] [c] (v3.a 1+1) (v3.a 2) true) fun v4=>yc [] (an [92] [c] (v4.a 1) (v3.a 2)) fun v5=>yc [] (a6 T [92,c] tT (v5.a 2)) fun v6=>yc [] (a6 F [92,c] tF (v5.a 2)) fun v7=>.nil) (fun n t=>xd (aj (by omega) hk g1) fun _=>xc (ax (by omega) hx) fun _=>xc (af g2 (by omega)) fun _=>xc (aA he) fun _=>xc (ad (by simp) (by simp) (by simp)) fun _=>xc (aw (by simp; omega)) fun _=>xc (aw (by simp; omega)) fun _=>trivial) (fun n t ω=>(it5 0 [] [0,1] [2] (drS w q (q.fr9 w kx kp (T++[92,c]) ((ω 20).v.a 2) (F++[92,c]) ((ω 24).v.a 2) false (.int x tx) (.str (S [92,c]) ((ω 16).v.a 2))) (k+1) T' F' b'))) (fun n t ω=>H _ _ _ _ _ _) 88 [4,0,2,2,2,2,2,1,0,0,2,2,0,2,2,2,2,0,2,2,2,2,0,2,2,2,2,2,0,2,2]
theorem dr00j0 (hD:d≤640) (hk:0≤k) (g1:(vi6 q.v q.u)[k.toNat]?=some (.int x tx)) (h4:0≤x∧x<4) (g2:(seqIndex? x q.sg.length).bind (q.sg[·]?)=some c) (hl:T.length≤100∧F.length≤100) (hx:(x==q.i)=false) (hy:(x==q.j)=true) (he:(!(Builtin.Str.occurrences (S [34,92]) (S [c]) 0 (S [34,92]).length 1).isEmpty)=false)
    (H:∀ kx kp tT tF xv pv,Ok w d (drS w q (q.fr9 w kx kp (T++[c]) tT (F++[c]) tF false xv pv) (k+1) T' F' b')):Ok w d (drS w q (q.fr9 w kx kp T tT F tF false xv pv) k T' F' b'):=by
  refine yt (fun n t=>yd 0 [] [1] [2] (aK q.it q.lw k (vi6 q.v q.u) q.e (.int x tx)) fun v1=>yc [] (eqIS x q.i tx q.ti false) fun v2=>yc [] (eqIS x q.j tx q.tj true) fun v3=>yc [] (ay q.sg x q.ts tx c) fun v4=>yc [] (bd [34,92] [c] (v4.a 1+1) (v4.a 2) false) fun v5=>yc [] (a6 T [c] tT (v4.a 2)) fun v6=>yc [] (a6 F [c] tF (v4.a 2)) fun v7=>.nil) (fun n t=>xd (aj (by omega) hk g1) fun _=>xc (ax (by omega) hx) fun _=>xc (ax (by omega) hy) fun _=>xc (af g2 (by omega)) fun _=>xc (aA he) fun _=>xc (aw (by simp; omega)) fun _=>xc (aw (by simp; omega)) fun _=>trivial) (fun n t ω=>(it5 0 [] [0,1] [2] (drS w q (q.fr9 w kx kp (T++[c]) ((ω 68).v.a 2) (F++[c]) ((ω 84).v.a 2) false (.int x tx) (.str (S [c]) ((ω 36).v.a 2))) (k+1) T' F' b'))) (fun n t ω=>H _ _ _ _ _ _) 81 [4,0,2,2,2,2,2,1,0,0,2,2,1,0,0,2,2,0,2,2,2,2,2,0,2,2,2,2,2,0,2,2]
theorem dr00j1 (hD:d≤640) (hk:0≤k) (g1:(vi6 q.v q.u)[k.toNat]?=some (.int x tx)) (h4:0≤x∧x<4) (g2:(seqIndex? x q.sg.length).bind (q.sg[·]?)=some c) (hl:T.length≤100∧F.length≤100) (hx:(x==q.i)=false) (hy:(x==q.j)=true) (he:(!(Builtin.Str.occurrences (S [34,92]) (S [c]) 0 (S [34,92]).length 1).isEmpty)=true)
    (H:∀ kx kp tT tF xv pv,Ok w d (drS w q (q.fr9 w kx kp (T++[92,c]) tT (F++[92,c]) tF false xv pv) (k+1) T' F' b')):Ok w d (drS w q (q.fr9 w kx kp T tT F tF false xv pv) k T' F' b'):=by
  refine yt (fun n t=>yd 0 [] [1] [2] (aK q.it q.lw k (vi6 q.v q.u) q.e (.int x tx)) fun v1=>yc [] (eqIS x q.i tx q.ti false) fun v2=>yc [] (eqIS x q.j tx q.tj true) fun v3=>yc [] (ay q.sg x q.ts tx c) fun v4=>yc [] (bd [34,92] [c] (v4.a 1+1) (v4.a 2) true) fun v5=>yc [] (an [92] [c] (v5.a 1) (v4.a 2)) fun v6=>yc [] (a6 T [92,c] tT (v6.a 2)) fun v7=>yc [] (a6 F [92,c] tF (v6.a 2)) fun v8=>.nil) (fun n t=>xd (aj (by omega) hk g1) fun _=>xc (ax (by omega) hx) fun _=>xc (ax (by omega) hy) fun _=>xc (af g2 (by omega)) fun _=>xc (aA he) fun _=>xc (ad (by simp) (by simp) (by simp)) fun _=>xc (aw (by simp; omega)) fun _=>xc (aw (by simp; omega)) fun _=>trivial) (fun n t ω=>(it5 0 [] [0,1] [2] (drS w q (q.fr9 w kx kp (T++[92,c]) ((ω 84).v.a 2) (F++[92,c]) ((ω 100).v.a 2) false (.int x tx) (.str (S [92,c]) ((ω 68).v.a 2))) (k+1) T' F' b'))) (fun n t ω=>H _ _ _ _ _ _) 95 [4,0,2,2,2,2,2,1,0,0,2,2,1,0,0,2,2,0,2,2,2,2,0,2,2,2,2,0,2,2,2,2,2,0,2,2]
theorem dr00n0 (hD:d≤640) (hk:0≤k) (g1:(vi6 q.v q.u)[k.toNat]?=some (.int x tx)) (h4:0≤x∧x<4) (g2:(seqIndex? x q.sg.length).bind (q.sg[·]?)=some c) (hl:T.length≤100∧F.length≤100) (hx:(x==q.i)=false) (hy:(x==q.j)=false) (he:(!(Builtin.Str.occurrences (S [34,92]) (S [c]) 0 (S [34,92]).length 1).isEmpty)=false)
    (H:∀ kx kp tT tF xv pv,Ok w d (drS w q (q.fr9 w kx kp ((T++[34])++[c]) tT F tF true xv pv) (k+1) T' F' b')):Ok w d (drS w q (q.fr9 w kx kp T tT F tF false xv pv) k T' F' b'):=by
  refine yt (fun n t=>yd 0 [] [1] [2] (aK q.it q.lw k (vi6 q.v q.u) q.e (.int x tx)) fun v1=>yc [] (eqIS x q.i tx q.ti false) fun v2=>yc [] (eqIS x q.j tx q.tj false) fun v3=>yc [] (a6 T [34] tT (v3.a 1)) fun v4=>yc [] (ay q.sg x q.ts tx c) fun v5=>yc [] (bd [34,92] [c] (v5.a 1+1) (v5.a 2) false) fun v6=>yc [] (a6 (T++[34]) [c] (v4.a 2) (v5.a 2)) fun v7=>.nil) (fun n t=>xd (aj (by omega) hk g1) fun _=>xc (ax (by omega) hx) fun _=>xc (ax (by omega) hy) fun _=>xc (aw (by simp; omega)) fun _=>xc (af g2 (by omega)) fun _=>xc (aA he) fun _=>xc (aw (by simp; omega)) fun _=>trivial) (fun n t ω=>(it5 0 [] [0,1] [2] (drS w q (q.fr9 w kx kp ((T++[34])++[c]) ((ω 84).v.a 2) F tF true (.int x tx) (.str (S [c]) ((ω 52).v.a 2))) (k+1) T' F' b'))) (fun n t ω=>H _ _ _ _ _ _) 91 [4,0,2,2,2,2,2,1,0,0,2,2,1,0,0,2,0,2,2,2,0,2,2,2,2,0,2,2,2,2,2,0,2,2,2]
theorem dr00n1 (hD:d≤640) (hk:0≤k) (g1:(vi6 q.v q.u)[k.toNat]?=some (.int x tx)) (h4:0≤x∧x<4) (g2:(seqIndex? x q.sg.length).bind (q.sg[·]?)=some c) (hl:T.length≤100∧F.length≤100) (hx:(x==q.i)=false) (hy:(x==q.j)=false) (he:(!(Builtin.Str.occurrences (S [34,92]) (S [c]) 0 (S [34,92]).length 1).isEmpty)=true)
    (H:∀ kx kp tT tF xv pv,Ok w d (drS w q (q.fr9 w kx kp ((T++[34])++[92,c]) tT F tF true xv pv) (k+1) T' F' b')):Ok w d (drS w q (q.fr9 w kx kp T tT F tF false xv pv) k T' F' b'):=by
  refine yt (fun n t=>yd 0 [] [1] [2] (aK q.it q.lw k (vi6 q.v q.u) q.e (.int x tx)) fun v1=>yc [] (eqIS x q.i tx q.ti false) fun v2=>yc [] (eqIS x q.j tx q.tj false) fun v3=>yc [] (a6 T [34] tT (v3.a 1)) fun v4=>yc [] (ay q.sg x q.ts tx c) fun v5=>yc [] (bd [34,92] [c] (v5.a 1+1) (v5.a 2) true) fun v6=>yc [] (an [92] [c] (v6.a 1) (v5.a 2)) fun v7=>yc [] (a6 (T++[34]) [92,c] (v4.a 2) (v7.a 2)) fun v8=>.nil) (fun n t=>xd (aj (by omega) hk g1) fun _=>xc (ax (by omega) hx) fun _=>xc (ax (by omega) hy) fun _=>xc (aw (by simp; omega)) fun _=>xc (af g2 (by omega)) fun _=>xc (aA he) fun _=>xc (ad (by simp) (by simp) (by simp)) fun _=>xc (aw (by simp; omega)) fun _=>trivial) (fun n t ω=>(it5 0 [] [0,1] [2] (drS w q (q.fr9 w kx kp ((T++[34])++[92,c]) ((ω 100).v.a 2) F tF true (.int x tx) (.str (S [92,c]) ((ω 84).v.a 2))) (k+1) T' F' b'))) (fun n t ω=>H _ _ _ _ _ _) 105 [4,0,2,2,2,2,2,1,0,0,2,2,1,0,0,2,0,2,2,2,0,2,2,2,2,0,2,2,2,2,0,2,2,2,2,0,2,2,2]
theorem dr01i0 (hD:d≤640) (hk:0≤k) (g1:(vi6 q.v q.u)[k.toNat]?=some (.int x tx)) (h4:0≤x∧x<4) (g2:(seqIndex? x q.sg.length).bind (q.sg[·]?)=some c) (hl:T.length≤100∧F.length≤100) (hx:(x==q.i)=true) (he:(!(Builtin.Str.occurrences (S [34,92]) (S [c]) 0 (S [34,92]).length 1).isEmpty)=false)
    (H:∀ kx kp tT tF xv pv,Ok w d (drS w q (q.fr9 w kx kp ((T++[34])++[c]) tT (F++[c]) tF false xv pv) (k+1) T' F' b')):Ok w d (drS w q (q.fr9 w kx kp T tT F tF true xv pv) k T' F' b'):=by
  refine yt (fun n t=>yd 0 [] [1] [2] (aK q.it q.lw k (vi6 q.v q.u) q.e (.int x tx)) fun v1=>yc [] (eqIS x q.i tx q.ti true) fun v2=>yc [] (a6 T [34] tT (v2.a 1)) fun v3=>yc [] (ay q.sg x q.ts tx c) fun v4=>yc [] (bd [34,92] [c] (v4.a 1+1) (v4.a 2) false) fun v5=>yc [] (a6 (T++[34]) [c] (v3.a 2) (v4.a 2)) fun v6=>yc [] (a6 F [c] tF (v4.a 2)) fun v7=>.nil) (fun n t=>xd (aj (by omega) hk g1) fun _=>xc (ax (by omega) hx) fun _=>xc (aw (by simp; omega)) fun _=>xc (af g2 (by omega)) fun _=>xc (aA he) fun _=>xc (aw (by simp; omega)) fun _=>xc (aw (by simp; omega)) fun _=>trivial) (fun n t ω=>(it5 0 [] [0,1] [2] (drS w q (q.fr9 w kx kp ((T++[34])++[c]) ((ω 20).v.a 2) (F++[c]) ((ω 24).v.a 2) false (.int x tx) (.str (S [c]) ((ω 12).v.a 2))) (k+1) T' F' b'))) (fun n t ω=>H _ _ _ _ _ _) 98 [4,0,2,2,2,2,2,1,0,0,2,0,2,2,2,0,2,2,2,2,0,2,2,2,2,2,0,2,2,2,2,2,0,2,2]
theorem dr01i1 (hD:d≤640) (hk:0≤k) (g1:(vi6 q.v q.u)[k.toNat]?=some (.int x tx)) (h4:0≤x∧x<4) (g2:(seqIndex? x q.sg.length).bind (q.sg[·]?)=some c) (hl:T.length≤100∧F.length≤100) (hx:(x==q.i)=true) (he:(!(Builtin.Str.occurrences (S [34,92]) (S [c]) 0 (S [34,92]).length 1).isEmpty)=true)
    (H:∀ kx kp tT tF xv pv,Ok w d (drS w q (q.fr9 w kx kp ((T++[34])++[92,c]) tT (F++[92,c]) tF false xv pv) (k+1) T' F' b')):Ok w d (drS w q (q.fr9 w kx kp T tT F tF true xv pv) k T' F' b'):=by
  refine yt (fun n t=>yd 0 [] [1] [2] (aK q.it q.lw k (vi6 q.v q.u) q.e (.int x tx)) fun v1=>yc [] (eqIS x q.i tx q.ti true) fun v2=>yc [] (a6 T [34] tT (v2.a 1)) fun v3=>yc [] (ay q.sg x q.ts tx c) fun v4=>yc [] (bd [34,92] [c] (v4.a 1+1) (v4.a 2) true) fun v5=>yc [] (an [92] [c] (v5.a 1) (v4.a 2)) fun v6=>yc [] (a6 (T++[34]) [92,c] (v3.a 2) (v6.a 2)) fun v7=>yc [] (a6 F [92,c] tF (v6.a 2)) fun v8=>.nil) (fun n t=>xd (aj (by omega) hk g1) fun _=>xc (ax (by omega) hx) fun _=>xc (aw (by simp; omega)) fun _=>xc (af g2 (by omega)) fun _=>xc (aA he) fun _=>xc (ad (by simp) (by simp) (by simp)) fun _=>xc (aw (by simp; omega)) fun _=>xc (aw (by simp; omega)) fun _=>trivial) (fun n t ω=>(it5 0 [] [0,1] [2] (drS w q (q.fr9 w kx kp ((T++[34])++[92,c]) ((ω 24).v.a 2) (F++[92,c]) ((ω 28).v.a 2) false (.int x tx) (.str (S [92,c]) ((ω 20).v.a 2))) (k+1) T' F' b'))) (fun n t ω=>H _ _ _ _ _ _) 112 [4,0,2,2,2,2,2,1,0,0,2,0,2,2,2,0,2,2,2,2,0,2,2,2,2,0,2,2,2,2,0,2,2,2,2,2,0,2,2]
theorem dr01j0 (hD:d≤640) (hk:0≤k) (g1:(vi6 q.v q.u)[k.toNat]?=some (.int x tx)) (h4:0≤x∧x<4) (g2:(seqIndex? x q.sg.length).bind (q.sg[·]?)=some c) (hl:T.length≤100∧F.length≤100) (hx:(x==q.i)=false) (hy:(x==q.j)=true) (he:(!(Builtin.Str.occurrences (S [34,92]) (S [c]) 0 (S [34,92]).length 1).isEmpty)=false)
    (H:∀ kx kp tT tF xv pv,Ok w d (drS w q (q.fr9 w kx kp ((T++[34])++[c]) tT (F++[c]) tF false xv pv) (k+1) T' F' b')):Ok w d (drS w q (q.fr9 w kx kp T tT F tF true xv pv) k T' F' b'):=by
  refine yt (fun n t=>yd 0 [] [1] [2] (aK q.it q.lw k (vi6 q.v q.u) q.e (.int x tx)) fun v1=>yc [] (eqIS x q.i tx q.ti false) fun v2=>yc [] (eqIS x q.j tx q.tj true) fun v3=>yc [] (a6 T [34] tT (v3.a 1)) fun v4=>yc [] (ay q.sg x q.ts tx c) fun v5=>yc [] (bd [34,92] [c] (v5.a 1+1) (v5.a 2) false) fun v6=>yc [] (a6 (T++[34]) [c] (v4.a 2) (v5.a 2)) fun v7=>yc [] (a6 F [c] tF (v5.a 2)) fun v8=>.nil) (fun n t=>xd (aj (by omega) hk g1) fun _=>xc (ax (by omega) hx) fun _=>xc (ax (by omega) hy) fun _=>xc (aw (by simp; omega)) fun _=>xc (af g2 (by omega)) fun _=>xc (aA he) fun _=>xc (aw (by simp; omega)) fun _=>xc (aw (by simp; omega)) fun _=>trivial) (fun n t ω=>(it5 0 [] [0,1] [2] (drS w q (q.fr9 w kx kp ((T++[34])++[c]) ((ω 84).v.a 2) (F++[c]) ((ω 100).v.a 2) false (.int x tx) (.str (S [c]) ((ω 52).v.a 2))) (k+1) T' F' b'))) (fun n t ω=>H _ _ _ _ _ _) 105 [4,0,2,2,2,2,2,1,0,0,2,2,1,0,0,2,0,2,2,2,0,2,2,2,2,0,2,2,2,2,2,0,2,2,2,2,2,0,2,2]
theorem dr01j1 (hD:d≤640) (hk:0≤k) (g1:(vi6 q.v q.u)[k.toNat]?=some (.int x tx)) (h4:0≤x∧x<4) (g2:(seqIndex? x q.sg.length).bind (q.sg[·]?)=some c) (hl:T.length≤100∧F.length≤100) (hx:(x==q.i)=false) (hy:(x==q.j)=true) (he:(!(Builtin.Str.occurrences (S [34,92]) (S [c]) 0 (S [34,92]).length 1).isEmpty)=true)
    (H:∀ kx kp tT tF xv pv,Ok w d (drS w q (q.fr9 w kx kp ((T++[34])++[92,c]) tT (F++[92,c]) tF false xv pv) (k+1) T' F' b')):Ok w d (drS w q (q.fr9 w kx kp T tT F tF true xv pv) k T' F' b'):=by
  refine yt (fun n t=>yd 0 [] [1] [2] (aK q.it q.lw k (vi6 q.v q.u) q.e (.int x tx)) fun v1=>yc [] (eqIS x q.i tx q.ti false) fun v2=>yc [] (eqIS x q.j tx q.tj true) fun v3=>yc [] (a6 T [34] tT (v3.a 1)) fun v4=>yc [] (ay q.sg x q.ts tx c) fun v5=>yc [] (bd [34,92] [c] (v5.a 1+1) (v5.a 2) true) fun v6=>yc [] (an [92] [c] (v6.a 1) (v5.a 2)) fun v7=>yc [] (a6 (T++[34]) [92,c] (v4.a 2) (v7.a 2)) fun v8=>yc [] (a6 F [92,c] tF (v7.a 2)) fun v9=>.nil) (fun n t=>xd (aj (by omega) hk g1) fun _=>xc (ax (by omega) hx) fun _=>xc (ax (by omega) hy) fun _=>xc (aw (by simp; omega)) fun _=>xc (af g2 (by omega)) fun _=>xc (aA he) fun _=>xc (ad (by simp) (by simp) (by simp)) fun _=>xc (aw (by simp; omega)) fun _=>xc (aw (by simp; omega)) fun _=>trivial) (fun n t ω=>(it5 0 [] [0,1] [2] (drS w q (q.fr9 w kx kp ((T++[34])++[92,c]) ((ω 100).v.a 2) (F++[92,c]) ((ω 116).v.a 2) false (.int x tx) (.str (S [92,c]) ((ω 84).v.a 2))) (k+1) T' F' b'))) (fun n t ω=>H _ _ _ _ _ _) 119 [4,0,2,2,2,2,2,1,0,0,2,2,1,0,0,2,0,2,2,2,0,2,2,2,2,0,2,2,2,2,0,2,2,2,2,0,2,2,2,2,2,0,2,2]
theorem dr01n0 (hD:d≤640) (hk:0≤k) (g1:(vi6 q.v q.u)[k.toNat]?=some (.int x tx)) (h4:0≤x∧x<4) (g2:(seqIndex? x q.sg.length).bind (q.sg[·]?)=some c) (hl:T.length≤100∧F.length≤100) (hx:(x==q.i)=false) (hy:(x==q.j)=false) (he:(!(Builtin.Str.occurrences (S [34,92]) (S [c]) 0 (S [34,92]).length 1).isEmpty)=false)
    (H:∀ kx kp tT tF xv pv,Ok w d (drS w q (q.fr9 w kx kp (T++[c]) tT F tF true xv pv) (k+1) T' F' b')):Ok w d (drS w q (q.fr9 w kx kp T tT F tF true xv pv) k T' F' b'):=by
  refine yt (fun n t=>yd 0 [] [1] [2] (aK q.it q.lw k (vi6 q.v q.u) q.e (.int x tx)) fun v1=>yc [] (eqIS x q.i tx q.ti false) fun v2=>yc [] (eqIS x q.j tx q.tj false) fun v3=>yc [] (ay q.sg x q.ts tx c) fun v4=>yc [] (bd [34,92] [c] (v4.a 1+1) (v4.a 2) false) fun v5=>yc [] (a6 T [c] tT (v4.a 2)) fun v6=>.nil) (fun n t=>xd (aj (by omega) hk g1) fun _=>xc (ax (by omega) hx) fun _=>xc (ax (by omega) hy) fun _=>xc (af g2 (by omega)) fun _=>xc (aA he) fun _=>xc (aw (by simp; omega)) fun _=>trivial) (fun n t ω=>(it5 0 [] [0,1] [2] (drS w q (q.fr9 w kx kp (T++[c]) ((ω 68).v.a 2) F tF true (.int x tx) (.str (S [c]) ((ω 36).v.a 2))) (k+1) T' F' b'))) (fun n t ω=>H _ _ _ _ _ _) 67 [4,0,2,2,2,2,2,1,0,0,2,2,1,0,0,2,2,0,2,2,2,2,2,0,2,2,2]
theorem dr01n1 (hD:d≤640) (hk:0≤k) (g1:(vi6 q.v q.u)[k.toNat]?=some (.int x tx)) (h4:0≤x∧x<4) (g2:(seqIndex? x q.sg.length).bind (q.sg[·]?)=some c) (hl:T.length≤100∧F.length≤100) (hx:(x==q.i)=false) (hy:(x==q.j)=false) (he:(!(Builtin.Str.occurrences (S [34,92]) (S [c]) 0 (S [34,92]).length 1).isEmpty)=true)
    (H:∀ kx kp tT tF xv pv,Ok w d (drS w q (q.fr9 w kx kp (T++[92,c]) tT F tF true xv pv) (k+1) T' F' b')):Ok w d (drS w q (q.fr9 w kx kp T tT F tF true xv pv) k T' F' b'):=by
  refine yt (fun n t=>yd 0 [] [1] [2] (aK q.it q.lw k (vi6 q.v q.u) q.e (.int x tx)) fun v1=>yc [] (eqIS x q.i tx q.ti false) fun v2=>yc [] (eqIS x q.j tx q.tj false) fun v3=>yc [] (ay q.sg x q.ts tx c) fun v4=>yc [] (bd [34,92] [c] (v4.a 1+1) (v4.a 2) true) fun v5=>yc [] (an [92] [c] (v5.a 1) (v4.a 2)) fun v6=>yc [] (a6 T [92,c] tT (v6.a 2)) fun v7=>.nil) (fun n t=>xd (aj (by omega) hk g1) fun _=>xc (ax (by omega) hx) fun _=>xc (ax (by omega) hy) fun _=>xc (af g2 (by omega)) fun _=>xc (aA he) fun _=>xc (ad (by simp) (by simp) (by simp)) fun _=>xc (aw (by simp; omega)) fun _=>trivial) (fun n t ω=>(it5 0 [] [0,1] [2] (drS w q (q.fr9 w kx kp (T++[92,c]) ((ω 84).v.a 2) F tF true (.int x tx) (.str (S [92,c]) ((ω 68).v.a 2))) (k+1) T' F' b'))) (fun n t ω=>H _ _ _ _ _ _) 81 [4,0,2,2,2,2,2,1,0,0,2,2,1,0,0,2,2,0,2,2,2,2,0,2,2,2,2,0,2,2,2]
theorem dr_x {b:Bool} (hD:d≤640):Ok w d (drS w q (q.fr9 w kx kp T tT F tF b xv pv) 6 T F b):=by
  refine yv (fun n t=>.nil) (fun n t=>trivial) 17 [4,4,4,4,6,4,4,3] (fun n t ω=>nu [(n+2),t,kx,kp,tT,tF] [⟨(.type "list_iterator"),none,.fields #[.none,(.int 6 0)],#[]⟩] [xv,pv])
end
structure Dst where
  T:List Nat
  F:List Nat
  b:Bool
noncomputable def aS (c:Nat):List Nat:=if c==34 || c==92 then [92,c] else [c]
noncomputable def drF (s4:V4 Nat) (i j x:Int) (s:Dst):Dst:=
  let t:=s.b==(x==i || x==j)
  let b:=if t then !s.b else s.b
  let p:=aS (s4.at x)
  ⟨(if t then s.T++[34] else s.T)++p,if b then s.F else s.F++p,b⟩
noncomputable def drIt (v:V6 Int) (s4:V4 Nat) (i j:Int):Nat→Int→Dst→Dst
  | 0,_,s=>s
  | n+1,k,s=>drIt v s4 i j n (k+1) (drF s4 i j (v.at k) s)
theorem piece_le (c:Nat):(aS c).length≤2:=by unfold aS; split <;> simp
theorem drF_le {s4:V4 Nat} {i j x:Int} {s:Dst}:(drF s4 i j x s).T.length≤s.T.length+3∧(drF s4 i j x s).F.length≤s.F.length+2:=by
  have:=piece_le (s4.at x)
  unfold drF
  dsimp only
  refine ⟨?_,?_⟩
  · rw [List.length_append]
    split <;> simp <;> omega
  · split <;> split <;> (try rw [List.length_append]) <;> omega
theorem has2 (c:Nat):(!(Builtin.Str.occurrences (S [34,92]) (S [c]) 0 (S [34,92]).length 1).isEmpty)=(c==34 || c==92):=by
  rw [occ_mem,Bool.eq_iff_iff,decide_eq_true_eq]
  simp
section
variable {w:World} {d:Nat} {q:Dq} {s4:V4 Nat} {tT tF kx kp:Tok} {xv pv:Value}
theorem sg_get {sg:List Nat} (hs:sg=[s4.a,s4.b,s4.c,s4.d]) {x:Int} (h:0≤x∧x<4):(seqIndex? x sg.length).bind (sg[·]?)=some (s4.at x):=by
  subst hs
  have:seqIndex? x ([s4.a,s4.b,s4.c,s4.d]:List Nat).length=some x.toNat:=StrLaws.seqIndex_nonneg h.1 (by simpa using h.2)
  rw [this]
  rcases four h.1 h.2 with rfl | rfl | rfl | rfl <;> rfl
theorem dr_turn {T F T' F':List Nat} {b b':Bool} {k:Int} (hD:d≤640) (hs:q.sg=[s4.a,s4.b,s4.c,s4.d]) (hv:∀ i,0≤q.v.at i∧q.v.at i<4) (hk:0≤k∧k<6) (hl:T.length≤100∧F.length≤100)
    (H:∀ kx kp tT tF xv pv,Ok w d (drS w q (q.fr9 w kx kp (drF s4 q.i q.j (q.v.at k) ⟨T,F,b⟩).T tT (drF s4 q.i q.j (q.v.at k) ⟨T,F,b⟩).F tF (drF s4 q.i q.j (q.v.at k) ⟨T,F,b⟩).b xv pv) (k+1) T' F' b')) :
    Ok w d (drS w q (q.fr9 w kx kp T tT F tF b xv pv) k T' F' b'):=by
  have g1:=aI (v:=q.v) (u:=q.u) hk.1 hk.2
  have h4:=hv k
  have g2:=sg_get hs h4
  have he:=has2 (s4.at (q.v.at k))
  unfold drF at H
  dsimp only at H
  unfold aS at H
  cases hx:(q.v.at k==q.i) with
  | true=>
    cases b <;> cases hE:(s4.at (q.v.at k)==34 || s4.at (q.v.at k)==92) <;> rw [hx,hE] at H <;> rw [hE] at he
    · exact dr00i0 hD hk.1 g1 h4 g2 hl hx he H
    · exact dr00i1 hD hk.1 g1 h4 g2 hl hx he H
    · exact dr01i0 hD hk.1 g1 h4 g2 hl hx he H
    · exact dr01i1 hD hk.1 g1 h4 g2 hl hx he H
  | false=>
    cases hy:(q.v.at k==q.j) <;> cases b <;> cases hE:(s4.at (q.v.at k)==34 || s4.at (q.v.at k)==92) <;> rw [hx,hy,hE] at H <;> rw [hE] at he
    · exact dr00n0 hD hk.1 g1 h4 g2 hl hx hy he H
    · exact dr00n1 hD hk.1 g1 h4 g2 hl hx hy he H
    · exact dr01n0 hD hk.1 g1 h4 g2 hl hx hy he H
    · exact dr01n1 hD hk.1 g1 h4 g2 hl hx hy he H
    · exact dr00j0 hD hk.1 g1 h4 g2 hl hx hy he H
    · exact dr00j1 hD hk.1 g1 h4 g2 hl hx hy he H
    · exact dr01j0 hD hk.1 g1 h4 g2 hl hx hy he H
    · exact dr01j1 hD hk.1 g1 h4 g2 hl hx hy he H
theorem dr_first {T' F':List Nat} {b':Bool} {k:Int} (hD:d≤640) (hs:q.sg=[s4.a,s4.b,s4.c,s4.d]) (hv:∀ i,0≤q.v.at i∧q.v.at i<4) (hk:0≤k∧k<6)
    (H:∀ kx kp tT tF xv pv,Ok w d (drS w q (q.fr9 w kx kp (drF s4 q.i q.j (q.v.at k) ⟨[],[],false⟩).T tT (drF s4 q.i q.j (q.v.at k) ⟨[],[],false⟩).F tF (drF s4 q.i q.j (q.v.at k) ⟨[],[],false⟩).b xv pv) (k+1) T' F' b')) :
    Ok w d (drS w q (q.fr7 w [] tT [] tF false) k T' F' b'):=by
  have g1:=aI (v:=q.v) (u:=q.u) hk.1 hk.2
  have h4:=hv k
  have g2:=sg_get hs h4
  have he:=has2 (s4.at (q.v.at k))
  have hl:([]:List Nat).length≤100∧([]:List Nat).length≤100:=by simp
  unfold drF at H
  dsimp only at H
  unfold aS at H
  cases hx:(q.v.at k==q.i) with
  | true=>
    cases hE:(s4.at (q.v.at k)==34 || s4.at (q.v.at k)==92) <;> rw [hx,hE] at H <;> rw [hE] at he
    · exact dr10i0 hD hk.1 g1 h4 g2 hl hx he H
    · exact dr10i1 hD hk.1 g1 h4 g2 hl hx he H
  | false=>
    cases hy:(q.v.at k==q.j) <;> cases hE:(s4.at (q.v.at k)==34 || s4.at (q.v.at k)==92) <;> rw [hx,hy,hE] at H <;> rw [hE] at he
    · exact dr10n0 hD hk.1 g1 h4 g2 hl hx hy he H
    · exact dr10n1 hD hk.1 g1 h4 g2 hl hx hy he H
    · exact dr10j0 hD hk.1 g1 h4 g2 hl hx hy he H
    · exact dr10j1 hD hk.1 g1 h4 g2 hl hx hy he H
theorem dr_loop (hD:d≤640) (hs:q.sg=[s4.a,s4.b,s4.c,s4.d]) (hv:∀ i,0≤q.v.at i∧q.v.at i<4):∀ (n:Nat) (k:Int) (s:Dst) (kx kp tT tF:Tok) (xv pv:Value),0≤k→k+n=6→s.T.length+3*n≤100→s.F.length+2*n≤100 →
    Ok w d (drS w q (q.fr9 w kx kp s.T tT s.F tF s.b xv pv) k (drIt q.v s4 q.i q.j n k s).T (drIt q.v s4 q.i q.j n k s).F (drIt q.v s4 q.i q.j n k s).b)
  | 0,k,s,kx,kp,tT,tF,xv,pv,h0,h6,_,_=>by
    obtain rfl:k=6:=by omega
    exact dr_x hD
  | n+1,k,s,kx,kp,tT,tF,xv,pv,h0,h6,hT,hF=>by
    obtain ⟨T,F,b⟩:=s
    have z:=drF_le (s4:=s4) (i:=q.i) (j:=q.j) (x:=q.v.at k) (s:=⟨T,F,b⟩)
    have hT:T.length+3*(n+1)≤100:=hT
    have hF:F.length+2*(n+1)≤100:=hF
    refine dr_turn hD hs hv ⟨h0,by omega⟩ ⟨by show T.length≤100; omega,by show F.length≤100; omega⟩ fun kx kp tT tF xv pv=>?_
    have z1:(drF s4 q.i q.j (q.v.at k) ⟨T,F,b⟩).T.length≤T.length+3:=z.1
    have z2:(drF s4 q.i q.j (q.v.at k) ⟨T,F,b⟩).F.length≤F.length+2:=z.2
    have hT:T.length+3*(n+1)≤100:=hT
    have hF:F.length+2*(n+1)≤100:=hF
    exact dr_loop hD hs hv n (k+1) (drF s4 q.i q.j (q.v.at k) ⟨T,F,b⟩) kx kp tT tF xv pv (by omega) (by omega) (by omega) (by omega)
theorem dr_all (hD:d≤640) (hs:q.sg=[s4.a,s4.b,s4.c,s4.d]) (hv:∀ i,0≤q.v.at i∧q.v.at i<4) :
    Ok w d (drS w q (q.fr7 w [] tT [] tF false) 0 (drIt q.v s4 q.i q.j 6 0 ⟨[],[],false⟩).T (drIt q.v s4 q.i q.j 6 0 ⟨[],[],false⟩).F (drIt q.v s4 q.i q.j 6 0 ⟨[],[],false⟩).b):=by
  have z:=drF_le (s4:=s4) (i:=q.i) (j:=q.j) (x:=q.v.at 0) (s:=⟨[],[],false⟩)
  refine dr_first hD hs hv ⟨by omega,by omega⟩ fun kx kp tT tF xv pv=>?_
  exact dr_loop hD hs hv 5 (0+1) (drF s4 q.i q.j (q.v.at 0) ⟨[],[],false⟩) kx kp tT tF xv pv (by omega) (by omega) (by simp at z; omega) (by simp at z; omega)
theorem dr_all' (hD:d≤640) (hs:q.sg=[s4.a,s4.b,s4.c,s4.d]) (hv:∀ i,0≤q.v.at i∧q.v.at i<4) {T F:List Nat} {b:Bool} (h:drIt q.v s4 q.i q.j 6 0 ⟨[],[],false⟩=⟨T,F,b⟩):Ok w d (drS w q (q.fr7 w [] tT [] tF false) 0 T F b):=by
  have z:=dr_all (w:=w) (d:=d) (tT:=tT) (tF:=tF) hD hs hv
  rw [h] at z
  exact z
end
noncomputable def drAS (lw:Addr) (v:V6 Int) (u:V6 Tok) (e:Nat) (sg:List Nat) (ts:Tok) (i:Int) (ti:Tok) (j:Int) (tj:Tok) (T F:List Nat):Sm where
  c:=.call (.ref 159) ⟨[.ref lw,.str (S sg) ts,.int i ti,.int j tj],[]⟩
  mpre:=[]
  rpre:=[(lw,li6 v u e)]
  post _:=[]
  news v:=[(v.a 2,⟨.type "tuple",none,.seq #[.str (S T) (v.a 3),.str (S F) (v.a 4)] 0,#[]⟩)]
  res v:=.ok (.ret (.ref (v.a 2)))
section
variable {w:World} {d:Nat} {lw:Addr} {v:V6 Int} {u:V6 Tok} {e:Nat} {s4:V4 Nat} {ts:Tok} {i:Int} {ti:Tok} {j:Int} {tj:Tok} {T F:List Nat}
theorem da_00 (hD:d≤580) (hv:∀ i,0≤v.at i∧v.at i<4) (hl:T.length≤100∧F.length≤100) (hp:((i+j).fmod 2==1)=false) (h:drIt v s4 i j 6 0 ⟨[],[],false⟩=⟨T,F,false⟩):Ok w d (drAS lw v u e [s4.a,s4.b,s4.c,s4.d] ts i ti j tj T F):=by
  refine yv (fun n t=>yd 1 [0,1] [1,2] [0] (drS w ⟨n,n+1,lw,⟨t,t+1,t+2,t+3,t+5,t+7,t+8,0,0⟩,v,u,e,[s4.a,s4.b,s4.c,s4.d],ts,i,ti,j,tj⟩ (Dq.fr7 ⟨n,n+1,lw,⟨t,t+1,t+2,t+3,t+5,t+7,t+8,0,0⟩,v,u,e,[s4.a,s4.b,s4.c,s4.d],ts,i,ti,j,tj⟩ w [] (t+4) [] (t+6) false) 0 T F false) fun v1=>yd 2 [] [] [] (eqIS ((i+j).fmod 2) 1 (v1.a 1+2) (v1.a 1+3) false) fun v2=>.nil) (fun n t=>xd (dr_all' (by omega) rfl hv h) fun _=>xd (ax (by omega) hp) fun _=>trivial) 93 [0,0,0,1,1,0,1,1,0,1,1,0,1,1,1,0,1,1,0,1,1,0,1,1,1,2,2,1,0,0,2,3,4,4,4,1,0,0,4,4] (fun n t ω=>((fun v1 v2=>nu [(v2.a 0+1),(v2.a 1),v2.a 0,(v1.a 4),(v1.a 5)] [] []) (ω 3).v (ω 19).v)) [0]
theorem da_01 (hD:d≤580) (hv:∀ i,0≤v.at i∧v.at i<4) (hl:T.length≤100∧F.length≤100) (hp:((i+j).fmod 2==1)=true) (h:drIt v s4 i j 6 0 ⟨[],[],false⟩=⟨T,F,false⟩):Ok w d (drAS lw v u e [s4.a,s4.b,s4.c,s4.d] ts i ti j tj (T++[34,40]) (F++[34,40])):=by
  refine yv (fun n t=>yd 1 [0,1] [1,2] [0] (drS w ⟨n,n+1,lw,⟨t,t+1,t+2,t+3,t+5,t+7,t+8,0,0⟩,v,u,e,[s4.a,s4.b,s4.c,s4.d],ts,i,ti,j,tj⟩ (Dq.fr7 ⟨n,n+1,lw,⟨t,t+1,t+2,t+3,t+5,t+7,t+8,0,0⟩,v,u,e,[s4.a,s4.b,s4.c,s4.d],ts,i,ti,j,tj⟩ w [] (t+4) [] (t+6) false) 0 T F false) fun v1=>yd 2 [] [] [] (eqIS ((i+j).fmod 2) 1 (v1.a 1+2) (v1.a 1+3) true) fun v2=>yc [] (a6 T [34,40] (v1.a 4) (v2.a 1)) fun v3=>yc [] (a6 F [34,40] (v1.a 5) (v3.a 1+1)) fun v4=>.nil) (fun n t=>xd (dr_all' (by omega) rfl hv h) fun _=>xd (ax (by omega) hp) fun _=>xc (aw (by simp; omega)) fun _=>xc (aw (by simp; omega)) fun _=>trivial) 119 [0,0,0,1,1,0,1,1,0,1,1,0,1,1,1,0,1,1,0,1,1,0,1,1,1,2,2,1,0,0,2,3,4,4,4,1,0,0,4,0,4,4,4,0,4,4,4,4] (fun n t ω=>((fun v4=>nu [(v4.a 0+1),(v4.a 1+1),v4.a 0,((ω 35).v.a 2),(v4.a 2)] [] []) (ω 51).v)) [0]
theorem da_10 (hD:d≤580) (hv:∀ i,0≤v.at i∧v.at i<4) (hl:T.length≤100∧F.length≤100) (hp:((i+j).fmod 2==1)=false) (h:drIt v s4 i j 6 0 ⟨[],[],false⟩=⟨T,F,true⟩):Ok w d (drAS lw v u e [s4.a,s4.b,s4.c,s4.d] ts i ti j tj (T++[34]) F):=by
  refine yv (fun n t=>yd 1 [0,1] [1,2] [0] (drS w ⟨n,n+1,lw,⟨t,t+1,t+2,t+3,t+5,t+7,t+8,0,0⟩,v,u,e,[s4.a,s4.b,s4.c,s4.d],ts,i,ti,j,tj⟩ (Dq.fr7 ⟨n,n+1,lw,⟨t,t+1,t+2,t+3,t+5,t+7,t+8,0,0⟩,v,u,e,[s4.a,s4.b,s4.c,s4.d],ts,i,ti,j,tj⟩ w [] (t+4) [] (t+6) false) 0 T F true) fun v1=>yc [] (a6 T [34] (v1.a 4) (v1.a 1)) fun v2=>yd 2 [] [] [] (eqIS ((i+j).fmod 2) 1 (v2.a 1+3) (v2.a 1+4) false) fun v3=>.nil) (fun n t=>xd (dr_all' (by omega) rfl hv h) fun _=>xc (aw (by simp; omega)) fun _=>xd (ax (by omega) hp) fun _=>trivial) 106 [0,0,0,1,1,0,1,1,0,1,1,0,1,1,1,0,1,1,0,1,1,0,1,1,1,2,2,1,0,0,2,3,4,4,0,4,4,4,4,1,0,0,4,4] (fun n t ω=>((fun v3=>nu [(v3.a 0+1),(v3.a 1),v3.a 0,((ω 7).v.a 2),((ω 3).v.a 5)] [] []) (ω 23).v)) [0]
theorem da_11 (hD:d≤580) (hv:∀ i,0≤v.at i∧v.at i<4) (hl:T.length≤100∧F.length≤100) (hp:((i+j).fmod 2==1)=true) (h:drIt v s4 i j 6 0 ⟨[],[],false⟩=⟨T,F,true⟩):Ok w d (drAS lw v u e [s4.a,s4.b,s4.c,s4.d] ts i ti j tj ((T++[34])++[34,40]) (F++[34,40])):=by
  refine yv (fun n t=>yd 1 [0,1] [1,2] [0] (drS w ⟨n,n+1,lw,⟨t,t+1,t+2,t+3,t+5,t+7,t+8,0,0⟩,v,u,e,[s4.a,s4.b,s4.c,s4.d],ts,i,ti,j,tj⟩ (Dq.fr7 ⟨n,n+1,lw,⟨t,t+1,t+2,t+3,t+5,t+7,t+8,0,0⟩,v,u,e,[s4.a,s4.b,s4.c,s4.d],ts,i,ti,j,tj⟩ w [] (t+4) [] (t+6) false) 0 T F true) fun v1=>yc [] (a6 T [34] (v1.a 4) (v1.a 1)) fun v2=>yd 2 [] [] [] (eqIS ((i+j).fmod 2) 1 (v2.a 1+3) (v2.a 1+4) true) fun v3=>yc [] (a6 (T++[34]) [34,40] (v2.a 2) (v3.a 1)) fun v4=>yc [] (a6 F [34,40] (v1.a 5) (v4.a 1+1)) fun v5=>.nil) (fun n t=>xd (dr_all' (by omega) rfl hv h) fun _=>xc (aw (by simp; omega)) fun _=>xd (ax (by omega) hp) fun _=>xc (aw (by simp; omega)) fun _=>xc (aw (by simp; omega)) fun _=>trivial) 132 [0,0,0,1,1,0,1,1,0,1,1,0,1,1,1,0,1,1,0,1,1,0,1,1,1,2,2,1,0,0,2,3,4,4,0,4,4,4,4,1,0,0,4,0,4,4,4,0,4,4,4,4] (fun n t ω=>((fun v5=>nu [(v5.a 0+1),(v5.a 1+1),v5.a 0,((ω 39).v.a 2),(v5.a 2)] [] []) (ω 55).v)) [0]
theorem drIt_le:∀ (n:Nat) (k:Int) (s:Dst),(drIt v s4 i j n k s).T.length≤s.T.length+3*n∧(drIt v s4 i j n k s).F.length≤s.F.length+2*n
  | 0,_,_=>⟨Nat.le_refl _,Nat.le_refl _⟩
  | n+1,k,s=>by
    have z:=drF_le (s4:=s4) (i:=i) (j:=j) (x:=v.at k) (s:=s)
    have y:=drIt_le n (k+1) (drF s4 i j (v.at k) s)
    have e:drIt v s4 i j (n+1) k s=drIt v s4 i j n (k+1) (drF s4 i j (v.at k) s):=rfl
    rw [e]
    omega
noncomputable def drT (v:V6 Int) (s4:V4 Nat) (i j:Int):List Nat × List Nat:=
  let s:=drIt v s4 i j 6 0 ⟨[],[],false⟩
  let z:=if (i+j).fmod 2==1 then [34,40] else []
  ((s.T++if s.b then [34] else [])++z,s.F++z)
theorem da_all (hD:d≤580) (hv:∀ i,0≤v.at i∧v.at i<4):Ok w d (drAS lw v u e [s4.a,s4.b,s4.c,s4.d] ts i ti j tj (drT v s4 i j).1 (drT v s4 i j).2):=by
  have hl:=drIt_le (v:=v) (s4:=s4) (i:=i) (j:=j) 6 0 ⟨[],[],false⟩
  unfold drT
  dsimp only
  generalize hr:drIt v s4 i j 6 0 ⟨[],[],false⟩=r at *
  obtain ⟨T,F,b⟩:=r
  have hl2:T.length≤100∧F.length≤100:=by
    have h1:T.length≤0+3*6:=hl.1
    have h2:F.length≤0+2*6:=hl.2
    omega
  clear hl
  cases b <;> cases hp:((i+j).fmod 2==1)
  · simpa using da_00 hD hv hl2 hp hr
  · simpa using da_01 hD hv hl2 hp hr
  · simpa using da_10 hD hv hl2 hp hr
  · simpa using da_11 hD hv hl2 hp hr
end
theorem runs_size {M:Model} {Γ:PySem.Ctx} {p:Pos} {t:Sem PySem.Fin} {fs:List Frame} {s s':Shared} {e:End} (h:Runs M Γ p t fs s e s'):s.heap.objs.size≤s'.heap.objs.size:=by
  induction h
  case alloc ih=>
    have ih:=ih
    simp only [Heap.size_push] at ih
    omega
  all_goals first
    | exact Nat.le_refl _
    | assumption
    | (rename_i ih; exact Nat.le_trans (Nat.le_of_eq (Heap.SameBut.update ..).1.symm) ih)
    | (rename_i h1 h2; exact Nat.le_trans h1 h2)
    | (rename_i h1 _ h2; exact Nat.le_trans h1 h2)
theorem codeAny_grow {M:Model} {A:Around} {c:Code} {R:Result→Shared→Prop} {s:Shared} (h:codeAny M A c R s):codeAny M A c (fun r s'=>R r s'∧s.heap.objs.size≤s'.heap.objs.size) s:=fun Γ p hc hΓ=>by
  obtain ⟨r,s',hr,hR⟩:=h Γ p hc hΓ
  exact ⟨r,s',hr,hR,runs_size hr⟩
theorem fnCodeA {w:World} {A:Around} {s:Shared} {R:Result→Shared→Prop} {id:String} {b:Builtin} {args:List Value} (hk:builtinKind id=none) (hp:plainId id=true) (hb:entryFor table id=some b) (ha:argsOk id ⟨args,[]⟩)
    (hc:wpAny (model PR w) A.in1 (b ⟨args,[]⟩) (fun fin s'=>match fin with
      | .done f=>R (.ok f) s'
      | .again c'=>c'.quiet=true∧codeAny (model PR w) A c' R s') (fun e s'=>R (.error e) s') s):codeAny (model PR w) A (.call (.builtin id) ⟨args,[]⟩) R s:=by
  refine codeAny_call_builtin hp hb ?_
  simp only [checkBuiltinCall,hk]
  cases hsig:Manifest.signature? id with
  | none=>exact wpAny_pure hc
  | some sig=>
    simp only [argsOk,hsig] at ha
    have h2:Bind.checkArgs id sig ⟨args,[]⟩=pure ():=ha
    show wpAny _ A.in1 (Bind.checkArgs id sig ⟨args,[]⟩) _ _ s
    rw [h2]; exact wpAny_pure hc
noncomputable def ba:List Int→(Nat→Nat)→List Value
  | [],_=>[]
  | x::l,f=>.int x (f 0)::ba l fun j=>f (j+1)
theorem tvals_length:∀ (l:List Int) (f:Nat→Nat),(ba l f).length=l.length
  | [],_=>rfl
  | _::l,f=>congrArg (·+1) (tvals_length l _)
theorem tvals_get:∀ (l:List Int) (f:Nat→Nat) (j:Nat),(ba l f)[j]?=(l[j]?).map fun a=>.int a (f j)
  | [],_,_=>by simp [ba]
  | a::l,f,0=>rfl
  | a::l,f,j+1=>tvals_get l (fun j=>f (j+1)) j
noncomputable def sumS (l:Addr) (ns:List Int) (f:Nat→Nat) (e:Nat) (r:Int):Sm where
  c:=bi "sum" [.ref l]
  mpre:=[]
  rpre:=[(l,lst ⟨ba ns f⟩ e)]
  post _:=[]
  news _:=[]
  res v:=.ok (.ret (.int r (v.a 2)))
theorem preSum_eq (ns:List Int):∀ n≤ns.length,preSum (fun i=>ns[i]?.getD 0) n=(ns.take n).sum
  | 0,_=>by simp [preSum]
  | n+1,h=>by
    have e:ns.take (n+1)=ns.take n++[ns[n]]:=by rw [List.take_succ_eq_append_getElem (by omega)]
    rw [e,List.sum_append]
    show preSum _ n+ns[n]?.getD 0=_
    rw [preSum_eq ns n (by omega),List.getElem?_eq_getElem (by omega)]
    simp
theorem sumS_ok {w:World} {D:Nat} {l:Addr} {ns:List Int} {f:Nat→Nat} {e:Nat}:Ok w D (sumS l ns f e ns.sum):=by
  refine ⟨fun _=>rfl,fun A st R C B K _ H=>?_⟩
  have ho:st.heap.get? l=some (lst ⟨ba ns f⟩ e):=K.head
  have hL:Heap.IsList st.heap l ⟨ba ns f⟩:=⟨_,ho,rfl,e,rfl⟩
  have hll:=Heap.lt_size ho
  refine codeAny_mono (codeAny_grow (R:=fun r s'=>∃ tk,r=.ok (.ret (.int ns.sum tk))∧(∀ b o,st.heap.get? b=some o→s'.heap.get? b=some o)∧s'.gens=st.gens∧s'.drawn=st.drawn∧s'.os=st.os) (fnCodeA F.kind_sum F.plain_sum F.entry_sum (F.args_sum1 _) ?_)) fun r s' h=>?_
  · unfold Builtin.«sum»
    simp only [List.length_cons,List.length_nil]
    rw [if_neg (by decide)]
    wp_walk using wpAny_pyIter_list hL
    refine wpAny_of_eq PySem.sub_int_str ?_
    wp_walk
    refine wpAny_of_eq PySem.sub_int_bytes ?_
    wp_walk
    refine wpAny_of_eq PySem.sub_int_bytearray ?_
    wp_walk
    have hz:(st.heap.push { cls:=.type "list_iterator",data:=.fields #[.ref l,.int 0 0] }).objs.size=st.heap.objs.size+1:=Heap.size_push ..
    have hne:l≠st.heap.objs.size:=Nat.ne_of_lt hll
    have W:=(Walks.list (prog:=PR) (w:=w) (A:=A.in1) C.handled st.heap.objs.size l hne ⟨ba ns f⟩).toS
    have hI:((st.heap.push { cls:=.type "list_iterator",data:=.fields #[.ref l,.int 0 0] }).push { cls:=.type "list",data:=.seq #[.int 0 st.toks] }).get? st.heap.objs.size=some { cls:=.type "list_iterator",data:=.fields #[.ref l,.int 0 0] }:=Heap.get?_push_of_some _ (Heap.get?_push_size _ rfl)
    have hl2:((st.heap.push { cls:=.type "list_iterator",data:=.fields #[.ref l,.int 0 0] }).push { cls:=.type "list",data:=.seq #[.int 0 st.toks] }).get? l=some (lst ⟨ba ns f⟩ e):=Heap.get?_push_of_some _ (Heap.get?_push_of_some _ ho)
    have hS:((st.heap.push { cls:=.type "list_iterator",data:=.fields #[.ref l,.int 0 0] }).push { cls:=.type "list",data:=.seq #[.int 0 st.toks] }).get? (st.heap.objs.size+1)=some { cls:=.type "list",data:=.seq #[.int 0 st.toks] }:=by
      rw [← hz]; exact Heap.get?_push_size _ rfl
    have hn:(⟨ba ns f⟩:Array Value).size=ns.length:=by show (ba ns f).length=_; rw [tvals_length]
    refine ⟨plainId_quiet F.plain_sum_loop _,?_⟩
    rw [hz]
    refine codeAny_sum_loopAnyS W (fun i=>ns[i]?.getD 0) (fun i v hv=>?_) (st.heap.objs.size+1) (fun hm=>by
      rcases List.mem_cons.mp hm with h | hm
      · exact absurd h (Nat.succ_ne_self _)
      · have h:=List.mem_singleton.mp hm
        exact absurd (h ▸ hll:st.heap.objs.size+1<st.heap.objs.size) (Nat.not_lt.mpr (Nat.le_succ _))) _ 0 _ st.toks 0 0 (.inl rfl) rfl (Nat.zero_le _) ⟨⟨_,hI,rfl,rfl⟩,⟨_,hl2,rfl,e,rfl⟩⟩ hS fun s' t' hm=>?_
    · have a:(⟨ba ns f⟩:Array Value)[i]?=(ba ns f)[i]?:=by simp
      rw [a,tvals_get] at hv
      cases hA:ns[i]? with
      | none=>rw [hA] at hv; cases hv
      | some a=>
        rw [hA] at hv
        injection hv with hv
        exact ⟨f i,by rw [← hv]; rfl⟩
    · refine ⟨t',?_,fun b o hb=>?_,hm.gens,hm.drawn,hm.os⟩
      · rw [hn,preSum_eq ns _ (Nat.le_refl _),List.take_length]
      · have hbl:=Heap.lt_size hb
        refine hm.heap b o (fun hmem=>?_) (Heap.get?_push_of_some _ (Heap.get?_push_of_some _ hb))
        rcases List.mem_cons.mp hmem with h | hmem
        · exact absurd (h ▸ hbl:st.heap.objs.size+1<st.heap.objs.size) (Nat.not_lt.mpr (Nat.le_succ _))
        · exact absurd (List.mem_singleton.mp hmem ▸ hbl:st.heap.objs.size<st.heap.objs.size) (Nat.lt_irrefl _)
  · obtain ⟨⟨tk,rfl,hk,hg,hd,hos⟩,hz⟩:=h
    exact H _ (nu [s'.heap.objs.size,s'.toks,tk]) ⟨⟨fun b o e _=>hk b o e,hz,hd,hos⟩,rfl,rfl,by simp [sumS,hg],fun _ h=>(nomatch h),fun _ h=>(nomatch h),List.nodup_nil⟩
noncomputable def pk (k:Int) (ns:List Int):List Int:=(sliceRange (sliceBounds (some k) none (some 6) ns.length).1 (sliceBounds (some k) none (some 6) ns.length).2.1 (sliceBounds (some k) none (some 6) ns.length).2.2).filterMap (ns[·]?)
theorem pick_tvals (ns:List Int) (f:Nat→Nat):∀ idx:List Nat,∃ g,idx.filterMap ((ba ns f)[·]?)=ba (idx.filterMap (ns[·]?)) g
  | []=>⟨fun _=>0,rfl⟩
  | i::idx=>by
    obtain ⟨g,hg⟩:=pick_tvals ns f idx
    cases h:ns[i]? with
    | none=>
      refine ⟨g,?_⟩
      rw [List.filterMap_cons,List.filterMap_cons,tvals_get,h]
      exact hg
    | some a=>
      refine ⟨fun j=>match j with | 0=>f i | j+1=>g j,?_⟩
      rw [List.filterMap_cons,List.filterMap_cons,tvals_get,h]
      show Value.int a (f i)::_=Value.int a (f i)::_
      rw [hg]
noncomputable def slO6 (k:Int) (uk u6:Tok):Obj:=⟨.type "slice",none,.fields #[.int k uk,.none,.int 6 u6],#[]⟩
noncomputable def slL (l sl:Addr) (ns:List Int) (f:Nat→Nat) (e:Nat) (k:Int) (uk u6:Tok):Sm where
  c:=bi "list.__getitem__" [.ref l,.ref sl]
  mpre:=[]
  rpre:=[(l,lst ⟨ba ns f⟩ e),(sl,slO6 k uk u6)]
  post _:=[]
  news v:=[(v.a 2,lst ⟨ba (pk k ns) fun j=>v.a (j+3)⟩ 0)]
  res v:=.ok (.ret (.ref (v.a 2)))
theorem slL_ok {w:World} {D:Nat} {l sl:Addr} {ns:List Int} {f:Nat→Nat} {e:Nat} {k:Int} {uk u6:Tok} (hn:ns.length≤1000):Ok w D (slL l sl ns f e k uk u6):=by
  refine ⟨fun _=>rfl,fun A st R C B K _ H=>?_⟩
  have ho:st.heap.get? l=some (lst ⟨ba ns f⟩ e):=K.head
  have hs:st.heap.get? sl=some (slO6 k uk u6):=K.tail.head
  have hTs:st.TypeIs (.ref sl) "slice":=⟨_,hs,rfl⟩
  have hz:(⟨ba ns f⟩:Array Value).size=ns.length:=by show (ba ns f).length=_; rw [tvals_length]
  refine codeAny_call_builtin F.slot_list_getitem.plain F.entry_list_getitem (F.slot_list_getitem.check _ _ _ _ _ _ _ _ ⟨_,ho,rfl⟩ (F.args_list_getitem_2 _ _) ?_)
  show wpAny _ _ (Builtin.List.listSubscript? (.ref sl) >>= _) _ _ st
  unfold Builtin.List.listSubscript?
  refine wpAny_bind (wpAny_bind (wpAny_specialOf hTs slice_no_index ?_))
  simp only [Option.isNone_none,if_true]
  refine wpAny_pure ?_
  show wpAny _ _ (typeOf (.ref sl) >>= _) _ _ st
  refine wpAny_bind (wpAny_typeOf hTs ?_)
  rw [if_neg (by decide),listSliceParts_eq]
  refine wpAny_bind (wpAny_bind (wpAny_field hs rfl (x:=.int 6 u6) rfl (wpAny_bind (wpAny_listPart (.int 6 u6) ?_))))
  rw [if_neg (show ¬ ((rawPart (some 6)==rawInt 0)=true) by decide)]
  refine wpAny_bind (wpAny_field hs rfl (x:=.int k uk) rfl (wpAny_bind (wpAny_listPart (.int k uk) ?_)))
  refine wpAny_bind (wpAny_field hs rfl (x:=.none) rfl (wpAny_bind (wpAny_listPart .none (wpAny_pure ?_))))
  refine wpAny_bind (m:=Builtin.List.listItems (.ref l)) ?_
  unfold Builtin.List.listItems
  refine wpAny_bind (wpAny_seqItems ho rfl (wpAny_pure ?_))
  refine wpAny_bind (wpAny_of_eq (sliceIndices_raw (some k) none (some 6) _ (by decide)) ?_)
  obtain ⟨g,hg⟩:=pick_tvals ns f (sliceRange (sliceBounds (some k) none (some 6) ns.length).1 (sliceBounds (some k) none (some 6) ns.length).2.1 (sliceBounds (some k) none (some 6) ns.length).2.2)
  have hle:=slicePick_size_le ⟨ba ns f⟩ (some k) none (some 6)
  have he:slicePick ⟨ba ns f⟩ (some k) none (some 6)=⟨ba (pk k ns) g⟩:=by
    unfold slicePick pk
    rw [hz]
    have a:∀ i:Nat,(⟨ba ns f⟩:Array Value)[i]?=(ba ns f)[i]?:=fun i=>by simp
    simp only [a]
    rw [hg]
  refine wpAny_bind (wpAny_newObj_type (wpAny_pure ?_) (Nat.le_trans hle (by rw [hz]; exact Nat.le_trans hn (by decide))))
  have hob:({ cls:=.type "list",data:=.seq (slicePick ⟨ba ns f⟩ (some k) none (some 6)) }:Obj)=lst ⟨ba (pk k ns) g⟩ 0:=by rw [he]
  have key:∀ ob:Obj,ob=lst ⟨ba (pk k ns) g⟩ 0→R (.ok (.ret (.ref st.heap.objs.size))) { st with heap:=st.heap.push ob }:=fun ob hob=>by
    subst hob
    refine H _ ⟨fun j=>match j with | 0=>st.heap.objs.size+1 | 1=>st.toks | 2=>st.heap.objs.size | j+3=>g j,fun _=>default,fun _=>.none,fun _ _=>0⟩ ⟨⟨fun b o e _=>Heap.get?_push_of_some _ e,Nat.le_of_lt (by rw [size_push']; exact Nat.lt_succ_self _),rfl,rfl⟩,by rw [size_push'],rfl,by simp [slL],fun _ h=>(nomatch h),fun y hy=>?_,?_⟩
    · rcases List.mem_singleton.mp hy with rfl
      exact ⟨Heap.get?_push_size _ rfl,Nat.le_refl _⟩
    · show List.Nodup [_]
      simp
  exact key _ hob
noncomputable def mlpS (it bs hl:Addr) (B:V6 Int) (u:V6 Tok) (k:Int) (b:Int) (t1 t2:Tok) (e:Nat) (m:Int):Sm where
  c:=.builtin "max.loop" ⟨[.ref it,.none,.ref bs],[]⟩
  mpre:=[(it,lit hl k),(bs,lst #[.int b t1,.int b t2] e)]
  rpre:=[(hl,li6 B u 6)]
  post v:=[(it,v.o 0),(bs,v.o 1)]
  news _:=[]
  res v:=.ok (.ret (.int m (v.a 2)))
section
variable {w:World} {d:Nat} {it bs hl:Addr} {B:V6 Int} {u:V6 Tok} {k b m:Int} {t1 t2:Tok} {e:Nat}
theorem mlp_t (hD:d≤600) (hk:0≤k∧k<6) (hb:B.at k>b) (H:∀ t1 t2 e,Ok w d (mlpS it bs hl B u (k+1) (B.at k) t1 t2 e m)):Ok w d (mlpS it bs hl B u k b t1 t2 e m):=by
  refine yt (fun n t=>yd 0 [] [0] [2] (aK it hl k (vi6 B u) 6 (.int (B.at k) (u.at k))) fun v1=>yc [] (gtIS (B.at k) b (u.at k) t2 true) fun v2=>.nil) (fun n t=>xd (aj (by omega) hk.1 (aI hk.1 hk.2)) fun _=>xc (gtIS_ok (by omega) (decide_eq_true hb)) fun _=>trivial) (fun n t ω=>(it5 0 [] [0,1] [2] (mlpS it bs hl B u (k+1) (B.at k) (u.at k) (u.at k) e m))) (fun n t ω=>H _ _ _) 11 [4,2,1,0,0,4,4,4]
theorem mlp_f (hD:d≤600) (hk:0≤k∧k<6) (hb:¬ B.at k>b) (H:∀ t1 t2 e,Ok w d (mlpS it bs hl B u (k+1) b t1 t2 e m)):Ok w d (mlpS it bs hl B u k b t1 t2 e m):=by
  refine yt (fun n t=>yd 0 [] [0] [2] (aK it hl k (vi6 B u) 6 (.int (B.at k) (u.at k))) fun v1=>yc [] (gtIS (B.at k) b (u.at k) t2 false) fun v2=>.nil) (fun n t=>xd (aj (by omega) hk.1 (aI hk.1 hk.2)) fun _=>xc (gtIS_ok (by omega) (decide_eq_false hb)) fun _=>trivial) (fun n t ω=>(it5 0 [] [0,1] [2] (mlpS it bs hl B u (k+1) b t1 t2 e m))) (fun n t ω=>H _ _ _) 8 [4,2,1,0,0]
theorem mlp_x (hD:d≤600):Ok w d (mlpS it bs hl B u 6 b t1 t2 e b):=by
  refine yv (fun n t=>.nil) (fun n t=>trivial) 20 [4,2,2,2,2,6,2,2,3,4,4,4] (fun n t ω=>nu [(n+2),t,t1] [⟨.type "list_iterator",none,.fields #[.none,.int 6 0],#[]⟩,lst #[] (e+1)] [])
noncomputable def maxIt (B:V6 Int):Nat→Int→Int→Int
  | 0,_,b=>b
  | n+1,k,b=>maxIt B n (k+1) (if B.at k>b then B.at k else b)
theorem mlp_loop (hD:d≤600):∀ (n:Nat) (k b:Int) (t1 t2:Tok) (e:Nat),0≤k→k+n=6→Ok w d (mlpS it bs hl B u k b t1 t2 e (maxIt B n k b))
  | 0,k,b,t1,t2,e,h0,h6=>by
    obtain rfl:k=6:=by omega
    exact mlp_x hD
  | n+1,k,b,t1,t2,e,h0,h6=>by
    unfold maxIt
    by_cases h:B.at k>b
    · rw [if_pos h]
      exact mlp_t hD ⟨h0,by omega⟩ h fun t1 t2 e=>mlp_loop hD n (k+1) _ t1 t2 e (by omega) (by omega)
    · rw [if_neg h]
      exact mlp_f hD ⟨h0,by omega⟩ h fun t1 t2 e=>mlp_loop hD n (k+1) _ t1 t2 e (by omega) (by omega)
noncomputable def mlp0S (it bs hl:Addr) (B:V6 Int) (u:V6 Tok) (m:Int):Sm where
  c:=.builtin "max.loop" ⟨[.ref it,.none,.ref bs],[]⟩
  mpre:=[(it,lit hl 0),(bs,lst #[] 0)]
  rpre:=[(hl,li6 B u 6)]
  post v:=[(it,v.o 0),(bs,v.o 1)]
  news _:=[]
  res v:=.ok (.ret (.int m (v.a 2)))
theorem mlp_0 (hD:d≤600) (H:∀ t1 t2 e,Ok w d (mlpS it bs hl B u 1 B.a t1 t2 e m)):Ok w d (mlp0S it bs hl B u m):=by
  refine yt (fun n t=>yd 0 [] [0] [2] (aK it hl 0 (vi6 B u) 6 (.int B.a u.a)) fun v1=>.nil) (fun n t=>xd (aj (by omega) (by decide) rfl) fun _=>trivial) (fun n t ω=>(it5 0 [] [0,1] [2] (mlpS it bs hl B u 1 B.a u.a u.a 1 m))) (fun n t ω=>H _ _ _) 6 [4,2,4,4,4]
noncomputable def mxS (hl:Addr) (B:V6 Int) (u:V6 Tok) (m:Int):Sm where
  c:=bi "max" [.ref hl]
  mpre:=[]
  rpre:=[(hl,li6 B u 6)]
  post _:=[]
  news _:=[]
  res v:=.ok (.ret (.int m (v.a 2)))
theorem mx_ok (hD:d≤600) (hm:maxIt B 5 1 B.a=m):Ok w d (mxS hl B u m):=by
  subst hm
  have H:∀ it bs,Ok w d (mlp0S it bs hl B u (maxIt B 5 1 B.a)):=fun it bs=>mlp_0 hD fun t1 t2 e=>mlp_loop hD 5 1 B.a t1 t2 e (by omega) (by omega)
  refine yt (fun n t=>.nil) (fun n t=>trivial) (fun n t ω=>(it5 0 [0,1] [1,2] [0] (mlp0S n (n+1) hl B u (maxIt B 5 1 B.a)))) (fun n t ω=>H _ _) 11 [2,2,1,0,0,2,1] (fun n t ω vz=>nu [(vz.a 0),(vz.a 1),vz.a 2] [] [])
end
noncomputable def lqual:Str:=S [108,97,119,46,60,108,111,99,97,108,115,62,46]
noncomputable def lE1 (dct L csc cow:Addr):Env:=⟨{ kind:=.function,names:=[(S [46,48],.local),(S [107],.local),(S [115,117,109],.globalImplicit),(S [111,119,110],.cell),(S [115,99,114,105,112,116],.cell)],isGenerator:=false,isCoroutine:=false },dct,3,[(S [115,99,114,105,112,116],csc),(S [111,119,110],cow)],lqual,none,.ref 163,some L,0⟩
noncomputable def ownV:V6 Int:=⟨108,205,478,272,43,429⟩
noncomputable def numF (ns:List Int) (k:Int):Int:=(ownV.at k+(pk k ns).sum).fmod 1000000
noncomputable def lnS (w:World) (L it acc dct csc cow sc ow:Addr) (ns:List Int) (f:Nat→Nat) (e:Nat) (u:V6 Tok):Sm where
  c:=.compStart (asgE (sto 23 1)) 0 (.ref it) (.ref acc) (lE1 dct L csc cow)
  mpre:=[(it,rangeO 0 6),(acc,lst #[] 0),(dct,aV)]
  rpre:=[(csc,aB (some (.ref sc))),(cow,aB (some (.ref ow))),(sc,lst ⟨ba ns f⟩ e),(ow,li6 ownV u 0)]
  post v:=[(it,v.o 0),(acc,li6 ⟨numF ns 0,numF ns 1,numF ns 2,numF ns 3,numF ns 4,numF ns 5⟩ ⟨v.a 2,v.a 3,v.a 4,v.a 5,v.a 6,v.a 7⟩ 6),(dct,kdF w 1 (v.a 8) (v.x 0))]
  news _:=[]
  res _:=.ok .next
section
variable {w:World} {d:Nat} {L it acc dct csc cow sc ow:Addr} {ns:List Int} {f:Nat→Nat} {e:Nat} {u:V6 Tok}
theorem ln_ok (hD:d≤600) (hn:ns.length≤1000):Ok w d (lnS w L it acc dct csc cow sc ow ns f e u):=by
  refine yv (fun n t=>yd 1 [] [] [6] (ag ow (vi6 ownV u) 0 0 t (.int 108 u.a)) fun v1=>yd 0 [0] [] [5,7] (slL sc (v1.a 0) ns f e 0 t (v1.a 1)) fun v2=>yc [8] (sumS (v2.a 2) (pk 0 ns) (fun j=>v2.a (j+3)) 0 (pk 0 ns).sum) fun v3=>yd 5 [] [] [6] (ag ow (vi6 ownV u) 0 1 (v3.a 1+5) (.int 205 u.b)) fun v4=>yd 0 [0] [] [5,9] (slL sc (v4.a 0) ns f e 1 (v3.a 1+5) (v4.a 1)) fun v5=>yc [10] (sumS (v5.a 2) (pk 1 ns) (fun j=>v5.a (j+3)) 0 (pk 1 ns).sum) fun v6=>yd 5 [] [] [6] (ag ow (vi6 ownV u) 0 2 (v6.a 1+5) (.int 478 u.c)) fun v7=>yd 0 [0] [] [5,11] (slL sc (v7.a 0) ns f e 2 (v6.a 1+5) (v7.a 1)) fun v8=>yc [12] (sumS (v8.a 2) (pk 2 ns) (fun j=>v8.a (j+3)) 0 (pk 2 ns).sum) fun v9=>yd 5 [] [] [6] (ag ow (vi6 ownV u) 0 3 (v9.a 1+5) (.int 272 u.d)) fun v10=>yd 0 [0] [] [5,13] (slL sc (v10.a 0) ns f e 3 (v9.a 1+5) (v10.a 1)) fun v11=>yc [14] (sumS (v11.a 2) (pk 3 ns) (fun j=>v11.a (j+3)) 0 (pk 3 ns).sum) fun v12=>yd 5 [] [] [6] (ag ow (vi6 ownV u) 0 4 (v12.a 1+5) (.int 43 u.e)) fun v13=>yd 0 [0] [] [5,15] (slL sc (v13.a 0) ns f e 4 (v12.a 1+5) (v13.a 1)) fun v14=>yc [16] (sumS (v14.a 2) (pk 4 ns) (fun j=>v14.a (j+3)) 0 (pk 4 ns).sum) fun v15=>yd 5 [] [] [6] (ag ow (vi6 ownV u) 0 5 (v15.a 1+5) (.int 429 u.f)) fun v16=>yd 0 [0] [] [5,17] (slL sc (v16.a 0) ns f e 5 (v15.a 1+5) (v16.a 1)) fun v17=>yc [18] (sumS (v17.a 2) (pk 5 ns) (fun j=>v17.a (j+3)) 0 (pk 5 ns).sum) fun v18=>.nil) (fun n t=>xd (ab (by omega) (by decide) rfl) fun _=>xd (slL_ok hn) fun _=>xc sumS_ok fun _=>xd (ab (by omega) (by decide) rfl) fun _=>xd (slL_ok hn) fun _=>xc sumS_ok fun _=>xd (ab (by omega) (by decide) rfl) fun _=>xd (slL_ok hn) fun _=>xc sumS_ok fun _=>xd (ab (by omega) (by decide) rfl) fun _=>xd (slL_ok hn) fun _=>xc sumS_ok fun _=>xd (ab (by omega) (by decide) rfl) fun _=>xd (slL_ok hn) fun _=>xc sumS_ok fun _=>xd (ab (by omega) (by decide) rfl) fun _=>xd (slL_ok hn) fun _=>xc sumS_ok fun _=>trivial) 454 [2,0,10,2,2,1,0,0,2,2,2,2,2,2,2,2,2,2,2,0,6,6,10,6,14,14,14,0,0,8,6,12,12,12,4,4,4,4,2,2,2,2,2,2,2,2,2,0,6,6,10,6,14,14,14,0,0,8,6,12,12,12,4,4,4,4,2,2,2,2,2,2,2,2,2,0,6,6,10,6,14,14,14,0,0,8,6,12,12,12,4,4,4,4,2,2,2,2,2,2,2,2,2,0,6,6,10,6,14,14,14,0,0,8,6,12,12,12,4,4,4,4,2,2,2,2,2,2,2,2,2,0,6,6,10,6,14,14,14,0,0,8,6,12,12,12,4,4,4,4,2,2,2,2,2,2,2,2,2,0,6,6,10,6,14,14,14,0,0,8,6,12,12,12,4,4,4,4,2,2,2,2,2,3] (fun n t ω=>((fun v15 v18=>nu [(v18.a 0+2),(v18.a 1+5),(ω 11).v.a 1+4,(ω 23).v.a 1+4,(ω 35).v.a 1+4,(ω 47).v.a 1+4,v15.a 1+4,v18.a 1+4,t+1] [⟨(.type "range_iterator"),none,.fields #[(.int 6 0),(.int 0 0),(.int 1 0)],#[]⟩] [.int 5 (v15.a 1+5)]) (ω 59).v (ω 71).v))
end
noncomputable def SG:List Nat:=[97,32,34,92,40,39,98,9,97,32,34,92]
noncomputable def sgF (i:Int):V4 Nat:=match i.toNat with
  | 0=>⟨97,32,34,92⟩
  | 1=>⟨32,34,92,40⟩
  | 2=>⟨34,92,40,39⟩
  | 3=>⟨92,40,39,98⟩
  | 4=>⟨40,39,98,9⟩
  | 5=>⟨39,98,9,97⟩
  | 6=>⟨98,9,97,32⟩
  | _=>⟨9,97,32,34⟩
noncomputable def slcI (t:Tok) (a:Addr) (i:Int) (ui uj:Tok):Sm where
  c:=bi "str.__getitem__" [.str (S SG) t,.ref a]
  mpre:=[]
  rpre:=[(a,slO i ui (.int (i+4) uj))]
  post _:=[]
  news _:=[]
  res v:=.ok (.ret (.str (S [(sgF i).a,(sgF i).b,(sgF i).c,(sgF i).d]) (v.a 2)))
theorem slcI_ok {w:World} {D:Nat} {t:Tok} {a:Addr} {i:Int} {ui uj:Tok} (h:0≤i∧i<8):Ok w D (slcI t a i ui uj):=by
  obtain rfl | rfl | rfl | rfl | rfl | rfl | rfl | rfl:i=0 ∨ i=1 ∨ i=2 ∨ i=3 ∨ i=4 ∨ i=5 ∨ i=6 ∨ i=7:=by omega
  · exact slcS_ok (i:=0) (j:=4) (by decide) (by decide) (by decide)
  · exact slcS_ok (i:=1) (j:=5) (by decide) (by decide) (by decide)
  · exact slcS_ok (i:=2) (j:=6) (by decide) (by decide) (by decide)
  · exact slcS_ok (i:=3) (j:=7) (by decide) (by decide) (by decide)
  · exact slcS_ok (i:=4) (j:=8) (by decide) (by decide) (by decide)
  · exact slcS_ok (i:=5) (j:=9) (by decide) (by decide) (by decide)
  · exact slcS_ok (i:=6) (j:=10) (by decide) (by decide) (by decide)
  · exact slcS_ok (i:=7) (j:=11) (by decide) (by decide) (by decide)
theorem sgF_in (i:Int):∀ k,0≤k→k<4→(sgF i).at k∈abc8:=fun k h0 h4=>by
  rcases four h0 h4 with rfl | rfl | rfl | rfl <;> (unfold sgF; split <;> decide)
theorem sgF_asc (i:Int):Asc [(sgF i).a,(sgF i).b,(sgF i).c,(sgF i).d]:=by
  unfold sgF Asc; split <;> decide +kernel
theorem sgF_nd (i:Int):[(sgF i).a,(sgF i).b,(sgF i).c,(sgF i).d].Nodup:=by
  unfold sgF; split <;> decide
noncomputable def ltE:Expr→Expr
  | .ListComp e _ _ _=>e
  | e=>e
noncomputable def agE:Expr→Expr
  | .Call _ (a::_) _ _=>a
  | e=>e
noncomputable def lvE:Expr:=asgE (sto 23 13)
noncomputable def liE:Expr:=agE (ltE lvE)
noncomputable def sHts:Str:=S [104,101,105,103,104,116,115]
noncomputable def sLvl:Str:=S [108,101,118,101,108]
noncomputable def sRow:Str:=S [114,111,119]
noncomputable def liEv (dct L cr cl ch:Addr):Env:=⟨{ kind:=.function,names:=[(S [46,48],.local),(S [107],.local),(sHts,.cell),(sLvl,.cell),(sRow,.cell)],isGenerator:=false,isCoroutine:=false },dct,3,[(sRow,cr),(sLvl,cl),(sHts,ch)],lqual,none,.ref 163,some L,0⟩
noncomputable abbrev qrow (Q:V6 Nm):List Value:=ae [Q.a,Q.b,Q.c,Q.d,Q.e,Q.f]
theorem qrow_get {Q:V6 Nm} {i:Int} (h0:0≤i) (h:i<6):(qrow Q)[i.toNat]?=some (.str (S (Q.at i).l) (Q.at i).t):=by
  rcases six h0 h with rfl | rfl | rfl | rfl | rfl | rfl <;> rfl
noncomputable def lvF (B:V6 Int) (Q:V6 Nm) (lv:Int):Nat→Int→List Nm
  | 0,_=>[]
  | n+1,k=>if B.at k=lv then Q.at k::lvF B Q lv n (k+1) else lvF B Q lv n (k+1)
noncomputable def liS (w:World) (L it acc dct cr cl ch rl hl:Addr) (B:V6 Int) (u:V6 Tok) (Q:V6 Nm) (er:Nat) (lv:Int) (tl:Tok) (cur rem:Int) (out:List Value) (eo:Nat) (dk:Obj) (out':List Value):Sm where
  c:=.compLoop liE 0 (.ref it) (.ref acc) (liEv dct L cr cl ch)
  mpre:=[(it,rangeO cur rem),(acc,lst ⟨out⟩ eo),(dct,dk)]
  rpre:=[(cr,aB (some (.ref rl))),(cl,aB (some (.int lv tl))),(ch,aB (some (.ref hl))),(rl,lst ⟨qrow Q⟩ er),(hl,li6 B u 6)]
  post v:=[(it,v.o 0),(acc,lst ⟨out'⟩ (v.a 2)),(dct,kdF w 1 (v.a 3) (v.x 0))]
  news _:=[]
  res _:=.ok .next
section
variable {w:World} {d:Nat} {L it acc dct cr cl ch rl hl:Addr} {B:V6 Int} {u:V6 Tok} {Q:V6 Nm} {er:Nat} {lv:Int} {tl:Tok} {cur rem:Int} {out out':List Value} {eo:Nat} {ky:Tok} {zy:Value}
theorem li_y (hD:d≤600) (h:0≤cur∧cur<6) (hr:0<rem∧rem≤6) (ho:out.length≤6) (hb:B.at cur=lv) (H:∀ eo ky zy,Ok w d (liS w L it acc dct cr cl ch rl hl B u Q er lv tl (cur+1) (rem-1) (out++[.str (S (Q.at cur).l) (Q.at cur).t]) eo (kdF w 1 ky zy) out')):Ok w d (liS w L it acc dct cr cl ch rl hl B u Q er lv tl cur rem out eo (kdF w 1 ky zy) out'):=by
  refine yt (fun n t=>yd 0 [] [0] [] (rngS it cur rem) fun v1=>yc [7] (ag hl (vi6 B u) 6 cur (v1.a 2) (.int (B.at cur) (u.at cur))) fun v2=>yc [] (eqIS (B.at cur) lv (u.at cur) tl true) fun v3=>yc [6] (ag rl (qrow Q) er cur (v1.a 2) (.str (S (Q.at cur).l) (Q.at cur).t)) fun v4=>yd 0 [] [1] [] (bj acc out eo (.str (S (Q.at cur).l) (Q.at cur).t) (out++[.str (S (Q.at cur).l) (Q.at cur).t])) fun v5=>.nil) (fun n t=>xd (aP (by omega) hr.1 hr.2) fun _=>xc (ab (by omega) h.1 (aI h.1 h.2)) fun _=>xc (ax (by omega) (by rw [hb]; simp)) fun _=>xc (ab (by omega) h.1 (qrow_get h.1 h.2) (Nat.le_refl 6)) fun _=>xd (aq (by omega) rfl) fun _=>trivial) (fun n t ω=>(it5 0 [] [0,1,2] [3,4,5,6,7] (liS w L it acc dct cr cl ch rl hl B u Q er lv tl (cur+1) (rem-1) (out++[.str (S (Q.at cur).l) (Q.at cur).t]) (eo+1) (kdF w 1 ky (.int cur ((ω 0).v.a 2))) out'))) (fun n t ω=>H _ _ _) 34 [2,0,6,6,12,6,16,16,16,10,1,0,0,8,6,14,14,14]
theorem li_y0 (hD:d≤600) (h:0≤cur∧cur<6) (hr:0<rem∧rem≤6) (ho:out.length≤6) (hb:B.at cur=lv) (H:∀ eo ky zy,Ok w d (liS w L it acc dct cr cl ch rl hl B u Q er lv tl (cur+1) (rem-1) (out++[.str (S (Q.at cur).l) (Q.at cur).t]) eo (kdF w 1 ky zy) out')):Ok w d (liS w L it acc dct cr cl ch rl hl B u Q er lv tl cur rem out eo aV out'):=by
  refine yt (fun n t=>yd 0 [] [0] [] (rngS it cur rem) fun v1=>yc [7] (ag hl (vi6 B u) 6 cur (v1.a 2) (.int (B.at cur) (u.at cur))) fun v2=>yc [] (eqIS (B.at cur) lv (u.at cur) tl true) fun v3=>yc [6] (ag rl (qrow Q) er cur (v1.a 2) (.str (S (Q.at cur).l) (Q.at cur).t)) fun v4=>yd 0 [] [1] [] (bj acc out eo (.str (S (Q.at cur).l) (Q.at cur).t) (out++[.str (S (Q.at cur).l) (Q.at cur).t])) fun v5=>.nil) (fun n t=>xd (aP (by omega) hr.1 hr.2) fun _=>xc (ab (by omega) h.1 (aI h.1 h.2)) fun _=>xc (ax (by omega) (by rw [hb]; simp)) fun _=>xc (ab (by omega) h.1 (qrow_get h.1 h.2) (Nat.le_refl 6)) fun _=>xd (aq (by omega) rfl) fun _=>trivial) (fun n t ω=>((fun v1=>(it5 0 [] [0,1,2] [3,4,5,6,7] (liS w L it acc dct cr cl ch rl hl B u Q er lv tl (cur+1) (rem-1) (out++[.str (S (Q.at cur).l) (Q.at cur).t]) (eo+1) (kdF w 1 (v1.a 1) (.int cur (v1.a 2))) out'))) (ω 0).v)) (fun n t ω=>H _ _ _) 34 [2,0,6,6,12,6,16,16,16,10,1,0,0,8,6,14,14,14]
theorem li_n (hD:d≤600) (h:0≤cur∧cur<6) (hr:0<rem∧rem≤6) (hb:B.at cur≠lv) (H:∀ eo ky zy,Ok w d (liS w L it acc dct cr cl ch rl hl B u Q er lv tl (cur+1) (rem-1) out eo (kdF w 1 ky zy) out')):Ok w d (liS w L it acc dct cr cl ch rl hl B u Q er lv tl cur rem out eo (kdF w 1 ky zy) out'):=by
  refine yt (fun n t=>yd 0 [] [0] [] (rngS it cur rem) fun v1=>yc [7] (ag hl (vi6 B u) 6 cur (v1.a 2) (.int (B.at cur) (u.at cur))) fun v2=>yc [] (eqIS (B.at cur) lv (u.at cur) tl false) fun v3=>.nil) (fun n t=>xd (aP (by omega) hr.1 hr.2) fun _=>xc (ab (by omega) h.1 (aI h.1 h.2)) fun _=>xc (ax (by omega) (by simpa using hb)) fun _=>trivial) (fun n t ω=>(it5 0 [] [0,1,2] [3,4,5,6,7] (liS w L it acc dct cr cl ch rl hl B u Q er lv tl (cur+1) (rem-1) out eo (kdF w 1 ky (.int cur ((ω 0).v.a 2))) out'))) (fun n t ω=>H _ _ _) 24 [2,0,6,6,12,6,16,16,16,10,1,0,0]
theorem li_n0 (hD:d≤600) (h:0≤cur∧cur<6) (hr:0<rem∧rem≤6) (hb:B.at cur≠lv) (H:∀ eo ky zy,Ok w d (liS w L it acc dct cr cl ch rl hl B u Q er lv tl (cur+1) (rem-1) out eo (kdF w 1 ky zy) out')):Ok w d (liS w L it acc dct cr cl ch rl hl B u Q er lv tl cur rem out eo aV out'):=by
  refine yt (fun n t=>yd 0 [] [0] [] (rngS it cur rem) fun v1=>yc [7] (ag hl (vi6 B u) 6 cur (v1.a 2) (.int (B.at cur) (u.at cur))) fun v2=>yc [] (eqIS (B.at cur) lv (u.at cur) tl false) fun v3=>.nil) (fun n t=>xd (aP (by omega) hr.1 hr.2) fun _=>xc (ab (by omega) h.1 (aI h.1 h.2)) fun _=>xc (ax (by omega) (by simpa using hb)) fun _=>trivial) (fun n t ω=>((fun v1=>(it5 0 [] [0,1,2] [3,4,5,6,7] (liS w L it acc dct cr cl ch rl hl B u Q er lv tl (cur+1) (rem-1) out eo (kdF w 1 (v1.a 1) (.int cur (v1.a 2))) out'))) (ω 0).v)) (fun n t ω=>H _ _ _) 24 [2,0,6,6,12,6,16,16,16,10,1,0,0]
theorem li_x (hD:d≤600):Ok w d (liS w L it acc dct cr cl ch rl hl B u Q er lv tl 6 0 out eo (kdF w 1 ky zy) out):=by
  refine yv (fun n t=>.nil) (fun n t=>trivial) 14 [2,2,2,2,2,3] (fun n t ω=>nu [(n+2),t,eo,ky] [rangeO 6 0] [zy])
theorem nv_app:∀ (a b:List Nm),ae (a++b)=ae a++ae b
  | [],_=>rfl
  | p::a,b=>congrArg (Value.str (S p.l) p.t::·) (nv_app a b)
theorem li_loop (hD:d≤600):∀ (n:Nat) (k r:Int) (o:List Nm) (eo:Nat) (ky:Tok) (zy:Value),0≤k→k+n=6→r=n→o.length≤k.toNat →
    Ok w d (liS w L it acc dct cr cl ch rl hl B u Q er lv tl k r (ae o) eo (kdF w 1 ky zy) (ae (o++lvF B Q lv n k)))
  | 0,k,r,o,eo,ky,zy,h0,h6,hr,ho=>by
    obtain rfl:k=6:=by omega
    subst hr
    unfold lvF
    rw [List.append_nil]
    exact li_x hD
  | n+1,k,r,o,eo,ky,zy,h0,h6,hr,ho=>by
    have e1:r-1=(n:Int):=by omega
    unfold lvF
    split
    · next hb=>
      refine li_y hD ⟨h0,by omega⟩ ⟨by omega,by omega⟩ (by rw [ac]; omega) hb fun eo ky zy=>?_
      have z:=li_loop hD n (k+1) (r-1) (o++[Q.at k]) eo ky zy (by omega) (by omega) e1 (by simp; omega)
      rw [nv_app,List.append_assoc] at z
      exact z
    · next hb=>
      exact li_n hD ⟨h0,by omega⟩ ⟨by omega,by omega⟩ hb fun eo ky zy=>li_loop hD n (k+1) (r-1) o eo ky zy (by omega) (by omega) e1 (by omega)
theorem li_all (hD:d≤600):Ok w d (liS w L it acc dct cr cl ch rl hl B u Q er lv tl 0 6 [] 0 aV (ae (lvF B Q lv 6 0))):=by
  unfold lvF
  split
  · next hb=>
    refine li_y0 hD (by decide) (by decide) (by simp) hb fun eo ky zy=>?_
    exact li_loop hD 5 1 5 [Q.at 0] eo ky zy (by decide) (by decide) rfl (by simp)
  · next hb=>
    exact li_n0 hD (by decide) (by decide) hb fun eo ky zy=>li_loop hD 5 1 5 [] eo ky zy (by decide) (by decide) rfl (by simp)
noncomputable def lisS (w:World) (L it acc dct cr cl ch rl hl:Addr) (B:V6 Int) (u:V6 Tok) (Q:V6 Nm) (er:Nat) (lv:Int) (tl:Tok):Sm:=
  { liS w L it acc dct cr cl ch rl hl B u Q er lv tl 0 6 [] 0 aV (ae (lvF B Q lv 6 0)) with c:=.compStart liE 0 (.ref it) (.ref acc) (liEv dct L cr cl ch) }
theorem lis_ok (hD:d≤540):Ok w d (lisS w L it acc dct cr cl ch rl hl B u Q er lv tl):=by
  refine yt (fun n t=>.nil) (fun n t=>trivial) (fun n t ω=>(it5 0 [] [0,1,2] [3,4,5,6,7] (liS w L it acc dct cr cl ch rl hl B u Q er lv tl 0 6 [] 0 aV (ae (lvF B Q lv 6 0))))) (fun n t ω=>li_all (by omega)) 1 [2,0,10,2,2,1,0,0,2,2] (fun n t ω vz=>nu [(vz.a 0),(vz.a 1),vz.a 2,vz.a 3] [vz.o 0] [vz.x 0])
theorem lvF_len (B:V6 Int) (Q:V6 Nm) (lv:Int):∀ (n:Nat) (k:Int),(lvF B Q lv n k).length≤n
  | 0,_=>Nat.le_refl _
  | n+1,k=>by
    have:=lvF_len B Q lv n (k+1)
    unfold lvF
    split
    · simp; omega
    · omega
noncomputable def loEv (dct L cr cl ch:Addr):Env:=⟨{ kind:=.function,names:=[(S [46,48],.local),(sLvl,.cell),(S [115,111,114,116,101,100],.globalImplicit),(S [114,97,110,103,101],.globalImplicit),(sHts,.cell),(sRow,.cell)],isGenerator:=false,isCoroutine:=false },dct,3,[(sLvl,cl),(sRow,cr),(sHts,ch)],lqual,none,.ref 163,some L,0⟩
noncomputable def loS (w:World) (L it acc dct cr cl ch rl hl:Addr) (B:V6 Int) (u:V6 Tok) (Q:V6 Nm) (er:Nat) (cur rem:Int) (cv:Option Value) (dn:List Dn) (eo:Nat) (lv:List (List (List Nat))):Sm where
  c:=.compLoop lvE 0 (.ref it) (.ref acc) (loEv dct L cr cl ch)
  mpre:=[(it,rangeO cur rem),(acc,lst ⟨aH dn⟩ eo),(cl,aB cv),(dct,aV)]
  rpre:=[(cr,aB (some (.ref rl))),(ch,aB (some (.ref hl))),(rl,lst ⟨qrow Q⟩ er),(hl,li6 B u 6)]++gled dn
  post v:=[(it,v.o 0),(acc,lst ⟨finV dn lv v.f⟩ (v.a 2)),(cl,v.o 1),(dct,aV)]
  news v:=newsN lv v.f
  res _:=.ok .next
theorem lo_t {ls:List (List Nat)} {lv:List (List (List Nat))} {dn:List Dn} {cv:Option Value} (hD:d≤480) (hr:0<rem∧rem≤6) (hdn:dn.length<100) (hp:ls.Perm ((lvF B Q cur 6 0).map fun q=>q.l)) (hls:Rises ls)
    (H:∀ (cv:Value) (eo:Nat) (a e:Nat) (f:Nat→Nat),Ok w d (loS w L it acc dct cr cl ch rl hl B u Q er (cur+1) (rem-1) (some cv) (⟨a,ls,f,e⟩::dn) eo lv)):Ok w d (loS w L it acc dct cr cl ch rl hl B u Q er cur rem cv dn eo (ls::lv)):=by
  refine ytg ([(cr,aB (some (.ref rl))),(ch,aB (some (.ref hl))),(rl,lst ⟨qrow Q⟩ er),(hl,li6 B u 6)]) ([gled dn]) ((by simp [loS])) (fun n t=>yd 0 [] [0] [] (rngS it cur rem) fun v1=>yd 4 [0,1,2,3] [9,10,11] [4,2,5,6,7] (lisS w L (v1.a 0+1) (v1.a 0+2) (v1.a 0+3) cr cl ch rl hl B u Q er cur (v1.a 2)) fun v2=>yc [10] (sortS (v1.a 0+2) (ae (lvF B Q cur 6 0)) (v2.a 2) ls) fun v3=>yd 0 [] [1] [] (bj acc (aH dn) eo (.ref (v3.a 2)) (aH (⟨v3.a 2,ls,fun j=>v3.a (j+4),v3.a 3⟩::dn))) fun v4=>.nil) (fun n t=>xd (aP (by omega) hr.1 hr.2) fun _=>xd (lis_ok (by omega)) fun _=>xc (aQ (aC _) (by rw [ac]; have:=lvF_len B Q cur 6 0; omega) (by rw [List.map_map]; exact hp) hls) fun _=>xd (aq (by rw [ar]; omega) rfl) fun _=>trivial) (fun n t ω=>((fun v3=>⟨0,[],[0,1,2,3],[4,5,6,7,12],loS w L it acc dct cr cl ch rl hl B u Q er (cur+1) (rem-1) (some (.int cur ((ω 0).v.a 2))) (⟨v3.a 2,ls,fun j=>v3.a (j+4),v3.a 3⟩::dn) (eo+1) lv,[0],some 0⟩) (ω 8).v)) (fun n t ω=>H _ _ _ _ _) 59 [2,6,6,0,0,0,0,1,1,1,1,1,1,1,0,0,1,1,1,1,3,24,24,24] [1] (fun n t ω vz=>((fun v3=>nu [(vz.a 0),(vz.a 1),vz.a 2] [vz.o 0,vz.o 1] [] (fun _=>0) ((consF (v3.a 2) (v3.a 3) (fun j=>v3.a (j+4)) vz.f))) (ω 8).v)) [25]
theorem lo_x {dn:List Dn} {c:Int} {cv:Option Value} (hD:d≤480):Ok w d (loS w L it acc dct cr cl ch rl hl B u Q er c 0 cv dn eo []):=by
  refine yg ([(cr,aB (some (.ref rl))),(ch,aB (some (.ref hl))),(rl,lst ⟨qrow Q⟩ er),(hl,li6 B u 6)]) ([gled dn]) ((by simp [loS])) (fun n t=>.nil) (fun n t=>trivial) 14 [2,2,2,2,2,3] [] (fun n t ω=>nu [(n+2),t,eo] [rangeO c 0,aB cv] [])
noncomputable def lvlsF (B:V6 Int) (Q:V6 Nm):Nat→Int→List (List Nm)
  | 0,_=>[]
  | n+1,k=>lvF B Q k 6 0::lvlsF B Q n (k+1)
theorem lo_loop (hD:d≤480):∀ (n:Nat) (k r:Int) (cv:Option Value) (dn:List Dn) (eo:Nat),r=n→n≤6→dn.length+n<100 →
    Ok w d (loS w L it acc dct cr cl ch rl hl B u Q er k r cv dn eo (bk (lvlsF B Q n k)))
  | 0,k,r,cv,dn,eo,hr,hn,hd=>by
    subst hr
    exact lo_x hD
  | n+1,k,r,cv,dn,eo,hr,hn,hd=>by
    have e1:r-1=(n:Int):=by omega
    exact lo_t hD ⟨by omega,by omega⟩ (by omega) (sortL_perm _) (sortL_rises _) fun cv eo a e f=>lo_loop hD n (k+1) (r-1) (some cv) _ eo e1 (by omega) (by simp; omega)
noncomputable def losS (w:World) (L it acc dct cr cl ch rl hl:Addr) (B:V6 Int) (u:V6 Tok) (Q:V6 Nm) (er:Nat) (Mi:Int) (lv:List (List (List Nat))):Sm where
  c:=.compStart lvE 0 (.ref it) (.ref acc) (loEv dct L cr cl ch)
  mpre:=[(it,rangeO 1 Mi),(acc,lst #[] 0),(cl,aB none),(dct,aV)]
  rpre:=[(cr,aB (some (.ref rl))),(ch,aB (some (.ref hl))),(rl,lst ⟨qrow Q⟩ er),(hl,li6 B u 6)]
  post v:=[(it,v.o 0),(acc,lst ⟨finV [] lv v.f⟩ (v.a 2)),(cl,v.o 1),(dct,aV)]
  news v:=newsN lv v.f
  res _:=.ok .next
theorem los_ok {M:Nat} {Mi:Int} {lv:List (List (List Nat))} (hD:d≤420) (hM:M≤6) (hi:Mi=M) (hlv:lv=bk (lvlsF B Q M 1)):Ok w d (losS w L it acc dct cr cl ch rl hl B u Q er Mi lv):=by
  refine ytg ([(cr,aB (some (.ref rl))),(ch,aB (some (.ref hl))),(rl,lst ⟨qrow Q⟩ er),(hl,li6 B u 6)]) ([]) ((by simp [losS])) (fun n t=>.nil) (fun n t=>trivial) (fun n t ω=>⟨0,[],[0,1,2,3],[4,5,6,7],loS w L it acc dct cr cl ch rl hl B u Q er 1 Mi none [] 0 lv,[],some 0⟩) (fun n t ω=>(by rw [hlv]; exact lo_loop (by omega) M 1 Mi none [] 0 hi hM (by simp; omega))) 1 [2,0,10,2,2,1,0,0,2,2] [0] (fun n t ω vz=>nu [(vz.a 0),(vz.a 1),vz.a 2] [vz.o 0,vz.o 1] [] (fun _=>0) (vz.f))
end
section
open PySem.SeqAt PySem.MeetsSeq
noncomputable def refsN:List (List (List Nat))→(Nat→Nat→Nat)→List Value
  | [],_=>[]
  | _::ls,F=>.ref (F 0 0)::refsN ls fun j=>F (j+1)
theorem finV_refs:∀ (lv:List (List (List Nat))) (dn:List Dn) (F:Nat→Nat→Nat),finV dn lv F=aH dn++refsN lv F
  | [],dn,F=>(List.append_nil _).symm
  | l::ls,dn,F=>by
    show finV _ ls _=_
    rw [finV_refs ls]
    show (aH dn++[_])++_=_
    rw [List.append_assoc]
    rfl
theorem refsN_length:∀ (lv:List (List (List Nat))) (F:Nat→Nat→Nat),(refsN lv F).length=lv.length
  | [],_=>rfl
  | _::l,F=>congrArg (·+1) (refsN_length l _)
theorem refsN_get:∀ (lv:List (List (List Nat))) (F:Nat→Nat→Nat) (j:Nat),(refsN lv F)[j]?=(lv[j]?).map fun _=>.ref (F j 0)
  | [],_,_=>by simp [refsN]
  | a::A,F,0=>rfl
  | a::A,F,j+1=>refsN_get A (fun j=>F (j+1)) j
theorem newsN_mem:∀ (lv:List (List (List Nat))) (F:Nat→Nat→Nat) (j:Nat) (A:List (List Nat)),lv[j]?=some A→(F j 0,lst ⟨au A fun i=>F j (i+2)⟩ (F j 1))∈newsN lv F
  | [],_,_,_,h=>by simp at h
  | a::l,F,0,A,h=>by
    obtain rfl:a=A:=by simpa using h
    exact .head _
  | a::l,F,j+1,A,h=>.tail _ (newsN_mem l (fun j=>F (j+1)) j A h)
theorem all_same {α:Type} [DecidableEq α] {A B:List α} (h:A.length=B.length):(List.range A.length).all (fun j=>decide (A[j]?=B[j]?))=decide (A=B):=by
  rw [Bool.eq_iff_iff,List.all_eq_true,decide_eq_true_iff]
  refine ⟨fun H=>List.ext_getElem? fun i=>?_,fun e=>by subst e; simp⟩
  by_cases hi:i<A.length
  · exact of_decide_eq_true (H i (List.mem_range.mpr hi))
  · rw [List.getElem?_eq_none (by omega),List.getElem?_eq_none (by omega)]
theorem eqAt_strs {Ar:Around} {s:Shared} {a b:Addr} {A B:List (List Nat)} {f g:Nat→Nat} {e e':Nat} (ha:s.heap.get? a=some (lst ⟨au A f⟩ e)) (hb:s.heap.get? b=some (lst ⟨au B g⟩ e')) (hne:a≠b) (hu:Ar.units<cLine):EqAt Ar s (.ref a) (.ref b) (decide (A=B)):=by
  refine EqAt.of_refs hne ?_
  have hl:s.heap.IsList a ⟨au A f⟩:=⟨_,ha,rfl,_,rfl⟩
  have hl2:s.heap.IsList b ⟨au B g⟩:=⟨_,hb,rfl,_,rfl⟩
  have s1:(⟨au A f⟩:Array Value).size=A.length:=aO A f
  have s2:(⟨au B g⟩:Array Value).size=B.length:=aO B g
  by_cases h:A.length=B.length
  · have z:=RcAt.lists (e:=fun j=>decide (A[j]?=B[j]?)) hl hl2 (by rw [s1,s2,h]) hu fun j h1 h2=>by
      have a1:(⟨au A f⟩:Array Value)[j]?=(au A f)[j]?:=by simp
      have a2:(⟨au B g⟩:Array Value)[j]?=(au B g)[j]?:=by simp
      have b1:=Array.getElem?_eq_getElem h1
      have b2:=Array.getElem?_eq_getElem h2
      rw [a1,svals_get] at b1
      rw [a2,svals_get] at b2
      cases hA:A[j]? with
      | none=>rw [hA] at b1; cases b1
      | some x=>
        cases hB:B[j]? with
        | none=>rw [hB] at b2; cases b2
        | some y=>
          rw [hA] at b1
          rw [hB] at b2
          injection b1 with b1
          injection b2 with b2
          rw [← b1,← b2]
          have e1:decide (some x=some y)=decide (S x=S y):=by
            by_cases hxy:x=y
            · subst hxy; simp
            · rw [decide_eq_false (by simpa using hxy)]
              symm
              exact decide_eq_false fun e=>hxy (by injection e with e; injection e)
          rw [e1]
          exact (show EqGives (.str (S x) (f j)) (.str (S y) (g j)) _ from fun prog w A E s Q h=>wpAny_eqBool_str h).at _ _
    rw [s1,all_same h] at z
    exact z
  · have e1:decide (A=B)=false:=decide_eq_false fun e=>h (by rw [e])
    rw [e1]
    exact RcAt.lists_lengths hl hl2 (by rw [s1,s2]; simpa using h) hu
noncomputable def rcS (op:String) (l b:Addr) (A:List (List (List Nat))) (f:Nat→Nat→Nat) (e:Nat) (B:List (List (List Nat))) (g:Nat→Nat→Nat) (e':Nat) (r:Bool):Sm where
  c:=bi op [.ref l,.ref b]
  mpre:=[]
  rpre:=(l,lst ⟨finV [] A f⟩ e)::(b,lst ⟨finV [] B g⟩ e')::apL (newsN A f) (newsN B g)
  post _:=[]
  news _:=[]
  res _:=.ok (.ret (.bool r))
theorem nest {kt:KT} {st:Shared} {A B:List (List (List Nat))} {f g:Nat→Nat→Nat} {Ar:Around} (K:aT kt st.heap (newsN A f++newsN B g)) (hu:Ar.units<cLine) (j:Nat) (h1:j<(⟨finV [] A f⟩:Array Value).size) (h2:j<(⟨finV [] B g⟩:Array Value).size):EqAt Ar st (⟨finV [] A f⟩:Array Value)[j] (⟨finV [] B g⟩:Array Value)[j] (decide (A[j]?=B[j]?)):=by
  have a1:(⟨finV [] A f⟩:Array Value)[j]?=(refsN A f)[j]?:=by rw [finV_refs]; simp [aH]
  have a2:(⟨finV [] B g⟩:Array Value)[j]?=(refsN B g)[j]?:=by rw [finV_refs]; simp [aH]
  have b1:=Array.getElem?_eq_getElem h1
  have b2:=Array.getElem?_eq_getElem h2
  rw [a1,refsN_get] at b1
  rw [a2,refsN_get] at b2
  cases hA:A[j]? with
  | none=>rw [hA] at b1; cases b1
  | some x=>
    cases hB:B[j]? with
    | none=>rw [hB] at b2; cases b2
    | some y=>
      rw [hA] at b1
      rw [hB] at b2
      injection b1 with b1
      injection b2 with b2
      rw [← b1,← b2]
      have m1:=newsN_mem A f j x hA
      have m2:=newsN_mem B g j y hB
      have e1:decide (some x=some y)=decide (x=y):=by simp
      rw [e1]
      refine eqAt_strs (K.olds _ (List.mem_append_left _ m1)) (K.olds _ (List.mem_append_right _ m2)) (fun e=>?_) hu
      have nd:=K.nodup
      rw [List.map_append,List.nodup_append] at nd
      exact nd.2.2 _ (List.mem_map_of_mem m1) _ (List.mem_map_of_mem m2) e
theorem finV_size {A:List (List (List Nat))} {f:Nat→Nat→Nat}:(⟨finV [] A f⟩:Array Value).size=A.length:=by
  show (finV [] A f).length=_
  rw [finV_refs]
  simp [aH,refsN_length]
theorem req_ok {w:World} {D:Nat} {l b:Addr} {A B:List (List (List Nat))} {f g:Nat→Nat→Nat} {e e':Nat} {r:Bool} (hD:D≤780) (hr:decide (A=B)=r):Ok w D (rcS "list.__eq__" l b A f e B g e' r):=by
  subst hr
  refine ⟨fun _=>rfl,fun Ar st R C Bs K _ H=>?_⟩
  have ho:st.heap.get? l=some (lst ⟨finV [] A f⟩ e):=K.head
  have ho2:st.heap.get? b=some (lst ⟨finV [] B g⟩ e'):=K.tail.head
  have cu:=C.units
  have hu:Ar.in1.units<cLine:=by
    show Ar.units+1<9900
    omega
  refine codeAny_call_builtin F.slot_list_eq.plain F.entry_list_eq (F.slot_list_eq.check _ _ _ _ _ _ _ _ ⟨_,ho,rfl⟩ (F.args_list_eq_2 _ _) ?_)
  have hH:=H st (nu [st.heap.objs.size,st.toks]) (left0t (tk:=st.toks) (l:=[]) rfl (fun _=>rfl) (fun _=>rfl) rfl)
  by_cases h:A.length=B.length
  · refine SeqAt.list_eqAt l b ⟨finV [] A f⟩ ⟨finV [] B g⟩ e e' none none #[] #[] (by rw [finV_size,finV_size,h]) (fun j=>decide (A[j]?=B[j]?)) PR w _ R st ⟨ho,ho2,fun j h1 h2=>nest (apL_eq (newsN A f) (newsN B g) ▸ K.tail.tail) hu j h1 h2,?_⟩
    rw [finV_size,all_same h]
    exact hH
  · have e1:decide (A=B)=false:=decide_eq_false fun e=>h (by rw [e])
    refine SeqAt.list_eq_lengthsAt l b ⟨finV [] A f⟩ ⟨finV [] B g⟩ e e' none none #[] #[] (by rw [finV_size,finV_size]; simpa using h) PR w _ R st ⟨ho,ho2,?_⟩
    rw [← e1]
    exact hH
theorem rne_ok {w:World} {D:Nat} {l b:Addr} {A:List (List (List Nat))} {f g:Nat→Nat→Nat} {e e':Nat} (hD:D≤780):Ok w D (rcS "list.__ne__" l b A f e A g e' false):=by
  refine ⟨fun _=>rfl,fun Ar st R C Bs K _ H=>?_⟩
  have ho:st.heap.get? l=some (lst ⟨finV [] A f⟩ e):=K.head
  have ho2:st.heap.get? b=some (lst ⟨finV [] A g⟩ e'):=K.tail.head
  have cu:=C.units
  have hu:Ar.in1.units<cLine:=by
    show Ar.units+1<9900
    omega
  refine codeAny_call_builtin F.slot_list_ne.plain F.entry_list_ne (F.slot_list_ne.check _ _ _ _ _ _ _ _ ⟨_,ho,rfl⟩ (F.args_list_ne_2 _ _) ?_)
  refine SeqAt.list_neAt l b ⟨finV [] A f⟩ ⟨finV [] A g⟩ e e' none none #[] #[] (by rw [finV_size,finV_size]) (fun j=>decide (A[j]?=A[j]?)) PR w _ R st ⟨ho,ho2,fun j h1 h2=>nest (apL_eq (newsN A f) (newsN A g) ▸ K.tail.tail) hu j h1 h2,?_⟩
  rw [finV_size,all_same rfl,decide_eq_true rfl]
  exact H st (nu [st.heap.objs.size,st.toks]) (left0t (tk:=st.toks) (l:=[]) rfl (fun _=>rfl) (fun _=>rfl) rfl)
end
noncomputable abbrev nmLed2 (r:R4) (N:V4 (List Value)) (es:V4 Nat) (em:Nat):Led:=[(r.m,lst ⟨r.rows⟩ em),(r.a,lst ⟨N.a⟩ es.a),(r.b,lst ⟨N.b⟩ es.b),(r.c,lst ⟨N.c⟩ es.c),(r.d,lst ⟨N.d⟩ es.d)]
noncomputable abbrev nmP2 (r:R4) (N:V4 (List Value)) (es:V4 Nat) (em:Nat) (p:Int):Led:=[(r.m,lst ⟨r.rows⟩ em),(r.at p,lst ⟨N.at p⟩ (es.at p)),(r.at (sel4 1 0 0 0 p),lst ⟨N.at (sel4 1 0 0 0 p)⟩ (es.at (sel4 1 0 0 0 p))),(r.at (sel4 2 2 1 1 p),lst ⟨N.at (sel4 2 2 1 1 p)⟩ (es.at (sel4 2 2 1 1 p))),(r.at (sel4 3 3 3 2 p),lst ⟨N.at (sel4 3 3 3 2 p)⟩ (es.at (sel4 3 3 3 2 p)))]
theorem nmP_perm2 {r:R4} {N:V4 (List Value)} {es:V4 Nat} {em:Nat} {p:Int} (h:0≤p∧p<4):(nmLed2 r N es em).Perm (nmP2 r N es em p):=by
  rcases four h.1 h.2 with rfl | rfl | rfl | rfl
  · exact .refl _
  · exact .cons _ (.swap _ _ _)
  · exact .cons _ ((List.Perm.cons _ (.swap _ _ _)).trans (.swap _ _ _))
  · exact .cons _ ((List.Perm.cons _ ((List.Perm.cons _ (.swap _ _ _)).trans (.swap _ _ _))).trans (.swap _ _ _))
noncomputable abbrev rowE2 (L:Addr):Env:=envF 19 142 141 (S [95,108,97,119,95,114,111,119,46,60,108,111,99,97,108,115,62,46]) L []
noncomputable def frR02 (w:World) (k0 k1 k2 k3:Tok) (lw ln mm rl:Addr):Obj:=
  frm #[en w.params (S [119,111,114,100]) k0 (.ref lw),en w.params (S [110,97,109,101,115]) k1 (.ref ln),en w.params (S [109,101,116]) k2 (.ref mm),en w.params (S [114,111,119]) k3 (.ref rl)] 4
noncomputable def frR2 (w:World) (k0 k1 k2 k3 k4:Tok) (lw ln mm rl:Addr) (z1:Value):Obj:=
  frm #[en w.params (S [119,111,114,100]) k0 (.ref lw),en w.params (S [110,97,109,101,115]) k1 (.ref ln),en w.params (S [109,101,116]) k2 (.ref mm),en w.params (S [114,111,119]) k3 (.ref rl),en w.params (S [120]) k4 z1] 5
noncomputable def rowF2 (P:V6 Int) (N:V4 (List Value)) (k:Int) (m:V4 Int) (rs:List Value):Option (V4 Int × List Value):=
  let x:=P.at k
  match (N.at x)[(m.at x).toNat]? with
  | some v=>some (m.put x (m.at x+1),rs++[v])
  | none=>none
noncomputable def rowS2 (w:World) (lw mm rl it L rm:Addr) (P:V6 Int) (u:V6 Tok) (e:Nat) (rows:Led) (fr:Obj) (m:V4 Int) (tm:V4 Tok) (rs:List Value) (er:Nat) (k:Int) (rs2:List Value):Sm where
  c:=forC (sto 19 2) (.ref it) (rowE2 L)
  mpre:=[(L,fr),(mm,lst ⟨vi4 m tm⟩ 0),(rl,lst ⟨rs⟩ er),(it,lit lw k)]
  rpre:=(lw,li6 P u e)::rows
  post v:=[(L,frR2 w (v.a 3) (v.a 4) (v.a 5) (v.a 6) (v.a 7) lw rm mm rl (v.x 0)),(mm,v.o 0),(rl,lst ⟨rs2⟩ (v.a 2)),(it,v.o 1)]
  news _:=[]
  res _:=.ok .next
section
variable {w:World} {d:Nat} {lw mm rl it L:Addr} {r:R4} {N:V4 (List Value)} {es:V4 Nat} {em:Nat} {P:V6 Int} {u:V6 Tok} {e:Nat} {k0 k1 k2 k3 k4:Tok} {z1:Value} {m:V4 Int} {tm:V4 Tok} {rs rs2:List Value} {er:Nat} {k:Int}
theorem row_turn2 (hD:d≤700) (hk0:0≤k) (hk:k<6) (hp:∀ i,0≤P.at i∧P.at i<4) (hm:∀ i,0≤m.at i) (hN:∀ i,(N.at i).length≤6) (hS:∀ i,∀ v∈N.at i,∃ sv tv,v=.str sv tv) (hr:rs.length≤6) (hf:(rowF2 P N k m rs).isSome=true)
    (H:∀ z1 m' tm' rs' er',rowF2 P N k m rs=some (m',rs')→Ok w d (rowS2 w lw mm rl it L r.m P u e (nmLed2 r N es em) (frR2 w k0 k1 k2 k3 k4 lw r.m mm rl z1) m' tm' rs' er' (k+1) rs2)) :
    Ok w d (rowS2 w lw mm rl it L r.m P u e (nmLed2 r N es em) (frR2 w k0 k1 k2 k3 k4 lw r.m mm rl z1) m tm rs er k rs2):=by
  obtain ⟨⟨m',rs'⟩,hf⟩:=Option.isSome_iff_exists.mp hf
  have hx:=hp k
  have hg:=aI (v:=P) (u:=u) hk0 hk
  have hf':=hf
  unfold rowF2 at hf'
  dsimp only at hf'
  generalize hX:P.at k=x at *
  generalize u.at k=tx at hg
  have gm:=vi4_get (v:=m) (u:=tm) hx.1 hx.2
  have hm0:=hm x
  generalize hM:m.at x=mx at *
  generalize tm.at x=tmx at gm
  cases hn:(N.at x)[mx.toNat]? with
  | none=>rw [hn] at hf'; cases hf'
  | some nv=>
    rw [hn] at hf'
    obtain ⟨sv,tv,rfl⟩:=hS x nv (List.mem_of_getElem? hn)
    injection hf' with hf'
    injection hf' with e1 e2
    have H':∀ z1 tm' er',Ok w d (rowS2 w lw mm rl it L r.m P u e (nmP2 r N es em x) (frR2 w k0 k1 k2 k3 k4 lw r.m mm rl z1) (m.put x (mx+1)) tm' (rs++[.str sv tv]) er' (k+1) rs2):=fun z1 tm' er'=>by
      rw [e1,e2]
      exact ao (H z1 m' tm' rs' er' hf) (.cons _ (nmP_perm2 hx).symm)
    refine ao (s:=rowS2 w lw mm rl it L r.m P u e (nmP2 r N es em x) (frR2 w k0 k1 k2 k3 k4 lw r.m mm rl z1) m tm rs er k rs2) ?_ (.cons _ (nmP_perm2 hx))
    refine yt (fun n t=>yd 0 [] [3] [4] (aK it lw k (vi6 P u) e (.int x tx)) fun v1=>yc [5] (ag r.m r.rows em x tx (.ref (r.at x))) fun v2=>yc [1] (ag mm (vi4 m tm) 0 x tx (.int mx tmx)) fun v3=>yc [6] (ag (r.at x) (N.at x) (es.at x) mx tmx (.str sv tv)) fun v4=>yd 1 [] [2] [] (appS rl rs er (.str sv tv)) fun v5=>yc [1] (ag mm (vi4 m tm) 0 x tx (.int mx tmx)) fun v6=>yd 1 [] [1] [] (setS mm (vi4 m tm) 0 x tx (.int (mx+1) (v6.a 1+1)) (vi4 (m.put x (mx+1)) (tm.put x (v6.a 1+1)))) fun v7=>.nil) (fun n t=>xd (aj (by omega) hk0 hg) fun _=>xc (ab (by omega) hx.1 (am hx.1 hx.2)) fun _=>xc (ab (by omega) hx.1 gm) fun _=>xc (ab (by omega) hm0 hn (hN x)) fun _=>xd (appS_ok (by omega)) fun _=>xc (ab (by omega) hx.1 gm) fun _=>xd (set4_ok (by omega) hx.1 hx.2) fun _=>trivial) (fun n t ω=>(it5 0 [] [0,1,2,3] [4,5,6,7,8,9] (rowS2 w lw mm rl it L r.m P u e (nmP2 r N es em x) (frR2 w k0 k1 k2 k3 k4 lw r.m mm rl (.int x tx)) (m.put x (mx+1)) (tm.put x ((ω 5).v.a 1+1)) (rs++[.str sv tv]) (er+1) (k+1) rs2))) (fun n t ω=>H' _ _ _) 66 [8,0,2,2,2,6,6,6,6,2,2,12,12,12,2,2,4,4,4,14,14,14,2,2,4,4,4,4]
theorem row_turn02 (hD:d≤700) (hk0:0≤k) (hk:k<6) (hp:∀ i,0≤P.at i∧P.at i<4) (hm:∀ i,0≤m.at i) (hN:∀ i,(N.at i).length≤6) (hS:∀ i,∀ v∈N.at i,∃ sv tv,v=.str sv tv) (hr:rs.length≤6) (hf:(rowF2 P N k m rs).isSome=true)
    (H:∀ k4 z1 m' tm' rs' er',rowF2 P N k m rs=some (m',rs')→Ok w d (rowS2 w lw mm rl it L r.m P u e (nmLed2 r N es em) (frR2 w k0 k1 k2 k3 k4 lw r.m mm rl z1) m' tm' rs' er' (k+1) rs2)) :
    Ok w d (rowS2 w lw mm rl it L r.m P u e (nmLed2 r N es em) (frR02 w k0 k1 k2 k3 lw r.m mm rl) m tm rs er k rs2):=by
  obtain ⟨⟨m',rs'⟩,hf⟩:=Option.isSome_iff_exists.mp hf
  have hx:=hp k
  have hg:=aI (v:=P) (u:=u) hk0 hk
  have hf':=hf
  unfold rowF2 at hf'
  dsimp only at hf'
  generalize hX:P.at k=x at *
  generalize u.at k=tx at hg
  have gm:=vi4_get (v:=m) (u:=tm) hx.1 hx.2
  have hm0:=hm x
  generalize hM:m.at x=mx at *
  generalize tm.at x=tmx at gm
  cases hn:(N.at x)[mx.toNat]? with
  | none=>rw [hn] at hf'; cases hf'
  | some nv=>
    rw [hn] at hf'
    obtain ⟨sv,tv,rfl⟩:=hS x nv (List.mem_of_getElem? hn)
    injection hf' with hf'
    injection hf' with e1 e2
    have H':∀ k4 z1 tm' er',Ok w d (rowS2 w lw mm rl it L r.m P u e (nmP2 r N es em x) (frR2 w k0 k1 k2 k3 k4 lw r.m mm rl z1) (m.put x (mx+1)) tm' (rs++[.str sv tv]) er' (k+1) rs2):=fun k4 z1 tm' er'=>by
      rw [e1,e2]
      exact ao (H k4 z1 m' tm' rs' er' hf) (.cons _ (nmP_perm2 hx).symm)
    refine ao (s:=rowS2 w lw mm rl it L r.m P u e (nmP2 r N es em x) (frR02 w k0 k1 k2 k3 lw r.m mm rl) m tm rs er k rs2) ?_ (.cons _ (nmP_perm2 hx))
    refine yt (fun n t=>yd 0 [] [3] [4] (aK it lw k (vi6 P u) e (.int x tx)) fun v1=>yc [5] (ag r.m r.rows em x tx (.ref (r.at x))) fun v2=>yc [1] (ag mm (vi4 m tm) 0 x tx (.int mx tmx)) fun v3=>yc [6] (ag (r.at x) (N.at x) (es.at x) mx tmx (.str sv tv)) fun v4=>yd 1 [] [2] [] (appS rl rs er (.str sv tv)) fun v5=>yc [1] (ag mm (vi4 m tm) 0 x tx (.int mx tmx)) fun v6=>yd 1 [] [1] [] (setS mm (vi4 m tm) 0 x tx (.int (mx+1) (v6.a 1+1)) (vi4 (m.put x (mx+1)) (tm.put x (v6.a 1+1)))) fun v7=>.nil) (fun n t=>xd (aj (by omega) hk0 hg) fun _=>xc (ab (by omega) hx.1 (am hx.1 hx.2)) fun _=>xc (ab (by omega) hx.1 gm) fun _=>xc (ab (by omega) hm0 hn (hN x)) fun _=>xd (appS_ok (by omega)) fun _=>xc (ab (by omega) hx.1 gm) fun _=>xd (set4_ok (by omega) hx.1 hx.2) fun _=>trivial) (fun n t ω=>(it5 0 [] [0,1,2,3] [4,5,6,7,8,9] (rowS2 w lw mm rl it L r.m P u e (nmP2 r N es em x) (frR2 w k0 k1 k2 k3 ((ω 0).v.a 1) lw r.m mm rl (.int x tx)) (m.put x (mx+1)) (tm.put x ((ω 5).v.a 1+1)) (rs++[.str sv tv]) (er+1) (k+1) rs2))) (fun n t ω=>H' _ _ _ _) 66 [8,0,2,2,2,6,6,6,6,2,2,12,12,12,2,2,4,4,4,14,14,14,2,2,4,4,4,4]
theorem row_exit2 (hD:d≤700):Ok w d (rowS2 w lw mm rl it L r.m P u e (nmLed2 r N es em) (frR2 w k0 k1 k2 k3 k4 lw r.m mm rl z1) m tm rs er 6 rs):=by
  refine yv (fun n t=>.nil) (fun n t=>trivial) 17 [8,8,8,8,10,8,8,3] (fun n t ω=>nu [(n+2),t,er,k0,k1,k2,k3,k4] [lst #[(.int (m.a) tm.a),(.int (m.b) tm.b),(.int (m.c) tm.c),(.int (m.d) tm.d)] 0,⟨(.type "list_iterator"),none,.fields #[.none,(.int 6 0)],#[]⟩] [z1])
noncomputable def rowIt2 (P:V6 Int) (N:V4 (List Value)):Nat→Int→V4 Int→List Value→Option (List Value)
  | 0,_,_,rs=>some rs
  | j+1,k,m,rs=>match rowF2 P N k m rs with
    | some (m',rs')=>rowIt2 P N j (k+1) m' rs'
    | none=>none
theorem put4_in2 {Q:Int→Prop} {v:V4 Int} {i x:Int} (h:∀ j,Q (v.at j)) (hx:Q x):∀ j,Q ((v.put i x).at j):=by
  intro j
  have ha:=h 0
  have hb:=h 1
  have hc:=h 2
  have hd:=h 3
  have g:∀ k y,Q y→Q (putI i k x y):=fun k y hy=>by unfold putI; split <;> assumption
  unfold V4.at sel4
  split
  · exact g 0 _ ha
  · exact g 1 _ hb
  · exact g 2 _ hc
  · exact g 3 _ hd
theorem rowF_in2 {m':V4 Int} {rs':List Value} (hm:∀ i,0≤m.at i) (h:rowF2 P N k m rs=some (m',rs')):(∀ i,0≤m'.at i)∧rs'.length=rs.length+1:=by
  unfold rowF2 at h
  dsimp only at h
  split at h
  · cases h
    exact ⟨put4_in2 hm (by have:=hm (P.at k); omega),by simp⟩
  · cases h
theorem row_loop2 (hD:d≤700) (hp:∀ i,0≤P.at i∧P.at i<4) (hN:∀ i,(N.at i).length≤6) (hS:∀ i,∀ v∈N.at i,∃ sv tv,v=.str sv tv):∀ (j:Nat) (k:Int) (m:V4 Int) (tm:V4 Tok) (rs:List Value) (er:Nat) (z1:Value),k+j=6→0≤k→(∀ i,0≤m.at i)→rs.length+j=6→rowIt2 P N j k m rs=some rs2 →
    Ok w d (rowS2 w lw mm rl it L r.m P u e (nmLed2 r N es em) (frR2 w k0 k1 k2 k3 k4 lw r.m mm rl z1) m tm rs er k rs2)
  | 0,k,m,tm,rs,er,z1,hk,h0,hm,hr,h=>by
    obtain rfl:k=6:=by omega
    cases h
    exact row_exit2 hD
  | j+1,k,m,tm,rs,er,z1,hk,h0,hm,hr,h=>by
    unfold rowIt2 at h
    refine row_turn2 hD h0 (by omega) hp hm hN hS (by omega) (by cases hh:rowF2 P N k m rs with | none=>rw [hh] at h; cases h | some _=>rfl) fun z1 m' tm' rs' er' hf=>?_
    rw [hf] at h
    have:=rowF_in2 hm hf
    exact row_loop2 hD hp hN hS j (k+1) m' tm' rs' er' z1 (by omega) (by omega) this.1 (by omega) h
noncomputable def rowAllS2 (lw:Addr) (r:R4) (P:V6 Int) (u:V6 Tok) (e:Nat) (N:V4 (List Value)) (es:V4 Nat) (em:Nat) (rs2:List Value):Sm where
  c:=.call (.ref 142) ⟨[.ref lw,.ref r.m],[]⟩
  mpre:=[]
  rpre:=(lw,li6 P u e)::nmLed2 r N es em
  post _:=[]
  news v:=[(v.a 2,lst ⟨rs2⟩ (v.a 3))]
  res v:=.ok (.ret (.ref (v.a 2)))
theorem row_all2 (hD:d≤640) (hp:∀ i,0≤P.at i∧P.at i<4) (hN:∀ i,(N.at i).length≤6) (hS:∀ i,∀ v∈N.at i,∃ sv tv,v=.str sv tv) (h:rowIt2 P N 6 0 ⟨0,0,0,0⟩ []=some rs2):Ok w d (rowAllS2 lw r P u e N es em rs2):=by
  refine yv (fun n t=>yd 1 [0,1,2,3] [6,7,8,9] [0,1,2,3,4,5] (rowS2 w lw (n+1) (n+2) (n+3) n r.m P u e (nmLed2 r N es em) (frR02 w t (t+1) (t+6) (t+7) lw r.m (n+1) (n+2)) ⟨0,0,0,0⟩ ⟨t+2,t+3,t+4,t+5⟩ [] 0 0 rs2) fun v1=>.nil) (fun n t=>xd (row_turn02 (by omega) (by omega) (by omega) hp (by intro i; unfold V4.at sel4; split <;> decide) hN hS (by decide) (by unfold rowIt2 at h; cases hh:rowF2 P N 0 ⟨0,0,0,0⟩ [] with | none=>rw [hh] at h; cases h | some _=>rfl) fun k4 z1 m' tm' rs' er' hf=>by unfold rowIt2 at h; rw [hf] at h; have z:=rowF_in2 (by intro i; unfold V4.at sel4; split <;> decide) hf; exact row_loop2 (by omega) hp hN hS 5 (0+1) m' tm' rs' er' z1 (by omega) (by omega) z.1 (by rw [z.2]; rfl) h) fun _=>trivial) 55 [0,0,0,1,1,0,1,1,1,0,1,1,0,1,1,1,2,2,1,0,0,2,7,14] (fun n t ω=>((fun v1=>nu [(v1.a 0),(v1.a 1),n+2,v1.a 2] [] []) (ω 3).v)) [17]
end
noncomputable def rgI (a:Addr) (M:Int) (t1 t2 t3:Tok):Sm where
  c:=bi "range.__iter__" [.ref a]
  mpre:=[]
  rpre:=[(a,rngO 1 (M+1) 1 t1 t2 t3)]
  post _:=[]
  news v:=[(v.a 2,rangeO 1 M)]
  res v:=.ok (.ret (.ref (v.a 2)))
section
variable {w:World} {d:Nat} {a:Addr} {M:Int} {t1 t2 t3:Tok}
theorem rgI_1 (hD:d≤600):Ok w d (rgI a 1 t1 t2 t3):=by
  refine yv (fun n t=>.nil) (fun n t=>trivial) 6 [2,2,2,2] (fun n t ω=>nu [(n+1),t,n] [] []) [0]
theorem rgI_2 (hD:d≤600):Ok w d (rgI a 2 t1 t2 t3):=by
  refine yv (fun n t=>.nil) (fun n t=>trivial) 6 [2,2,2,2] (fun n t ω=>nu [(n+1),t,n] [] []) [0]
theorem rgI_3 (hD:d≤600):Ok w d (rgI a 3 t1 t2 t3):=by
  refine yv (fun n t=>.nil) (fun n t=>trivial) 6 [2,2,2,2] (fun n t ω=>nu [(n+1),t,n] [] []) [0]
theorem rgI_4 (hD:d≤600):Ok w d (rgI a 4 t1 t2 t3):=by
  refine yv (fun n t=>.nil) (fun n t=>trivial) 6 [2,2,2,2] (fun n t ω=>nu [(n+1),t,n] [] []) [0]
theorem rgI_5 (hD:d≤600):Ok w d (rgI a 5 t1 t2 t3):=by
  refine yv (fun n t=>.nil) (fun n t=>trivial) 6 [2,2,2,2] (fun n t ω=>nu [(n+1),t,n] [] []) [0]
theorem rgI_6 (hD:d≤600):Ok w d (rgI a 6 t1 t2 t3):=by
  refine yv (fun n t=>.nil) (fun n t=>trivial) 6 [2,2,2,2] (fun n t ω=>nu [(n+1),t,n] [] []) [0]
theorem rgI_ok (hD:d≤600) (h:1≤M∧M≤6):Ok w d (rgI a M t1 t2 t3):=by
  obtain rfl | rfl | rfl | rfl | rfl | rfl:M=1 ∨ M=2 ∨ M=3 ∨ M=4 ∨ M=5 ∨ M=6:=by omega
  · exact rgI_1 hD
  · exact rgI_2 hD
  · exact rgI_3 hD
  · exact rgI_4 hD
  · exact rgI_5 hD
  · exact rgI_6 hD
end
noncomputable def endB (f:Flow):Sem Fin:=match f with
  | .ret v=>PySem.W.Fast.tw6905046200447255374 v
  | _=>PySem.W.Fast.tw6905046200447255374 .none
noncomputable def ctxB (bt bo rest:List Stmt) (env:Env) (m:Sem Bool):Sem Fin:=
  PySem.W.R.bindR (PySem.W.R.onRaiseR (PySem.W.R.bindR (PySem.W.R.bindR m (ifF bt bo env)) (restF rest env)) fun e=>PySem.W.Fast.tw9442747609961115081 env e) endB
theorem ctxB_room {bt bo rest:List Stmt} {env:Env} {m m₁:Sem Bool} (h:RoomT m m₁):RoomT (ctxB bt bo rest env m) (ctxB bt bo rest env m₁):=
  (((h.bind _).bind _).onRaise _).bind _
noncomputable abbrev swB (k j:Nat) (env:Env) (op:CmpOp) (a b:Addr):Sw:=⟨ctxB (ifB (sto k j)) (ifE (sto k j)) (dropS (j+1) (fnb k)) env (truC a b (cmpT op a b)),PySem.W.R.bindR (roomF "comparison") fun _=>ctxB (ifB (sto k j)) (ifE (sto k j)) (dropS (j+1) (fnb k)) env (truC a b (afterLook (cmpT op a b)))⟩
theorem swB_ok {k j:Nat} {env:Env} {op:CmpOp} {a b:Addr}:∀ V:VS,SwapOk V (swB k j env op a b).t₀ (swB k j env op a b).t₁:=room_swap (ctxB_room (truC_room (cmpT_room op a b)))
noncomputable abbrev lawE (L csc cow cr ch:Addr):Env:=envF 23 164 163 lqual L [(S [104,101,105,103,104,116,115],ch),(S [114,111,119],cr),(S [111,119,110],cow),(S [115,99,114,105,112,116],csc)]
structure Lq where
  L:Addr
  csc:Addr
  cow:Addr
  cr:Addr
  ch:Addr
  lw:Addr
  lc:Addr
  nl:Addr
  nm:Addr
  ro:Addr
  le:Addr
  k:Tk
  kj:Tok
  kk:Tok
  v:V6 Int
  u:V6 Tok
  e:Nat
  v':V6 Int
  u':V6 Tok
  e':Nat
  s4:V4 Nat
  ts:Tok
  st:Int
  tst:Tok
  fair:Bool
noncomputable abbrev Lq.es (q:Lq) (w:World) (rm:Addr) (al:Bool):List DictEntry:=[en w.params (S [110,117,109,98,101,114,115]) q.k.a (.ref q.nl),en w.params (S [115,116,97,114,116]) q.k.b (.int q.st q.tst),en w.params (S [115,105,103,110,115]) q.k.c (.str (S [q.s4.a,q.s4.b,q.s4.c,q.s4.d]) q.ts),en w.params (S [119,111,114,100]) q.k.d (.ref q.lw),en w.params (S [100,101,112,101,110,100,115]) q.k.e (.ref rm),en w.params (S [99,104,97,110,103,101,100]) q.k.f (.ref q.lc),en w.params (S [102,97,105,114]) q.k.g (.bool q.fair),en w.params (S [110,97,109,101,115]) q.k.h (.ref q.nm),en w.params (S [114,111,117,110,100,115]) q.k.i (.ref q.ro),en w.params (S [108,101,118,101,108,115]) q.kj (.ref q.le),en w.params (S [97,108,105,107,101]) q.kk (.bool al)]
noncomputable def Lq.f12 (q:Lq) (w:World) (rm:Addr) (al:Bool) (ki:Tok) (i:Int) (ti:Tok):Obj:=frm ⟨q.es w rm al++[en w.params (S [105]) ki (.int i ti)]⟩ 12
noncomputable def Lq.f17 (q:Lq) (w:World) (rm:Addr) (al:Bool) (ki:Tok) (i:Int) (ti:Tok) (p:V6 Tok) (jv tv lv ov rv:Value):Obj:=frm ⟨q.es w rm al++[en w.params (S [105]) ki (.int i ti),en w.params (S [106]) p.a jv,en w.params (S [116,101,120,116]) p.b tv,en w.params (S [108,101,102,116]) p.c lv,en w.params (S [111,116,104,101,114]) p.d ov,en w.params (S [114,101,115,116]) p.e rv]⟩ 17
noncomputable abbrev Lq.env (q:Lq):Env:=lawE q.L q.csc q.cow q.cr q.ch
noncomputable def ljS (w:World) (q:Lq) (jt rm:Addr) (led:Led) (cur rem:Int) (fr:Obj) (ki:Tok) (i:Int) (ti:Tok) (al':Bool) (gl:List GenState):Sm where
  c:=forC (nthS (forBd (sto 23 16)) 0) (.ref jt) q.env
  mpre:=[(q.L,fr),(jt,rangeO cur rem)]
  rpre:=(q.lw,li6 q.v q.u q.e)::(q.lc,li6 q.v' q.u' q.e')::led
  post o:=[(q.L,q.f17 w rm al' ki i ti ⟨o.a 2,o.a 3,o.a 4,o.a 5,o.a 6,o.a 7⟩ (o.x 0) (o.x 1) (o.x 2) (o.x 3) (o.x 4)),(jt,o.o 0)]
  news _:=[]
  res _:=.ok .next
  gens:=gl
section
variable {w:World} {d:Nat} {q:Lq} {jt:Addr} {r:R4} {D:Dp} {cur rem:Int} {ki:Tok} {i:Int} {ti:Tok} {al al':Bool} {gl:List GenState} {T F T' F':List Nat} {p:V6 Tok} {jv tv lv ov rv:Value}
theorem lj_0f (hD:d≤340) (hv:∀ i,0≤q.v.at i∧q.v.at i<4) (hv':∀ i,0≤q.v'.at i∧q.v'.at i<4) (hi:0≤i∧i<4) (hj:0≤cur∧cur<4) (hr:0<rem∧rem≤6) (h1:drT q.v q.s4 i cur=(T,F)) (h2:drT q.v' q.s4 i cur=(T',F')) (ha:Asc T∧Asc T') (hs:stripF T=some F∧stripF T'=some F') (hl:T.length≤400∧T'.length≤400) (hb:D.m i cur=false)
    (H:∀ p jv tv lv ov rv,Ok w d (ljS w q jt r.m (r.led D) (cur+1) (rem-1) (q.f17 w r.m al ki i ti p jv tv lv ov rv) ki i ti al' gl)):Ok w d (ljS w q jt r.m (r.led D) cur rem (q.f12 w r.m al ki i ti) ki i ti al' (aN T++aN T'++gl)):=by
  have H':∀ p jv tv lv ov rv,Ok w d (ljS w q jt r.m (ak r D i) (cur+1) (rem-1) (q.f17 w r.m al ki i ti p jv tv lv ov rv) ki i ti al' gl):=fun p jv tv lv ov rv=>ao (H p jv tv lv ov rv) (.cons _ (.cons _ (ai hi).symm))
  refine ao (s:=ljS w q jt r.m (ak r D i) cur rem (q.f12 w r.m al ki i ti) ki i ti al' (aN T++aN T'++gl)) ?_ (.cons _ (.cons _ (ai hi)))
  clear H
  have eg:aN T++aN T'++gl=aN T++[]++aN T'++[]++[]++[]++gl:=by simp
  rw [eg]
  have d1:∀ {a b:Tok},Ok w (d+60) (drAS q.lw q.v q.u q.e [q.s4.a,q.s4.b,q.s4.c,q.s4.d] q.ts i a cur b T F):=fun {a b}=>by have z:=da_all (w:=w) (d:=d+60) (lw:=q.lw) (v:=q.v) (u:=q.u) (e:=q.e) (s4:=q.s4) (ts:=q.ts) (i:=i) (ti:=a) (j:=cur) (tj:=b) (by omega) hv; rw [h1] at z; exact z
  have d2:∀ {a b:Tok},Ok w (d+60) (drAS q.lc q.v' q.u' q.e' [q.s4.a,q.s4.b,q.s4.c,q.s4.d] q.ts i a cur b T' F'):=fun {a b}=>by have z:=da_all (w:=w) (d:=d+60) (lw:=q.lc) (v:=q.v') (u:=q.u') (e:=q.e') (s4:=q.s4) (ts:=q.ts) (i:=i) (ti:=a) (j:=cur) (tj:=b) (by omega) hv'; rw [h2] at z; exact z
  refine yt (fun n t=>yd 0 [] [1] [] (rngS jt cur rem) fun v1=>yc [2] (drAS q.lw q.v q.u q.e [q.s4.a,q.s4.b,q.s4.c,q.s4.d] q.ts i ti cur (v1.a 2) T F) fun v2=>yd 4 [0] [] [3] (drAS q.lc q.v' q.u' q.e' [q.s4.a,q.s4.b,q.s4.c,q.s4.d] q.ts i ti cur (v1.a 2) T' F') fun v3=>yd 4 [0] [] [] (stripS T (v2.a 3) F (aN T)) fun v4=>yc [] (neSS F F (v4.a 2) (v2.a 4) false) fun v5=>yc [] (stripS T' (v3.a 3) F' (aN T')) fun v6=>yc [] (neSS F' F' (v6.a 2) (v3.a 4) false) fun v7=>yc [4] (ag r.m r.rows 4 i ti (.ref (r.at i))) fun v8=>yc [5] (ag (r.at i) (D.rowL i) 4 cur (v1.a 2) (.bool false)) fun v9=>.nil) (fun n t=>xd (aP (by omega) hr.1 hr.2) fun _=>xc d1 fun _=>xd d2 fun _=>xd (strip_ok (by omega) hl.1 ha.1 hs.1) fun _=>xc (az (by simp)) fun _=>xc (strip_ok (by omega) hl.2 ha.2 hs.2) fun _=>xc (az (by simp)) fun _=>xc (ab (by omega) hi.1 (am hi.1 hi.2)) fun _=>xc (ab (by omega) hj.1 (ap hj hb)) fun _=>trivial) (fun n t ω=>((fun v1 v2 v3=>(it5 0 [] [0,1] [2,3,4,5,6,7,8] (ljS w q jt r.m (ak r D i) (cur+1) (rem-1) (q.f17 w r.m al ki i ti ⟨v1.a 1,v2.a 1,v2.a 1+1,v3.a 1,v3.a 1+1,0⟩ (.int cur (v1.a 2)) (.str (S T) (v2.a 3)) (.str (S F) (v2.a 4)) (.str (S T') (v3.a 3)) (.str (S F') (v3.a 4))) ki i ti al' gl))) (ω 0).v (ω 1).v (ω 5).v)) (fun n t ω=>H' _ _ _ _ _ _) 207 [4,0,2,2,0,2,2,2,2,0,20,20,20,1,0,0,20,1,1,1,1,1,20,1,1,1,1,1,1,20,1,1,1,1,1,1,20,1,1,5,0,2,2,0,2,2,0,2,2,2,2,0,24,24,24,1,0,0,24,1,1,1,1,1,24,1,1,1,1,1,1,24,1,1,1,1,1,1,24,1,1,5,0,2,2,0,2,2,0,2,0,2,1,0,0,0,2,0,2,1,0,0,2,2,10,10,10,2,12,12,12]
theorem lj_0e (hD:d≤340) (hv:∀ i,0≤q.v.at i∧q.v.at i<4) (hv':∀ i,0≤q.v'.at i∧q.v'.at i<4) (hi:0≤i∧i<4) (hj:0≤cur∧cur<4) (hr:0<rem∧rem≤6) (h1:drT q.v q.s4 i cur=(T,F)) (h2:drT q.v' q.s4 i cur=(T',F')) (ha:Asc T∧Asc T') (hs:stripF T=some F∧stripF T'=some F') (hl:T.length≤400∧T'.length≤400) (hb:D.m i cur=true) (he:F=F')
    (H:∀ p jv tv lv ov rv,Ok w d (ljS w q jt r.m (r.led D) (cur+1) (rem-1) (q.f17 w r.m al ki i ti p jv tv lv ov rv) ki i ti al' gl)):Ok w d (ljS w q jt r.m (r.led D) cur rem (q.f12 w r.m al ki i ti) ki i ti al' (aN T++aN T'++gl)):=by
  have H':∀ p jv tv lv ov rv,Ok w d (ljS w q jt r.m (ak r D i) (cur+1) (rem-1) (q.f17 w r.m al ki i ti p jv tv lv ov rv) ki i ti al' gl):=fun p jv tv lv ov rv=>ao (H p jv tv lv ov rv) (.cons _ (.cons _ (ai hi).symm))
  refine ao (s:=ljS w q jt r.m (ak r D i) cur rem (q.f12 w r.m al ki i ti) ki i ti al' (aN T++aN T'++gl)) ?_ (.cons _ (.cons _ (ai hi)))
  clear H
  have eg:aN T++aN T'++gl=aN T++[]++aN T'++[]++[]++[]++[]++gl:=by simp
  rw [eg]
  have d1:∀ {a b:Tok},Ok w (d+60) (drAS q.lw q.v q.u q.e [q.s4.a,q.s4.b,q.s4.c,q.s4.d] q.ts i a cur b T F):=fun {a b}=>by have z:=da_all (w:=w) (d:=d+60) (lw:=q.lw) (v:=q.v) (u:=q.u) (e:=q.e) (s4:=q.s4) (ts:=q.ts) (i:=i) (ti:=a) (j:=cur) (tj:=b) (by omega) hv; rw [h1] at z; exact z
  have d2:∀ {a b:Tok},Ok w (d+60) (drAS q.lc q.v' q.u' q.e' [q.s4.a,q.s4.b,q.s4.c,q.s4.d] q.ts i a cur b T' F'):=fun {a b}=>by have z:=da_all (w:=w) (d:=d+60) (lw:=q.lc) (v:=q.v') (u:=q.u') (e:=q.e') (s4:=q.s4) (ts:=q.ts) (i:=i) (ti:=a) (j:=cur) (tj:=b) (by omega) hv'; rw [h2] at z; exact z
  refine yt (fun n t=>yd 0 [] [1] [] (rngS jt cur rem) fun v1=>yc [2] (drAS q.lw q.v q.u q.e [q.s4.a,q.s4.b,q.s4.c,q.s4.d] q.ts i ti cur (v1.a 2) T F) fun v2=>yd 4 [0] [] [3] (drAS q.lc q.v' q.u' q.e' [q.s4.a,q.s4.b,q.s4.c,q.s4.d] q.ts i ti cur (v1.a 2) T' F') fun v3=>yd 4 [0] [] [] (stripS T (v2.a 3) F (aN T)) fun v4=>yc [] (neSS F F (v4.a 2) (v2.a 4) false) fun v5=>yc [] (stripS T' (v3.a 3) F' (aN T')) fun v6=>yc [] (neSS F' F' (v6.a 2) (v3.a 4) false) fun v7=>yc [4] (ag r.m r.rows 4 i ti (.ref (r.at i))) fun v8=>yc [5] (ag (r.at i) (D.rowL i) 4 cur (v1.a 2) (.bool true)) fun v9=>yd 1 [] [] [] (neSS F F' (v2.a 4) (v3.a 4) false) fun v10=>.nil) (fun n t=>xd (aP (by omega) hr.1 hr.2) fun _=>xc d1 fun _=>xd d2 fun _=>xd (strip_ok (by omega) hl.1 ha.1 hs.1) fun _=>xc (az (by simp)) fun _=>xc (strip_ok (by omega) hl.2 ha.2 hs.2) fun _=>xc (az (by simp)) fun _=>xc (ab (by omega) hi.1 (am hi.1 hi.2)) fun _=>xc (ab (by omega) hj.1 (ap hj hb)) fun _=>xd (az (by simpa using he)) fun _=>trivial) (fun n t ω=>((fun v1 v2 v3=>(it5 0 [] [0,1] [2,3,4,5,6,7,8] (ljS w q jt r.m (ak r D i) (cur+1) (rem-1) (q.f17 w r.m al ki i ti ⟨v1.a 1,v2.a 1,v2.a 1+1,v3.a 1,v3.a 1+1,0⟩ (.int cur (v1.a 2)) (.str (S T) (v2.a 3)) (.str (S F) (v2.a 4)) (.str (S T') (v3.a 3)) (.str (S F') (v3.a 4))) ki i ti al' gl))) (ω 0).v (ω 1).v (ω 5).v)) (fun n t ω=>H' _ _ _ _ _ _) 214 [4,0,2,2,0,2,2,2,2,0,20,20,20,1,0,0,20,1,1,1,1,1,20,1,1,1,1,1,1,20,1,1,1,1,1,1,20,1,1,5,0,2,2,0,2,2,0,2,2,2,2,0,24,24,24,1,0,0,24,1,1,1,1,1,24,1,1,1,1,1,1,24,1,1,1,1,1,1,24,1,1,5,0,2,2,0,2,2,0,2,0,2,1,0,0,0,2,0,2,1,0,0,2,2,10,10,10,2,12,12,12,2,2,1,0,0]
theorem lj_0n (hD:d≤340) (hv:∀ i,0≤q.v.at i∧q.v.at i<4) (hv':∀ i,0≤q.v'.at i∧q.v'.at i<4) (hi:0≤i∧i<4) (hj:0≤cur∧cur<4) (hr:0<rem∧rem≤6) (h1:drT q.v q.s4 i cur=(T,F)) (h2:drT q.v' q.s4 i cur=(T',F')) (ha:Asc T∧Asc T') (hs:stripF T=some F∧stripF T'=some F') (hl:T.length≤400∧T'.length≤400) (hb:D.m i cur=true) (he:F≠F')
    (H:∀ p jv tv lv ov rv,Ok w d (ljS w q jt r.m (r.led D) (cur+1) (rem-1) (q.f17 w r.m false ki i ti p jv tv lv ov rv) ki i ti al' gl)):Ok w d (ljS w q jt r.m (r.led D) cur rem (q.f12 w r.m al ki i ti) ki i ti al' (aN T++aN T'++gl)):=by
  have H':∀ p jv tv lv ov rv,Ok w d (ljS w q jt r.m (ak r D i) (cur+1) (rem-1) (q.f17 w r.m false ki i ti p jv tv lv ov rv) ki i ti al' gl):=fun p jv tv lv ov rv=>ao (H p jv tv lv ov rv) (.cons _ (.cons _ (ai hi).symm))
  refine ao (s:=ljS w q jt r.m (ak r D i) cur rem (q.f12 w r.m al ki i ti) ki i ti al' (aN T++aN T'++gl)) ?_ (.cons _ (.cons _ (ai hi)))
  clear H
  have eg:aN T++aN T'++gl=aN T++[]++aN T'++[]++[]++[]++[]++gl:=by simp
  rw [eg]
  have d1:∀ {a b:Tok},Ok w (d+60) (drAS q.lw q.v q.u q.e [q.s4.a,q.s4.b,q.s4.c,q.s4.d] q.ts i a cur b T F):=fun {a b}=>by have z:=da_all (w:=w) (d:=d+60) (lw:=q.lw) (v:=q.v) (u:=q.u) (e:=q.e) (s4:=q.s4) (ts:=q.ts) (i:=i) (ti:=a) (j:=cur) (tj:=b) (by omega) hv; rw [h1] at z; exact z
  have d2:∀ {a b:Tok},Ok w (d+60) (drAS q.lc q.v' q.u' q.e' [q.s4.a,q.s4.b,q.s4.c,q.s4.d] q.ts i a cur b T' F'):=fun {a b}=>by have z:=da_all (w:=w) (d:=d+60) (lw:=q.lc) (v:=q.v') (u:=q.u') (e:=q.e') (s4:=q.s4) (ts:=q.ts) (i:=i) (ti:=a) (j:=cur) (tj:=b) (by omega) hv'; rw [h2] at z; exact z
  refine yt (fun n t=>yd 0 [] [1] [] (rngS jt cur rem) fun v1=>yc [2] (drAS q.lw q.v q.u q.e [q.s4.a,q.s4.b,q.s4.c,q.s4.d] q.ts i ti cur (v1.a 2) T F) fun v2=>yd 4 [0] [] [3] (drAS q.lc q.v' q.u' q.e' [q.s4.a,q.s4.b,q.s4.c,q.s4.d] q.ts i ti cur (v1.a 2) T' F') fun v3=>yd 4 [0] [] [] (stripS T (v2.a 3) F (aN T)) fun v4=>yc [] (neSS F F (v4.a 2) (v2.a 4) false) fun v5=>yc [] (stripS T' (v3.a 3) F' (aN T')) fun v6=>yc [] (neSS F' F' (v6.a 2) (v3.a 4) false) fun v7=>yc [4] (ag r.m r.rows 4 i ti (.ref (r.at i))) fun v8=>yc [5] (ag (r.at i) (D.rowL i) 4 cur (v1.a 2) (.bool true)) fun v9=>yd 1 [] [] [] (neSS F F' (v2.a 4) (v3.a 4) true) fun v10=>.nil) (fun n t=>xd (aP (by omega) hr.1 hr.2) fun _=>xc d1 fun _=>xd d2 fun _=>xd (strip_ok (by omega) hl.1 ha.1 hs.1) fun _=>xc (az (by simp)) fun _=>xc (strip_ok (by omega) hl.2 ha.2 hs.2) fun _=>xc (az (by simp)) fun _=>xc (ab (by omega) hi.1 (am hi.1 hi.2)) fun _=>xc (ab (by omega) hj.1 (ap hj hb)) fun _=>xd (az (by simpa using he)) fun _=>trivial) (fun n t ω=>((fun v1 v2 v3=>(it5 0 [] [0,1] [2,3,4,5,6,7,8] (ljS w q jt r.m (ak r D i) (cur+1) (rem-1) (q.f17 w r.m false ki i ti ⟨v1.a 1,v2.a 1,v2.a 1+1,v3.a 1,v3.a 1+1,0⟩ (.int cur (v1.a 2)) (.str (S T) (v2.a 3)) (.str (S F) (v2.a 4)) (.str (S T') (v3.a 3)) (.str (S F') (v3.a 4))) ki i ti al' gl))) (ω 0).v (ω 1).v (ω 5).v)) (fun n t ω=>H' _ _ _ _ _ _) 222 [4,0,2,2,0,2,2,2,2,0,20,20,20,1,0,0,20,1,1,1,1,1,20,1,1,1,1,1,1,20,1,1,1,1,1,1,20,1,1,5,0,2,2,0,2,2,0,2,2,2,2,0,24,24,24,1,0,0,24,1,1,1,1,1,24,1,1,1,1,1,1,24,1,1,1,1,1,1,24,1,1,5,0,2,2,0,2,2,0,2,0,2,1,0,0,0,2,0,2,1,0,0,2,2,10,10,10,2,12,12,12,2,2,1,0,0,0,2,2]
theorem lj_1f (hD:d≤340) (hv:∀ i,0≤q.v.at i∧q.v.at i<4) (hv':∀ i,0≤q.v'.at i∧q.v'.at i<4) (hi:0≤i∧i<4) (hj:0≤cur∧cur<4) (hr:0<rem∧rem≤6) (h1:drT q.v q.s4 i cur=(T,F)) (h2:drT q.v' q.s4 i cur=(T',F')) (ha:Asc T∧Asc T') (hs:stripF T=some F∧stripF T'=some F') (hl:T.length≤400∧T'.length≤400) (hb:D.m i cur=false)
    (H:∀ p jv tv lv ov rv,Ok w d (ljS w q jt r.m (r.led D) (cur+1) (rem-1) (q.f17 w r.m al ki i ti p jv tv lv ov rv) ki i ti al' gl)):Ok w d (ljS w q jt r.m (r.led D) cur rem (q.f17 w r.m al ki i ti p jv tv lv ov rv) ki i ti al' (aN T++aN T'++gl)):=by
  have H':∀ p jv tv lv ov rv,Ok w d (ljS w q jt r.m (ak r D i) (cur+1) (rem-1) (q.f17 w r.m al ki i ti p jv tv lv ov rv) ki i ti al' gl):=fun p jv tv lv ov rv=>ao (H p jv tv lv ov rv) (.cons _ (.cons _ (ai hi).symm))
  refine ao (s:=ljS w q jt r.m (ak r D i) cur rem (q.f17 w r.m al ki i ti p jv tv lv ov rv) ki i ti al' (aN T++aN T'++gl)) ?_ (.cons _ (.cons _ (ai hi)))
  clear H
  have eg:aN T++aN T'++gl=aN T++[]++aN T'++[]++[]++[]++gl:=by simp
  rw [eg]
  have d1:∀ {a b:Tok},Ok w (d+60) (drAS q.lw q.v q.u q.e [q.s4.a,q.s4.b,q.s4.c,q.s4.d] q.ts i a cur b T F):=fun {a b}=>by have z:=da_all (w:=w) (d:=d+60) (lw:=q.lw) (v:=q.v) (u:=q.u) (e:=q.e) (s4:=q.s4) (ts:=q.ts) (i:=i) (ti:=a) (j:=cur) (tj:=b) (by omega) hv; rw [h1] at z; exact z
  have d2:∀ {a b:Tok},Ok w (d+60) (drAS q.lc q.v' q.u' q.e' [q.s4.a,q.s4.b,q.s4.c,q.s4.d] q.ts i a cur b T' F'):=fun {a b}=>by have z:=da_all (w:=w) (d:=d+60) (lw:=q.lc) (v:=q.v') (u:=q.u') (e:=q.e') (s4:=q.s4) (ts:=q.ts) (i:=i) (ti:=a) (j:=cur) (tj:=b) (by omega) hv'; rw [h2] at z; exact z
  refine yt (fun n t=>yd 0 [] [1] [] (rngS jt cur rem) fun v1=>yc [2] (drAS q.lw q.v q.u q.e [q.s4.a,q.s4.b,q.s4.c,q.s4.d] q.ts i ti cur (v1.a 2) T F) fun v2=>yd 4 [0] [] [3] (drAS q.lc q.v' q.u' q.e' [q.s4.a,q.s4.b,q.s4.c,q.s4.d] q.ts i ti cur (v1.a 2) T' F') fun v3=>yd 4 [0] [] [] (stripS T (v2.a 3) F (aN T)) fun v4=>yc [] (neSS F F (v4.a 2) (v2.a 4) false) fun v5=>yc [] (stripS T' (v3.a 3) F' (aN T')) fun v6=>yc [] (neSS F' F' (v6.a 2) (v3.a 4) false) fun v7=>yc [4] (ag r.m r.rows 4 i ti (.ref (r.at i))) fun v8=>yc [5] (ag (r.at i) (D.rowL i) 4 cur (v1.a 2) (.bool false)) fun v9=>.nil) (fun n t=>xd (aP (by omega) hr.1 hr.2) fun _=>xc d1 fun _=>xd d2 fun _=>xd (strip_ok (by omega) hl.1 ha.1 hs.1) fun _=>xc (az (by simp)) fun _=>xc (strip_ok (by omega) hl.2 ha.2 hs.2) fun _=>xc (az (by simp)) fun _=>xc (ab (by omega) hi.1 (am hi.1 hi.2)) fun _=>xc (ab (by omega) hj.1 (ap hj hb)) fun _=>trivial) (fun n t ω=>((fun v2 v3=>(it5 0 [] [0,1] [2,3,4,5,6,7,8] (ljS w q jt r.m (ak r D i) (cur+1) (rem-1) (q.f17 w r.m al ki i ti p (.int cur ((ω 0).v.a 2)) (.str (S T) (v2.a 3)) (.str (S F) (v2.a 4)) (.str (S T') (v3.a 3)) (.str (S F') (v3.a 4))) ki i ti al' gl))) (ω 1).v (ω 5).v)) (fun n t ω=>H' _ _ _ _ _ _) 207 [4,0,2,2,0,2,2,2,2,0,20,20,20,1,0,0,20,1,1,1,1,1,20,1,1,1,1,1,1,20,1,1,1,1,1,1,20,1,1,5,0,2,2,0,2,2,0,2,2,2,2,0,24,24,24,1,0,0,24,1,1,1,1,1,24,1,1,1,1,1,1,24,1,1,1,1,1,1,24,1,1,5,0,2,2,0,2,2,0,2,0,2,1,0,0,0,2,0,2,1,0,0,2,2,10,10,10,2,12,12,12]
theorem lj_1e (hD:d≤340) (hv:∀ i,0≤q.v.at i∧q.v.at i<4) (hv':∀ i,0≤q.v'.at i∧q.v'.at i<4) (hi:0≤i∧i<4) (hj:0≤cur∧cur<4) (hr:0<rem∧rem≤6) (h1:drT q.v q.s4 i cur=(T,F)) (h2:drT q.v' q.s4 i cur=(T',F')) (ha:Asc T∧Asc T') (hs:stripF T=some F∧stripF T'=some F') (hl:T.length≤400∧T'.length≤400) (hb:D.m i cur=true) (he:F=F')
    (H:∀ p jv tv lv ov rv,Ok w d (ljS w q jt r.m (r.led D) (cur+1) (rem-1) (q.f17 w r.m al ki i ti p jv tv lv ov rv) ki i ti al' gl)):Ok w d (ljS w q jt r.m (r.led D) cur rem (q.f17 w r.m al ki i ti p jv tv lv ov rv) ki i ti al' (aN T++aN T'++gl)):=by
  have H':∀ p jv tv lv ov rv,Ok w d (ljS w q jt r.m (ak r D i) (cur+1) (rem-1) (q.f17 w r.m al ki i ti p jv tv lv ov rv) ki i ti al' gl):=fun p jv tv lv ov rv=>ao (H p jv tv lv ov rv) (.cons _ (.cons _ (ai hi).symm))
  refine ao (s:=ljS w q jt r.m (ak r D i) cur rem (q.f17 w r.m al ki i ti p jv tv lv ov rv) ki i ti al' (aN T++aN T'++gl)) ?_ (.cons _ (.cons _ (ai hi)))
  clear H
  have eg:aN T++aN T'++gl=aN T++[]++aN T'++[]++[]++[]++[]++gl:=by simp
  rw [eg]
  have d1:∀ {a b:Tok},Ok w (d+60) (drAS q.lw q.v q.u q.e [q.s4.a,q.s4.b,q.s4.c,q.s4.d] q.ts i a cur b T F):=fun {a b}=>by have z:=da_all (w:=w) (d:=d+60) (lw:=q.lw) (v:=q.v) (u:=q.u) (e:=q.e) (s4:=q.s4) (ts:=q.ts) (i:=i) (ti:=a) (j:=cur) (tj:=b) (by omega) hv; rw [h1] at z; exact z
  have d2:∀ {a b:Tok},Ok w (d+60) (drAS q.lc q.v' q.u' q.e' [q.s4.a,q.s4.b,q.s4.c,q.s4.d] q.ts i a cur b T' F'):=fun {a b}=>by have z:=da_all (w:=w) (d:=d+60) (lw:=q.lc) (v:=q.v') (u:=q.u') (e:=q.e') (s4:=q.s4) (ts:=q.ts) (i:=i) (ti:=a) (j:=cur) (tj:=b) (by omega) hv'; rw [h2] at z; exact z
  refine yt (fun n t=>yd 0 [] [1] [] (rngS jt cur rem) fun v1=>yc [2] (drAS q.lw q.v q.u q.e [q.s4.a,q.s4.b,q.s4.c,q.s4.d] q.ts i ti cur (v1.a 2) T F) fun v2=>yd 4 [0] [] [3] (drAS q.lc q.v' q.u' q.e' [q.s4.a,q.s4.b,q.s4.c,q.s4.d] q.ts i ti cur (v1.a 2) T' F') fun v3=>yd 4 [0] [] [] (stripS T (v2.a 3) F (aN T)) fun v4=>yc [] (neSS F F (v4.a 2) (v2.a 4) false) fun v5=>yc [] (stripS T' (v3.a 3) F' (aN T')) fun v6=>yc [] (neSS F' F' (v6.a 2) (v3.a 4) false) fun v7=>yc [4] (ag r.m r.rows 4 i ti (.ref (r.at i))) fun v8=>yc [5] (ag (r.at i) (D.rowL i) 4 cur (v1.a 2) (.bool true)) fun v9=>yd 1 [] [] [] (neSS F F' (v2.a 4) (v3.a 4) false) fun v10=>.nil) (fun n t=>xd (aP (by omega) hr.1 hr.2) fun _=>xc d1 fun _=>xd d2 fun _=>xd (strip_ok (by omega) hl.1 ha.1 hs.1) fun _=>xc (az (by simp)) fun _=>xc (strip_ok (by omega) hl.2 ha.2 hs.2) fun _=>xc (az (by simp)) fun _=>xc (ab (by omega) hi.1 (am hi.1 hi.2)) fun _=>xc (ab (by omega) hj.1 (ap hj hb)) fun _=>xd (az (by simpa using he)) fun _=>trivial) (fun n t ω=>((fun v2 v3=>(it5 0 [] [0,1] [2,3,4,5,6,7,8] (ljS w q jt r.m (ak r D i) (cur+1) (rem-1) (q.f17 w r.m al ki i ti p (.int cur ((ω 0).v.a 2)) (.str (S T) (v2.a 3)) (.str (S F) (v2.a 4)) (.str (S T') (v3.a 3)) (.str (S F') (v3.a 4))) ki i ti al' gl))) (ω 1).v (ω 5).v)) (fun n t ω=>H' _ _ _ _ _ _) 214 [4,0,2,2,0,2,2,2,2,0,20,20,20,1,0,0,20,1,1,1,1,1,20,1,1,1,1,1,1,20,1,1,1,1,1,1,20,1,1,5,0,2,2,0,2,2,0,2,2,2,2,0,24,24,24,1,0,0,24,1,1,1,1,1,24,1,1,1,1,1,1,24,1,1,1,1,1,1,24,1,1,5,0,2,2,0,2,2,0,2,0,2,1,0,0,0,2,0,2,1,0,0,2,2,10,10,10,2,12,12,12,2,2,1,0,0]
theorem lj_1n (hD:d≤340) (hv:∀ i,0≤q.v.at i∧q.v.at i<4) (hv':∀ i,0≤q.v'.at i∧q.v'.at i<4) (hi:0≤i∧i<4) (hj:0≤cur∧cur<4) (hr:0<rem∧rem≤6) (h1:drT q.v q.s4 i cur=(T,F)) (h2:drT q.v' q.s4 i cur=(T',F')) (ha:Asc T∧Asc T') (hs:stripF T=some F∧stripF T'=some F') (hl:T.length≤400∧T'.length≤400) (hb:D.m i cur=true) (he:F≠F')
    (H:∀ p jv tv lv ov rv,Ok w d (ljS w q jt r.m (r.led D) (cur+1) (rem-1) (q.f17 w r.m false ki i ti p jv tv lv ov rv) ki i ti al' gl)):Ok w d (ljS w q jt r.m (r.led D) cur rem (q.f17 w r.m al ki i ti p jv tv lv ov rv) ki i ti al' (aN T++aN T'++gl)):=by
  have H':∀ p jv tv lv ov rv,Ok w d (ljS w q jt r.m (ak r D i) (cur+1) (rem-1) (q.f17 w r.m false ki i ti p jv tv lv ov rv) ki i ti al' gl):=fun p jv tv lv ov rv=>ao (H p jv tv lv ov rv) (.cons _ (.cons _ (ai hi).symm))
  refine ao (s:=ljS w q jt r.m (ak r D i) cur rem (q.f17 w r.m al ki i ti p jv tv lv ov rv) ki i ti al' (aN T++aN T'++gl)) ?_ (.cons _ (.cons _ (ai hi)))
  clear H
  have eg:aN T++aN T'++gl=aN T++[]++aN T'++[]++[]++[]++[]++gl:=by simp
  rw [eg]
  have d1:∀ {a b:Tok},Ok w (d+60) (drAS q.lw q.v q.u q.e [q.s4.a,q.s4.b,q.s4.c,q.s4.d] q.ts i a cur b T F):=fun {a b}=>by have z:=da_all (w:=w) (d:=d+60) (lw:=q.lw) (v:=q.v) (u:=q.u) (e:=q.e) (s4:=q.s4) (ts:=q.ts) (i:=i) (ti:=a) (j:=cur) (tj:=b) (by omega) hv; rw [h1] at z; exact z
  have d2:∀ {a b:Tok},Ok w (d+60) (drAS q.lc q.v' q.u' q.e' [q.s4.a,q.s4.b,q.s4.c,q.s4.d] q.ts i a cur b T' F'):=fun {a b}=>by have z:=da_all (w:=w) (d:=d+60) (lw:=q.lc) (v:=q.v') (u:=q.u') (e:=q.e') (s4:=q.s4) (ts:=q.ts) (i:=i) (ti:=a) (j:=cur) (tj:=b) (by omega) hv'; rw [h2] at z; exact z
  refine yt (fun n t=>yd 0 [] [1] [] (rngS jt cur rem) fun v1=>yc [2] (drAS q.lw q.v q.u q.e [q.s4.a,q.s4.b,q.s4.c,q.s4.d] q.ts i ti cur (v1.a 2) T F) fun v2=>yd 4 [0] [] [3] (drAS q.lc q.v' q.u' q.e' [q.s4.a,q.s4.b,q.s4.c,q.s4.d] q.ts i ti cur (v1.a 2) T' F') fun v3=>yd 4 [0] [] [] (stripS T (v2.a 3) F (aN T)) fun v4=>yc [] (neSS F F (v4.a 2) (v2.a 4) false) fun v5=>yc [] (stripS T' (v3.a 3) F' (aN T')) fun v6=>yc [] (neSS F' F' (v6.a 2) (v3.a 4) false) fun v7=>yc [4] (ag r.m r.rows 4 i ti (.ref (r.at i))) fun v8=>yc [5] (ag (r.at i) (D.rowL i) 4 cur (v1.a 2) (.bool true)) fun v9=>yd 1 [] [] [] (neSS F F' (v2.a 4) (v3.a 4) true) fun v10=>.nil) (fun n t=>xd (aP (by omega) hr.1 hr.2) fun _=>xc d1 fun _=>xd d2 fun _=>xd (strip_ok (by omega) hl.1 ha.1 hs.1) fun _=>xc (az (by simp)) fun _=>xc (strip_ok (by omega) hl.2 ha.2 hs.2) fun _=>xc (az (by simp)) fun _=>xc (ab (by omega) hi.1 (am hi.1 hi.2)) fun _=>xc (ab (by omega) hj.1 (ap hj hb)) fun _=>xd (az (by simpa using he)) fun _=>trivial) (fun n t ω=>((fun v2 v3=>(it5 0 [] [0,1] [2,3,4,5,6,7,8] (ljS w q jt r.m (ak r D i) (cur+1) (rem-1) (q.f17 w r.m false ki i ti p (.int cur ((ω 0).v.a 2)) (.str (S T) (v2.a 3)) (.str (S F) (v2.a 4)) (.str (S T') (v3.a 3)) (.str (S F') (v3.a 4))) ki i ti al' gl))) (ω 1).v (ω 5).v)) (fun n t ω=>H' _ _ _ _ _ _) 222 [4,0,2,2,0,2,2,2,2,0,20,20,20,1,0,0,20,1,1,1,1,1,20,1,1,1,1,1,1,20,1,1,1,1,1,1,20,1,1,5,0,2,2,0,2,2,0,2,2,2,2,0,24,24,24,1,0,0,24,1,1,1,1,1,24,1,1,1,1,1,1,24,1,1,1,1,1,1,24,1,1,5,0,2,2,0,2,2,0,2,0,2,1,0,0,0,2,0,2,1,0,0,2,2,10,10,10,2,12,12,12,2,2,1,0,0,0,2,2]
theorem lj_x (hD:d≤340) {cur:Int}:Ok w d (ljS w q jt r.m (r.led D) cur 0 (q.f17 w r.m al ki i ti p jv tv lv ov rv) ki i ti al []):=by
  refine yv (fun n t=>.nil) (fun n t=>trivial) 15 [4,4,4,4,4,3] (fun n t ω=>nu [(n+2),t,p.a,p.b,p.c,p.d,p.e,p.f] [rangeO cur 0] [jv,tv,lv,ov,rv])
end
noncomputable def alIt (D:Dp) (v v':V6 Int) (s4:V4 Nat) (i:Int):Nat→Int→Bool→Bool
  | 0,_,a=>a
  | n+1,j,a=>alIt D v v' s4 i n (j+1) (if D.m i j && decide ((drT v s4 i j).2≠(drT v' s4 i j).2) then false else a)
noncomputable def glIt (v v':V6 Int) (s4:V4 Nat) (i:Int):Nat→Int→List GenState
  | 0,_=>[]
  | n+1,j=>aN (drT v s4 i j).1++aN (drT v' s4 i j).1++glIt v v' s4 i n (j+1)
structure Dr (v:V6 Int) (s4:V4 Nat):Prop where
  asc:∀ i j,Asc (drT v s4 i j).1
  len:∀ i j,(drT v s4 i j).1.length≤400
  str:∀ i j,stripF (drT v s4 i j).1=some (drT v s4 i j).2
noncomputable def Lq.f11 (q:Lq) (w:World) (rm:Addr) (al:Bool):Obj:=frm ⟨q.es w rm al⟩ 11
section
variable {w:World} {d:Nat} {q:Lq} {jt it:Addr} {r:R4} {D:Dp} {ki:Tok} {i:Int} {ti:Tok} {al al':Bool} {gl:List GenState}
theorem lj_turn {cur rem:Int} {p:V6 Tok} {jv tv lv ov rv:Value} (hD:d≤340) (hv:∀ i,0≤q.v.at i∧q.v.at i<4) (hv':∀ i,0≤q.v'.at i∧q.v'.at i<4) (hi:0≤i∧i<4) (hj:0≤cur∧cur<4) (hr:0<rem∧rem≤6) (h1:Dr q.v q.s4) (h2:Dr q.v' q.s4)
    (H:∀ p jv tv lv ov rv,Ok w d (ljS w q jt r.m (r.led D) (cur+1) (rem-1) (q.f17 w r.m (if D.m i cur && decide ((drT q.v q.s4 i cur).2≠(drT q.v' q.s4 i cur).2) then false else al) ki i ti p jv tv lv ov rv) ki i ti al' gl)):Ok w d (ljS w q jt r.m (r.led D) cur rem (q.f17 w r.m al ki i ti p jv tv lv ov rv) ki i ti al' (aN (drT q.v q.s4 i cur).1++aN (drT q.v' q.s4 i cur).1++gl)):=by
  have a:=h1.asc i cur
  have b:=h1.len i cur
  have c:=h1.str i cur
  have a':=h2.asc i cur
  have b':=h2.len i cur
  have c':=h2.str i cur
  cases hm:D.m i cur with
  | false=>
    rw [hm] at H
    exact lj_1f hD hv hv' hi hj hr rfl rfl ⟨a,a'⟩ ⟨c,c'⟩ ⟨b,b'⟩ hm H
  | true=>
    rw [hm] at H
    by_cases he:(drT q.v q.s4 i cur).2=(drT q.v' q.s4 i cur).2
    · rw [if_neg (by simpa using he)] at H
      exact lj_1e hD hv hv' hi hj hr rfl rfl ⟨a,a'⟩ ⟨c,c'⟩ ⟨b,b'⟩ hm he H
    · rw [if_pos (by simpa using he)] at H
      exact lj_1n hD hv hv' hi hj hr rfl rfl ⟨a,a'⟩ ⟨c,c'⟩ ⟨b,b'⟩ hm he H
theorem lj_turn0 {cur rem:Int} (hD:d≤340) (hv:∀ i,0≤q.v.at i∧q.v.at i<4) (hv':∀ i,0≤q.v'.at i∧q.v'.at i<4) (hi:0≤i∧i<4) (hj:0≤cur∧cur<4) (hr:0<rem∧rem≤6) (h1:Dr q.v q.s4) (h2:Dr q.v' q.s4)
    (H:∀ p jv tv lv ov rv,Ok w d (ljS w q jt r.m (r.led D) (cur+1) (rem-1) (q.f17 w r.m (if D.m i cur && decide ((drT q.v q.s4 i cur).2≠(drT q.v' q.s4 i cur).2) then false else al) ki i ti p jv tv lv ov rv) ki i ti al' gl)):Ok w d (ljS w q jt r.m (r.led D) cur rem (q.f12 w r.m al ki i ti) ki i ti al' (aN (drT q.v q.s4 i cur).1++aN (drT q.v' q.s4 i cur).1++gl)):=by
  have a:=h1.asc i cur
  have b:=h1.len i cur
  have c:=h1.str i cur
  have a':=h2.asc i cur
  have b':=h2.len i cur
  have c':=h2.str i cur
  cases hm:D.m i cur with
  | false=>
    rw [hm] at H
    exact lj_0f hD hv hv' hi hj hr rfl rfl ⟨a,a'⟩ ⟨c,c'⟩ ⟨b,b'⟩ hm H
  | true=>
    rw [hm] at H
    by_cases he:(drT q.v q.s4 i cur).2=(drT q.v' q.s4 i cur).2
    · rw [if_neg (by simpa using he)] at H
      exact lj_0e hD hv hv' hi hj hr rfl rfl ⟨a,a'⟩ ⟨c,c'⟩ ⟨b,b'⟩ hm he H
    · rw [if_pos (by simpa using he)] at H
      exact lj_0n hD hv hv' hi hj hr rfl rfl ⟨a,a'⟩ ⟨c,c'⟩ ⟨b,b'⟩ hm he H
theorem lj_loop (hD:d≤340) (hv:∀ i,0≤q.v.at i∧q.v.at i<4) (hv':∀ i,0≤q.v'.at i∧q.v'.at i<4) (hi:0≤i∧i<4) (h1:Dr q.v q.s4) (h2:Dr q.v' q.s4):∀ (n:Nat) (cur rem:Int) (al:Bool) (p:V6 Tok) (jv tv lv ov rv:Value),0≤cur→cur+n=4→rem=n →
    Ok w d (ljS w q jt r.m (r.led D) cur rem (q.f17 w r.m al ki i ti p jv tv lv ov rv) ki i ti (alIt D q.v q.v' q.s4 i n cur al) (glIt q.v q.v' q.s4 i n cur))
  | 0,cur,rem,al,p,jv,tv,lv,ov,rv,h0,h4,hr=>by
    obtain rfl:rem=0:=by omega
    exact lj_x hD
  | n+1,cur,rem,al,p,jv,tv,lv,ov,rv,h0,h4,hr=>by
    refine lj_turn hD hv hv' hi ⟨h0,by omega⟩ ⟨by omega,by omega⟩ h1 h2 fun p jv tv lv ov rv=>?_
    exact lj_loop hD hv hv' hi h1 h2 n (cur+1) (rem-1) _ p jv tv lv ov rv (by omega) (by omega) (by omega)
theorem lj_all0 (hD:d≤340) (hv:∀ i,0≤q.v.at i∧q.v.at i<4) (hv':∀ i,0≤q.v'.at i∧q.v'.at i<4) (hi:0≤i∧i<4) (h1:Dr q.v q.s4) (h2:Dr q.v' q.s4):Ok w d (ljS w q jt r.m (r.led D) 1 3 (q.f12 w r.m al ki i ti) ki i ti (alIt D q.v q.v' q.s4 i 3 1 al) (glIt q.v q.v' q.s4 i 3 1)):=
  lj_turn0 hD hv hv' hi (by decide) (by decide) h1 h2 fun p jv tv lv ov rv=>lj_loop hD hv hv' hi h1 h2 2 2 2 _ p jv tv lv ov rv (by decide) (by decide) (by decide)
noncomputable def alAll (D:Dp) (v v':V6 Int) (s4:V4 Nat):Bool:=alIt D v v' s4 2 1 3 (alIt D v v' s4 1 2 2 (alIt D v v' s4 0 3 1 true))
noncomputable def glAll (v v':V6 Int) (s4:V4 Nat):List GenState:=glIt v v' s4 0 3 1++glIt v v' s4 1 2 2++glIt v v' s4 2 1 3
noncomputable def poS (w:World) (q:Lq) (it rm:Addr) (led:Led) (al':Bool) (gl:List GenState):Sm where
  c:=forC (sto 23 16) (.ref it) q.env
  mpre:=[(q.L,q.f11 w rm true),(it,rangeO 0 4)]
  rpre:=(q.lw,li6 q.v q.u q.e)::(q.lc,li6 q.v' q.u' q.e')::led
  post o:=[(q.L,q.f17 w rm al' (o.a 8) 3 (o.a 9) ⟨o.a 2,o.a 3,o.a 4,o.a 5,o.a 6,o.a 7⟩ (o.x 0) (o.x 1) (o.x 2) (o.x 3) (o.x 4)),(it,o.o 0)]
  news _:=[]
  res _:=.ok .next
  gens:=gl
theorem po_all (hD:d≤280) (hv:∀ i,0≤q.v.at i∧q.v.at i<4) (hv':∀ i,0≤q.v'.at i∧q.v'.at i<4) (h1:Dr q.v q.s4) (h2:Dr q.v' q.s4):Ok w d (poS w q it r.m (r.led D) (alAll D q.v q.v' q.s4) (glAll q.v q.v' q.s4)):=by
  refine yv (fun n t=>yd 6 [0,1] [0,10] [2,3,4,5,6,7,8] (ljS w q (n+1) r.m (r.led D) 1 3 (q.f12 w r.m true (t+1) 0 t) (t+1) 0 t (alIt D q.v q.v' q.s4 0 3 1 true) (glIt q.v q.v' q.s4 0 3 1)) fun v1=>yd 6 [0,1] [0,12] [2,3,4,5,6,7,8] (ljS w q (v1.a 0+1) r.m (r.led D) 2 2 (q.f17 w r.m (alIt D q.v q.v' q.s4 0 3 1 true) (t+1) 1 (v1.a 1) ⟨v1.a 2,v1.a 3,v1.a 4,v1.a 5,v1.a 6,v1.a 7⟩ (v1.x 0) (v1.x 1) (v1.x 2) (v1.x 3) (v1.x 4)) (t+1) 1 (v1.a 1) (alIt D q.v q.v' q.s4 1 2 2 (alIt D q.v q.v' q.s4 0 3 1 true)) (glIt q.v q.v' q.s4 1 2 2)) fun v2=>yd 6 [0,1] [0,14] [2,3,4,5,6,7,8] (ljS w q (v2.a 0+1) r.m (r.led D) 3 1 (q.f17 w r.m (alIt D q.v q.v' q.s4 1 2 2 (alIt D q.v q.v' q.s4 0 3 1 true)) (t+1) 2 (v2.a 1) ⟨v2.a 2,v2.a 3,v2.a 4,v2.a 5,v2.a 6,v2.a 7⟩ (v2.x 0) (v2.x 1) (v2.x 2) (v2.x 3) (v2.x 4)) (t+1) 2 (v2.a 1) (alIt D q.v q.v' q.s4 2 1 3 (alIt D q.v q.v' q.s4 1 2 2 (alIt D q.v q.v' q.s4 0 3 1 true))) (glIt q.v q.v' q.s4 2 1 3)) fun v3=>.nil) (fun n t=>xd (lj_all0 (by omega) hv hv' (by decide) h1 h2) fun _=>xd (lj_loop (by omega) hv hv' (by decide) h1 h2 2 2 2 _ _ _ _ _ _ _ (by decide) (by decide) (by decide)) fun _=>xd (lj_loop (by omega) hv hv' (by decide) h1 h2 1 3 1 _ _ _ _ _ _ _ (by decide) (by decide) (by decide)) fun _=>trivial) 295 [4,4,4,4,4,4,4,4,4,0,2,2,0,0,2,1,1,1,1,1,1,1,0,0,1,1,1,1,3,4,4,4,4,4,4,4,4,4,0,2,2,0,0,2,1,1,1,1,1,1,1,0,0,1,1,1,1,3,4,4,4,4,4,4,4,4,4,0,2,2,0,0,2,1,1,1,1,1,1,1,0,0,1,1,1,1,3,4,4,4,4,4,4,4,4,4,0,2,2,0,0,2,1,1,1,1,1,1,1,0,0,1,1,1,1,3,3,3,3,3,3,7,4,4,4,4,4,11] (fun n t ω=>((fun v3=>nu [(v3.a 0+6),(v3.a 1+6),v3.a 2,v3.a 3,v3.a 4,v3.a 5,v3.a 6,v3.a 7,t+1,v3.a 1] [rangeO 4 0] [v3.x 0,v3.x 1,v3.x 2,v3.x 3,v3.x 4]) (ω 83).v))
end
noncomputable def asgT:Stmt→List Expr
  | .Assign ts _ _=>ts
  | _=>[]
noncomputable def asgK (tg:List Expr) (ve:Expr) (env:Env) (v:Value):Sem Flow:=
  PySem.W.R.bindR (PySem.W.Fast.tw4016559146275205325 tg ve env) fun x=>PySem.W.Fast.tw2470068587113613483 env v x (PySem.W.R.mapR (fun x=>x.snd) (PySem.W.Fast.tw15628205474173192105 tg env))
noncomputable def ctxA (tg:List Expr) (ve:Expr) (rest:List Stmt) (env:Env) (m:Sem Value):Sem Fin:=
  PySem.W.R.bindR (PySem.W.R.onRaiseR (PySem.W.R.bindR (PySem.W.R.bindR m (asgK tg ve env)) (restF rest env)) fun e=>PySem.W.Fast.tw9442747609961115081 env e) endB
theorem ctxA_room {tg:List Expr} {ve:Expr} {rest:List Stmt} {env:Env} {m m₁:Sem Value} (h:RoomT m m₁):RoomT (ctxA tg ve rest env m) (ctxA tg ve rest env m₁):=
  (((h.bind _).bind _).onRaise _).bind _
noncomputable def valC (l r:Addr) (m:Sem Value):Sem Value:=PySem.W.Fast.tw8004119333741010377 [.ref l,.ref r] m
theorem valC_room {l r:Addr} {m m₁:Sem Value} (h:RoomT m m₁):RoomT (valC l r m) (valC l r m₁):=by
  have z:∃ X:Value→Sem Value,∀ m,PySem.W.Fast.tw8004119333741010377 [.ref l,.ref r] m=PySem.W.R.bindR (PySem.W.R.keepR [.ref l,.ref r] m) X:=⟨_,fun _=>rfl⟩
  obtain ⟨X,hX⟩:=z
  unfold valC
  rw [hX,hX]
  exact (h.keep _).bind X
noncomputable abbrev swA (k j:Nat) (env:Env) (op:CmpOp) (a b:Addr):Sw:=⟨ctxA (asgT (sto k j)) (asgE (sto k j)) (dropS (j+1) (fnb k)) env (valC a b (cmpT op a b)),PySem.W.R.bindR (roomF "comparison") fun _=>ctxA (asgT (sto k j)) (asgE (sto k j)) (dropS (j+1) (fnb k)) env (valC a b (afterLook (cmpT op a b)))⟩
theorem swA_ok {k j:Nat} {env:Env} {op:CmpOp} {a b:Addr}:∀ V:VS,SwapOk V (swA k j env op a b).t₀ (swA k j env op a b).t₁:=room_swap (ctxA_room (valC_room (cmpT_room op a b)))
noncomputable def lnX (w:World) (L it acc dct csc cow sc ow:Addr) (ns:List Int) (f:Nat→Nat) (e:Nat) (u:V6 Tok) (X:V6 Int):Sm where
  c:=.compStart (asgE (sto 23 1)) 0 (.ref it) (.ref acc) (lE1 dct L csc cow)
  mpre:=[(it,rangeO 0 6),(acc,lst #[] 0),(dct,aV)]
  rpre:=[(csc,aB (some (.ref sc))),(cow,aB (some (.ref ow))),(sc,lst ⟨ba ns f⟩ e),(ow,li6 ownV u 0)]
  post v:=[(it,v.o 0),(acc,li6 X ⟨v.a 2,v.a 3,v.a 4,v.a 5,v.a 6,v.a 7⟩ 6),(dct,kdF w 1 (v.a 8) (v.x 0))]
  news _:=[]
  res _:=.ok .next
noncomputable def numX (ns:List Int):V6 Int:=⟨numF ns 0,numF ns 1,numF ns 2,numF ns 3,numF ns 4,numF ns 5⟩
theorem lnX_ok {w:World} {d:Nat} {L it acc dct csc cow sc ow:Addr} {ns:List Int} {f:Nat→Nat} {e:Nat} {u:V6 Tok} {X:V6 Int} (hD:d≤600) (hn:ns.length≤1000) (hX:X=numX ns):Ok w d (lnX w L it acc dct csc cow sc ow ns f e u X):=by
  subst hX
  exact ln_ok hD hn
noncomputable def slcV (t:Tok) (a:Addr) (i:Int) (ui uj:Tok) (s4:V4 Nat):Sm where
  c:=bi "str.__getitem__" [.str (S SG) t,.ref a]
  mpre:=[]
  rpre:=[(a,slO i ui (.int (i+4) uj))]
  post _:=[]
  news _:=[]
  res v:=.ok (.ret (.str (S [s4.a,s4.b,s4.c,s4.d]) (v.a 2)))
theorem slcV_ok {w:World} {D:Nat} {t:Tok} {a:Addr} {i:Int} {ui uj:Tok} {s4:V4 Nat} (h:0≤i∧i<8) (hs:s4=sgF i):Ok w D (slcV t a i ui uj s4):=by
  subst hs
  exact slcI_ok h
noncomputable def wX (X:V6 Int):V6 Int:=⟨X.a.fmod 4,X.b.fmod 4,X.c.fmod 4,X.d.fmod 4,X.e.fmod 4,X.f.fmod 4⟩
noncomputable def dX (X:V6 Int):Dp:=⟨dep X.a,dep X.b,dep X.c,dep X.d,dep X.e,dep X.f⟩
noncomputable def nmV (s4:V4 Nat) (v:V6 Int) (F:Nat→Nat→Nat):V4 (List Value):=⟨au (cnams s4.a (aZ v 0)) (F 0),au (cnams s4.b (aZ v 1)) (F 1),au (cnams s4.c (aZ v 2)) (F 2),au (cnams s4.d (aZ v 3)) (F 3)⟩
theorem fm8 (r:Int):0≤r.fmod 8∧r.fmod 8<8:=by
  rw [Int.fmod_eq_emod_of_nonneg _ (by decide)]; omega
theorem fm4 (r:Int):0≤r.fmod 4∧r.fmod 4<4:=by
  rw [Int.fmod_eq_emod_of_nonneg _ (by decide)]; omega
theorem wX_in (X:V6 Int):∀ i,0≤(wX X).at i∧(wX X).at i<4:=by
  intro i
  unfold V6.at sel6 wX
  split <;> exact fm4 _
theorem chgIt_in {P:Int→Prop} {D:Dp} {X:V6 Int}:∀ (n:Nat) (k:Int) {s:Chg},(∀ j,P (s.v.at j))→∀ j,P ((chgIt D X n k s).v.at j)
  | 0,_,_,h=>h
  | n+1,k,_,h=>chgIt_in n (k+1) (chgF_in h)
theorem cnams_len (s:Nat):∀ n,(cnams s n).length=n
  | 0=>rfl
  | n+1=>congrArg (·+1) (cnams_len s n)
theorem nmV_len (s4:V4 Nat) (v:V6 Int) (F:Nat→Nat→Nat) (i:Int):((nmV s4 v F).at i).length≤6:=by
  unfold V4.at sel4 nmV
  split <;> (rw [aO,cnams_len]; exact cntF_le _ _)
theorem svals_str:∀ (l:List (List Nat)) (f:Nat→Nat),∀ v∈au l f,∃ sv tv,v=.str sv tv
  | [],_,_,h=>nomatch h
  | x::l,f,v,h=>by
    rcases List.mem_cons.mp h with rfl | h
    · exact ⟨_,_,rfl⟩
    · exact svals_str l _ v h
theorem nmV_str (s4:V4 Nat) (v:V6 Int) (F:Nat→Nat→Nat) (i:Int):∀ x∈(nmV s4 v F).at i,∃ sv tv,x=.str sv tv:=by
  unfold V4.at sel4 nmV
  split <;> exact svals_str _ _
theorem po_al {w:World} {d:Nat} {q:Lq} {it:Addr} {r:R4} {D:Dp} {al:Bool} (hD:d≤280) (hv:∀ i,0≤q.v.at i∧q.v.at i<4) (hv':∀ i,0≤q.v'.at i∧q.v'.at i<4) (h1:Dr q.v q.s4) (h2:Dr q.v' q.s4) (hal:alAll D q.v q.v' q.s4=al) {G:List GenState} (hG:glAll q.v q.v' q.s4=G):Ok w d (poS w q it r.m (r.led D) al G):=hal ▸ hG ▸ po_all hD hv hv' h1 h2
noncomputable def lawS (w:World) (sc:Addr) (ns:List Int) (f:Nat→Nat) (e:Nat) (gl:List GenState):Sm where
  c:=.call (.ref 164) ⟨[.ref sc],[]⟩
  mpre:=[(113,⟨.none,none,.fields #[],#[]⟩)]
  rpre:=[(sc,lst ⟨ba ns f⟩ e)]
  post v:=[(113,tabO (v.a 2) (v.a 3))]
  news _:=[]
  res _:=.ok (.ret (.bool true))
  gens:=gl
section
variable {w:World} {d:Nat} {sc:Addr} {ns:List Int} {f:Nat→Nat} {e:Nat} {X:V6 Int} {r:Int} {gl:List GenState} {s4:V4 Nat} {cv:V6 Int} {Q Q':(Nat→Nat→Nat)→V6 Nm} {lv lv':List (List (List Nat))} {B:V6 Int} {al:Bool} {M:Int} {Mn:Nat}
theorem law_t (hD:d≤40) (hn:ns.length≤63) (hX:X=numX ns) (hr:[X.a,X.b,X.c,X.d,X.e,X.f].sum=r) (hs4:s4=sgF (r.fmod 8)) (hc:⟨cv,true⟩=chgIt (dX X) X 6 0 ⟨wX X,true⟩)
    (hQ:∀ F,rowIt2 cv (nmV s4 (wX X) F) 6 0 ⟨0,0,0,0⟩ []=some (qrow (Q F)))
    (hg:∀ F,∀ q∈[(Q F).a,(Q F).b,(Q F).c,(Q F).d,(Q F).e,(Q F).f],q.good s4) (hlv:∀ F,lv=bk (rndsF (dX X) 6 [(Q F).a,(Q F).b,(Q F).c,(Q F).d,(Q F).e,(Q F).f])) (hS:aR [s4.a,s4.b,s4.c,s4.d] s4)
    (hht:∀ rl er ts r F,Ok w (d+60) (htS rl (Q F).a (Q F).b (Q F).c (Q F).d (Q F).e (Q F).f er [s4.a,s4.b,s4.c,s4.d] ts r (dX X) B)) (hM:maxIt B 5 1 B.a=M) (hM6:1≤M∧M≤6) (hMn:M=(Mn:Nat)) (hQ':∀ F,rowIt2 (wX X) (nmV s4 (wX X) F) 6 0 ⟨0,0,0,0⟩ []=some (qrow (Q' F))) (hg':∀ F,∀ q∈[(Q' F).a,(Q' F).b,(Q' F).c,(Q' F).d,(Q' F).e,(Q' F).f],q.good s4) (hlv':∀ F,lv'=bk (rndsF (dX X) 6 [(Q' F).a,(Q' F).b,(Q' F).c,(Q' F).d,(Q' F).e,(Q' F).f])) (hal:alAll (dX X) (wX X) cv s4=al) (hG:glAll (wX X) cv s4=gl) (hsm:decide (lv'=lv)=true) (hdr:Dr (wX X) s4) (hdr':Dr cv s4) (hlv2:∀ F,lv=bk (lvlsF B (Q F) Mn 1)):Ok w d (lawS w sc ns f e (gl++[]++[]++[])):=by
  have hw:=wX_in X
  have hcv:∀ i,0≤cv.at i∧cv.at i<4:=by
    have z:=chgIt_in (P:=fun i=>0≤i∧i<4) (D:=dX X) (X:=X) 6 0 (s:=⟨wX X,true⟩) hw
    rw [← hc] at z
    exact z
  have hsg:∀ i,0≤i→i<4→s4.at i∈abc8:=hs4 ▸ sgF_in _
  have has:Asc [s4.a,s4.b,s4.c,s4.d]:=hs4 ▸ sgF_asc _
  have hN:=nmV_len s4 (wX X)
  have hNS:=nmV_str s4 (wX X)
  refine yv (fun n t=>yd 4 [0,1,2,3,4,5,6,7,8,9] [9,10,11] [3,4,1,7] (lnX w n (n+7) (n+8) (n+9) (n+1) (n+2) sc (n+5) ns f e ⟨t,t+1,t+2,t+3,t+4,t+5⟩ X) fun v1=>yc [10] (sumS (n+8) [X.a,X.b,X.c,X.d,X.e,X.f] (fun j=>v1.a (j+2)) 6 r) fun v2=>yd 2 [0] [] [12] (slcV (v2.a 1+3) (v2.a 0) (r.fmod 8) (v2.a 1+1) (v2.a 1+5) s4) fun v3=>.cons (it5 21 [0,1,2] [] [10] (dependsS (n+8) X.a X.b X.c X.d X.e X.f (v1.a 2) (v1.a 3) (v1.a 4) (v1.a 5) (v1.a 6) (v1.a 7) 6)) fun v4=>yc [14,10,16,17,18,19,20] (changedS (v3.a 0+1) (n+8) ⟨v4.a 2,v4.a 3,v4.a 4,v4.a 5,v4.a 6⟩ (dX X) (wX X) ⟨v3.a 1+3,v3.a 1+6,v3.a 1+9,v3.a 1+12,v3.a 1+15,v3.a 1+18⟩ 6 X ⟨v1.a 2,v1.a 3,v1.a 4,v1.a 5,v1.a 6,v1.a 7⟩ 6 ⟨cv,true⟩) fun v5=>yd 4 [0] [0] [14,10] (nmS w (v3.a 0+1) (n+8) s4 (v3.a 2) (wX X) ⟨v3.a 1+3,v3.a 1+6,v3.a 1+9,v3.a 1+12,v3.a 1+15,v3.a 1+18⟩ 6 X ⟨v1.a 2,v1.a 3,v1.a 4,v1.a 5,v1.a 6,v1.a 7⟩ 6) fun v6=>yc [22,24,25,26,27,28] (rowAllS2 (v5.a 3) ⟨v6.a 2,v6.a 3,v6.a 5,v6.a 7,v6.a 9⟩ cv ⟨v5.a 4,v5.a 5,v5.a 6,v5.a 7,v5.a 8,v5.a 9⟩ 1 (nmV s4 (wX X) v6.f) ⟨v6.a 4,v6.a 6,v6.a 8,v6.a 10⟩ (v6.a 13) (qrow (Q v6.f))) fun v7=>.cons ⟨0,[],[],[30,0,29,16,17,18,19,20],rndAllS (v7.a 2) (Q v6.f).a (Q v6.f).b (Q v6.f).c (Q v6.f).d (Q v6.f).e (Q v6.f).f (v7.a 3) [s4.a,s4.b,s4.c,s4.d] (v3.a 2) ⟨v4.a 2,v4.a 3,v4.a 4,v4.a 5,v4.a 6⟩ (dX X) (v6.a 11) (v6.a 12) (fun i=>v6.a (i+14)) lv,[],some 1⟩ fun v8=>yc [30,16,17,18,19,20] (htS (v7.a 2) (Q v6.f).a (Q v6.f).b (Q v6.f).c (Q v6.f).d (Q v6.f).e (Q v6.f).f (v7.a 3) [s4.a,s4.b,s4.c,s4.d] (v3.a 2) ⟨v4.a 2,v4.a 3,v4.a 4,v4.a 5,v4.a 6⟩ (dX X) B) fun v9=>yc [32] (mxS (v9.a 2) B ⟨v9.a 3,v9.a 4,v9.a 5,v9.a 6,v9.a 7,v9.a 8⟩ M) fun v10=>yd 4 [0] [] [33] (rgI (v10.a 0) M (v9.a 1) (v10.a 1+1) (v10.a 1+2)) fun v11=>.cons ⟨0,[0,1,2],[34,35,37,36],[5,6,30,32],losS w n (v11.a 2) (v11.a 0) (v11.a 0+1) (n+3) (v11.a 0+2) (n+4) (v7.a 2) (v9.a 2) B ⟨v9.a 3,v9.a 4,v9.a 5,v9.a 6,v9.a 7,v9.a 8⟩ (Q v6.f) (v7.a 3) M lv,[],some 0⟩ fun v12=>.swap  (swB 23 14 (lawE n (n+1) (n+2) (n+3) (n+4)) .NotEq (v8.a 2) (v11.a 0)).t₀ (swB 23 14 (lawE n (n+1) (n+2) (n+3) (n+4)) .NotEq (v8.a 2) (v11.a 0)).t₁ <| .cons ⟨0,[],[],[31,35],rcS "list.__ne__" (v8.a 2) (v11.a 0) lv v8.f (v8.a 3) lv v12.f (v12.a 2) false,[0,1],none⟩ fun v14=>yd 4 [0,1] [2,39] [14,22,16,17,18,19,20] (poS w ⟨n,n+1,n+2,n+3,n+4,v3.a 0+1,v5.a 3,n+8,v6.a 2,v8.a 2,v11.a 0,⟨v1.a 1,v2.a 1+2,v3.a 1,v3.a 1+19,v4.a 1,v5.a 1,v5.a 1+1,v6.a 1,v8.a 1⟩,v12.a 1,v14.a 1,wX X,⟨v3.a 1+3,v3.a 1+6,v3.a 1+9,v3.a 1+12,v3.a 1+15,v3.a 1+18⟩,6,cv,⟨v5.a 4,v5.a 5,v5.a 6,v5.a 7,v5.a 8,v5.a 9⟩,1,s4,v3.a 2,r.fmod 8,v2.a 1+1,true⟩ (v14.a 0+1) (v4.a 2) (R4.led ⟨v4.a 2,v4.a 3,v4.a 4,v4.a 5,v4.a 6⟩ (dX X)) al gl) fun v15=>yc [14,24,25,26,27,28] (rowAllS2 (v3.a 0+1) ⟨v6.a 2,v6.a 3,v6.a 5,v6.a 7,v6.a 9⟩ (wX X) ⟨v3.a 1+3,v3.a 1+6,v3.a 1+9,v3.a 1+12,v3.a 1+15,v3.a 1+18⟩ 6 (nmV s4 (wX X) v6.f) ⟨v6.a 4,v6.a 6,v6.a 8,v6.a 10⟩ (v6.a 13) (qrow (Q' v6.f))) fun v16=>.cons ⟨0,[],[],[40,0,29,16,17,18,19,20],rndAllS (v16.a 2) (Q' v6.f).a (Q' v6.f).b (Q' v6.f).c (Q' v6.f).d (Q' v6.f).e (Q' v6.f).f (v16.a 3) [s4.a,s4.b,s4.c,s4.d] (v3.a 2) ⟨v4.a 2,v4.a 3,v4.a 4,v4.a 5,v4.a 6⟩ (dX X) (v6.a 11) (v6.a 12) (fun i=>v6.a (i+14)) lv',[],some 1⟩ fun v17=>.swap  (swA 23 17 (lawE n (n+1) (n+2) (n+3) (n+4)) .Eq (v17.a 2) (v8.a 2)).t₀ (swA 23 17 (lawE n (n+1) (n+2) (n+3) (n+4)) .Eq (v17.a 2) (v8.a 2)).t₁ <| .cons ⟨0,[],[],[41,31],rcS "list.__eq__" (v17.a 2) (v8.a 2) lv' v17.f (v17.a 3) lv v8.f (v8.a 3) true,[2,0],none⟩ fun v19=>.nil) (fun n t=>xd (lnX_ok (by omega) (by omega) hX) fun v1=>xc (hr ▸ sumS_ok) fun v2=>xd (slcV_ok (fm8 r) hs4) fun v3=>xd (depends_ok (by omega)) fun v4=>xc (changed_ok (by omega) hw hc) fun v5=>xd (nm_all (by omega) hw hsg has) fun v6=>xc (row_all2 (by omega) hcv (hN _) (hNS _) (hQ _)) fun _=>⟨rnd_all (by omega) hS (hg _) (hlv _),fun v8=>⟨hht _ _ _ _ _,fun v9=>⟨mx_ok (by omega) hM,fun v10=>⟨rgI_ok (by omega) hM6,fun v11=>⟨los_ok (by omega) (by omega) hMn (hlv2 _),fun v12=>⟨swB_ok,⟨rne_ok (by omega),fun v14=>⟨po_al (q:=⟨n,n+1,n+2,n+3,n+4,v3.a 0+1,v5.a 3,n+8,v6.a 2,v8.a 2,v11.a 0,⟨v1.a 1,v2.a 1+2,v3.a 1,v3.a 1+19,v4.a 1,v5.a 1,v5.a 1+1,v6.a 1,v8.a 1⟩,v12.a 1,v14.a 1,wX X,⟨v3.a 1+3,v3.a 1+6,v3.a 1+9,v3.a 1+12,v3.a 1+15,v3.a 1+18⟩,6,cv,⟨v5.a 4,v5.a 5,v5.a 6,v5.a 7,v5.a 8,v5.a 9⟩,1,s4,v3.a 2,r.fmod 8,v2.a 1+1,true⟩) (r:=⟨v4.a 2,v4.a 3,v4.a 4,v4.a 5,v4.a 6⟩) (D:=dX X) (by omega) hw hcv hdr hdr' hal hG,fun v15=>⟨row_all2 (by omega) hw (hN _) (hNS _) (hQ' _),fun v16=>⟨rnd_all (by omega) hS (hg' _) (hlv' _),fun v17=>⟨swA_ok,⟨req_ok (by omega) hsm,fun v19=>trivial⟩⟩⟩⟩⟩⟩⟩⟩⟩⟩⟩⟩) 710 [0,0,3,3,1,5,5,0,0,13,13,13,13,13,13,1,0,0,13,13,13,13,15,0,6,6,24,24,24,0,0,6,0,6,6,6,6,0,6,6,6,22,22,1,0,0,22,1,2,0,10,1,1,1,0,0,1,1,1,1,1,1,22,1,1,0,5,5,5,3,3,3,3,1,1,1,1,22,1,1,0,5,5,5,3,3,3,3,1,1,1,1,22,1,1,0,5,5,5,3,3,3,3,1,1,1,1,22,1,1,0,5,5,5,3,3,3,3,1,1,1,1,22,1,1,0,5,5,5,3,3,3,3,1,1,1,1,22,1,1,0,5,5,5,3,3,3,3,1,1,1,1,22,1,1,9,0,6,6,5,5,5,0,6,0,0,6,6,0,6,6,6,0,44,44,44,1,0,0,44,1,1,1,1,1,44,1,1,1,1,1,1,44,1,1,1,1,1,1,44,1,1,5,0,6,6,0,6,6,0,6,6,6,0,0,6,6,6,0,6,6,0,12,12,0,12,6,6,0,0,6,6,0,12,6,6,0,14,14,14,0,0,0,0,14,1,1,1,1,1,1,1,0,0,70,0,6,6,6,6,999,6,64,72,64,1,0,0,0,6,6,0,0,1,1,1,1,1,1,1,0,0,1,1,1,1,3,0,0,6,6,0,6,6,0,6,999,6,84,64,84,1,0,0,0,6,6,6,6] (fun n t ω=>((fun v6 v19=>nu [(v19.a 0),(v19.a 1+1),v6.a 11,v6.a 12] [] []) (ω 395).v (ω 122251).v))
theorem law_ft (hD:d≤40) (hn:ns.length≤63) (hX:X=numX ns) (hr:[X.a,X.b,X.c,X.d,X.e,X.f].sum=r) (hs4:s4=sgF (r.fmod 8)) (hc:⟨cv,false⟩=chgIt (dX X) X 6 0 ⟨wX X,true⟩)
    (hQ:∀ F,rowIt2 cv (nmV s4 (wX X) F) 6 0 ⟨0,0,0,0⟩ []=some (qrow (Q F)))
    (hg:∀ F,∀ q∈[(Q F).a,(Q F).b,(Q F).c,(Q F).d,(Q F).e,(Q F).f],q.good s4) (hlv:∀ F,lv=bk (rndsF (dX X) 6 [(Q F).a,(Q F).b,(Q F).c,(Q F).d,(Q F).e,(Q F).f])) (hS:aR [s4.a,s4.b,s4.c,s4.d] s4)
    (hht:∀ rl er ts r F,Ok w (d+60) (htS rl (Q F).a (Q F).b (Q F).c (Q F).d (Q F).e (Q F).f er [s4.a,s4.b,s4.c,s4.d] ts r (dX X) B)) (hM:maxIt B 5 1 B.a=M) (hM6:1≤M∧M≤6) (hMn:M=(Mn:Nat)) (hQ':∀ F,rowIt2 (wX X) (nmV s4 (wX X) F) 6 0 ⟨0,0,0,0⟩ []=some (qrow (Q' F))) (hg':∀ F,∀ q∈[(Q' F).a,(Q' F).b,(Q' F).c,(Q' F).d,(Q' F).e,(Q' F).f],q.good s4) (hlv':∀ F,lv'=bk (rndsF (dX X) 6 [(Q' F).a,(Q' F).b,(Q' F).c,(Q' F).d,(Q' F).e,(Q' F).f])) (hal:alAll (dX X) (wX X) cv s4=true) (hG:glAll (wX X) cv s4=gl) (hsm:decide (lv'=lv)=true) (hdr:Dr (wX X) s4) (hdr':Dr cv s4) (hlv2:∀ F,lv=bk (lvlsF B (Q F) Mn 1)):Ok w d (lawS w sc ns f e (gl++[]++[]++[])):=by
  have hw:=wX_in X
  have hcv:∀ i,0≤cv.at i∧cv.at i<4:=by
    have z:=chgIt_in (P:=fun i=>0≤i∧i<4) (D:=dX X) (X:=X) 6 0 (s:=⟨wX X,true⟩) hw
    rw [← hc] at z
    exact z
  have hsg:∀ i,0≤i→i<4→s4.at i∈abc8:=hs4 ▸ sgF_in _
  have has:Asc [s4.a,s4.b,s4.c,s4.d]:=hs4 ▸ sgF_asc _
  have hN:=nmV_len s4 (wX X)
  have hNS:=nmV_str s4 (wX X)
  refine yv (fun n t=>yd 4 [0,1,2,3,4,5,6,7,8,9] [9,10,11] [3,4,1,7] (lnX w n (n+7) (n+8) (n+9) (n+1) (n+2) sc (n+5) ns f e ⟨t,t+1,t+2,t+3,t+4,t+5⟩ X) fun v1=>yc [10] (sumS (n+8) [X.a,X.b,X.c,X.d,X.e,X.f] (fun j=>v1.a (j+2)) 6 r) fun v2=>yd 2 [0] [] [12] (slcV (v2.a 1+3) (v2.a 0) (r.fmod 8) (v2.a 1+1) (v2.a 1+5) s4) fun v3=>.cons (it5 21 [0,1,2] [] [10] (dependsS (n+8) X.a X.b X.c X.d X.e X.f (v1.a 2) (v1.a 3) (v1.a 4) (v1.a 5) (v1.a 6) (v1.a 7) 6)) fun v4=>yc [14,10,16,17,18,19,20] (changedS (v3.a 0+1) (n+8) ⟨v4.a 2,v4.a 3,v4.a 4,v4.a 5,v4.a 6⟩ (dX X) (wX X) ⟨v3.a 1+3,v3.a 1+6,v3.a 1+9,v3.a 1+12,v3.a 1+15,v3.a 1+18⟩ 6 X ⟨v1.a 2,v1.a 3,v1.a 4,v1.a 5,v1.a 6,v1.a 7⟩ 6 ⟨cv,false⟩) fun v5=>yd 4 [0] [0] [14,10] (nmS w (v3.a 0+1) (n+8) s4 (v3.a 2) (wX X) ⟨v3.a 1+3,v3.a 1+6,v3.a 1+9,v3.a 1+12,v3.a 1+15,v3.a 1+18⟩ 6 X ⟨v1.a 2,v1.a 3,v1.a 4,v1.a 5,v1.a 6,v1.a 7⟩ 6) fun v6=>yc [22,24,25,26,27,28] (rowAllS2 (v5.a 3) ⟨v6.a 2,v6.a 3,v6.a 5,v6.a 7,v6.a 9⟩ cv ⟨v5.a 4,v5.a 5,v5.a 6,v5.a 7,v5.a 8,v5.a 9⟩ 1 (nmV s4 (wX X) v6.f) ⟨v6.a 4,v6.a 6,v6.a 8,v6.a 10⟩ (v6.a 13) (qrow (Q v6.f))) fun v7=>.cons ⟨0,[],[],[30,0,29,16,17,18,19,20],rndAllS (v7.a 2) (Q v6.f).a (Q v6.f).b (Q v6.f).c (Q v6.f).d (Q v6.f).e (Q v6.f).f (v7.a 3) [s4.a,s4.b,s4.c,s4.d] (v3.a 2) ⟨v4.a 2,v4.a 3,v4.a 4,v4.a 5,v4.a 6⟩ (dX X) (v6.a 11) (v6.a 12) (fun i=>v6.a (i+14)) lv,[],some 1⟩ fun v8=>yc [30,16,17,18,19,20] (htS (v7.a 2) (Q v6.f).a (Q v6.f).b (Q v6.f).c (Q v6.f).d (Q v6.f).e (Q v6.f).f (v7.a 3) [s4.a,s4.b,s4.c,s4.d] (v3.a 2) ⟨v4.a 2,v4.a 3,v4.a 4,v4.a 5,v4.a 6⟩ (dX X) B) fun v9=>yc [32] (mxS (v9.a 2) B ⟨v9.a 3,v9.a 4,v9.a 5,v9.a 6,v9.a 7,v9.a 8⟩ M) fun v10=>yd 4 [0] [] [33] (rgI (v10.a 0) M (v9.a 1) (v10.a 1+1) (v10.a 1+2)) fun v11=>.cons ⟨0,[0,1,2],[34,35,37,36],[5,6,30,32],losS w n (v11.a 2) (v11.a 0) (v11.a 0+1) (n+3) (v11.a 0+2) (n+4) (v7.a 2) (v9.a 2) B ⟨v9.a 3,v9.a 4,v9.a 5,v9.a 6,v9.a 7,v9.a 8⟩ (Q v6.f) (v7.a 3) M lv,[],some 0⟩ fun v12=>.swap  (swB 23 14 (lawE n (n+1) (n+2) (n+3) (n+4)) .NotEq (v8.a 2) (v11.a 0)).t₀ (swB 23 14 (lawE n (n+1) (n+2) (n+3) (n+4)) .NotEq (v8.a 2) (v11.a 0)).t₁ <| .cons ⟨0,[],[],[31,35],rcS "list.__ne__" (v8.a 2) (v11.a 0) lv v8.f (v8.a 3) lv v12.f (v12.a 2) false,[0,1],none⟩ fun v14=>yd 4 [0,1] [2,39] [14,22,16,17,18,19,20] (poS w ⟨n,n+1,n+2,n+3,n+4,v3.a 0+1,v5.a 3,n+8,v6.a 2,v8.a 2,v11.a 0,⟨v1.a 1,v2.a 1+2,v3.a 1,v3.a 1+19,v4.a 1,v5.a 1,v5.a 1+1,v6.a 1,v8.a 1⟩,v12.a 1,v14.a 1,wX X,⟨v3.a 1+3,v3.a 1+6,v3.a 1+9,v3.a 1+12,v3.a 1+15,v3.a 1+18⟩,6,cv,⟨v5.a 4,v5.a 5,v5.a 6,v5.a 7,v5.a 8,v5.a 9⟩,1,s4,v3.a 2,r.fmod 8,v2.a 1+1,false⟩ (v14.a 0+1) (v4.a 2) (R4.led ⟨v4.a 2,v4.a 3,v4.a 4,v4.a 5,v4.a 6⟩ (dX X)) true gl) fun v15=>yc [14,24,25,26,27,28] (rowAllS2 (v3.a 0+1) ⟨v6.a 2,v6.a 3,v6.a 5,v6.a 7,v6.a 9⟩ (wX X) ⟨v3.a 1+3,v3.a 1+6,v3.a 1+9,v3.a 1+12,v3.a 1+15,v3.a 1+18⟩ 6 (nmV s4 (wX X) v6.f) ⟨v6.a 4,v6.a 6,v6.a 8,v6.a 10⟩ (v6.a 13) (qrow (Q' v6.f))) fun v16=>.cons ⟨0,[],[],[40,0,29,16,17,18,19,20],rndAllS (v16.a 2) (Q' v6.f).a (Q' v6.f).b (Q' v6.f).c (Q' v6.f).d (Q' v6.f).e (Q' v6.f).f (v16.a 3) [s4.a,s4.b,s4.c,s4.d] (v3.a 2) ⟨v4.a 2,v4.a 3,v4.a 4,v4.a 5,v4.a 6⟩ (dX X) (v6.a 11) (v6.a 12) (fun i=>v6.a (i+14)) lv',[],some 1⟩ fun v17=>.swap  (swA 23 17 (lawE n (n+1) (n+2) (n+3) (n+4)) .Eq (v17.a 2) (v8.a 2)).t₀ (swA 23 17 (lawE n (n+1) (n+2) (n+3) (n+4)) .Eq (v17.a 2) (v8.a 2)).t₁ <| .cons ⟨0,[],[],[41,31],rcS "list.__eq__" (v17.a 2) (v8.a 2) lv' v17.f (v17.a 3) lv v8.f (v8.a 3) true,[2,0],none⟩ fun v19=>.nil) (fun n t=>xd (lnX_ok (by omega) (by omega) hX) fun v1=>xc (hr ▸ sumS_ok) fun v2=>xd (slcV_ok (fm8 r) hs4) fun v3=>xd (depends_ok (by omega)) fun v4=>xc (changed_ok (by omega) hw hc) fun v5=>xd (nm_all (by omega) hw hsg has) fun v6=>xc (row_all2 (by omega) hcv (hN _) (hNS _) (hQ _)) fun _=>⟨rnd_all (by omega) hS (hg _) (hlv _),fun v8=>⟨hht _ _ _ _ _,fun v9=>⟨mx_ok (by omega) hM,fun v10=>⟨rgI_ok (by omega) hM6,fun v11=>⟨los_ok (by omega) (by omega) hMn (hlv2 _),fun v12=>⟨swB_ok,⟨rne_ok (by omega),fun v14=>⟨po_al (q:=⟨n,n+1,n+2,n+3,n+4,v3.a 0+1,v5.a 3,n+8,v6.a 2,v8.a 2,v11.a 0,⟨v1.a 1,v2.a 1+2,v3.a 1,v3.a 1+19,v4.a 1,v5.a 1,v5.a 1+1,v6.a 1,v8.a 1⟩,v12.a 1,v14.a 1,wX X,⟨v3.a 1+3,v3.a 1+6,v3.a 1+9,v3.a 1+12,v3.a 1+15,v3.a 1+18⟩,6,cv,⟨v5.a 4,v5.a 5,v5.a 6,v5.a 7,v5.a 8,v5.a 9⟩,1,s4,v3.a 2,r.fmod 8,v2.a 1+1,false⟩) (r:=⟨v4.a 2,v4.a 3,v4.a 4,v4.a 5,v4.a 6⟩) (D:=dX X) (by omega) hw hcv hdr hdr' hal hG,fun v15=>⟨row_all2 (by omega) hw (hN _) (hNS _) (hQ' _),fun v16=>⟨rnd_all (by omega) hS (hg' _) (hlv' _),fun v17=>⟨swA_ok,⟨req_ok (by omega) hsm,fun v19=>trivial⟩⟩⟩⟩⟩⟩⟩⟩⟩⟩⟩⟩) 717 [0,0,3,3,1,5,5,0,0,13,13,13,13,13,13,1,0,0,13,13,13,13,15,0,6,6,24,24,24,0,0,6,0,6,6,6,6,0,6,6,6,22,22,1,0,0,22,1,2,0,10,1,1,1,0,0,1,1,1,1,1,1,22,1,1,0,5,5,5,3,3,3,3,1,1,1,1,22,1,1,0,5,5,5,3,3,3,3,1,1,1,1,22,1,1,0,5,5,5,3,3,3,3,1,1,1,1,22,1,1,0,5,5,5,3,3,3,3,1,1,1,1,22,1,1,0,5,5,5,3,3,3,3,1,1,1,1,22,1,1,0,5,5,5,3,3,3,3,1,1,1,1,22,1,1,9,0,6,6,5,5,5,0,6,0,0,6,6,0,6,6,6,0,44,44,44,1,0,0,44,1,1,1,1,1,44,1,1,1,1,1,1,44,1,1,1,1,1,1,44,1,1,5,0,6,6,0,6,6,0,6,6,6,0,0,6,6,6,0,6,6,0,12,12,0,12,6,6,0,0,6,6,0,12,6,6,0,14,14,14,0,0,0,0,14,1,1,1,1,1,1,1,0,0,70,0,6,6,6,6,999,6,64,72,64,1,0,0,0,6,6,0,0,1,1,1,1,1,1,1,0,0,1,1,1,1,3,0,0,6,6,0,6,6,0,6,999,6,84,64,84,1,0,0,0,6,6,6,6,6,1,0,0] (fun n t ω=>((fun v6 v19=>nu [(v19.a 0),(v19.a 1+1),v6.a 11,v6.a 12] [] []) (ω 395).v (ω 122251).v))
theorem law_ff (hD:d≤40) (hn:ns.length≤63) (hX:X=numX ns) (hr:[X.a,X.b,X.c,X.d,X.e,X.f].sum=r) (hs4:s4=sgF (r.fmod 8)) (hc:⟨cv,false⟩=chgIt (dX X) X 6 0 ⟨wX X,true⟩)
    (hQ:∀ F,rowIt2 cv (nmV s4 (wX X) F) 6 0 ⟨0,0,0,0⟩ []=some (qrow (Q F)))
    (hg:∀ F,∀ q∈[(Q F).a,(Q F).b,(Q F).c,(Q F).d,(Q F).e,(Q F).f],q.good s4) (hlv:∀ F,lv=bk (rndsF (dX X) 6 [(Q F).a,(Q F).b,(Q F).c,(Q F).d,(Q F).e,(Q F).f])) (hS:aR [s4.a,s4.b,s4.c,s4.d] s4)
    (hht:∀ rl er ts r F,Ok w (d+60) (htS rl (Q F).a (Q F).b (Q F).c (Q F).d (Q F).e (Q F).f er [s4.a,s4.b,s4.c,s4.d] ts r (dX X) B)) (hM:maxIt B 5 1 B.a=M) (hM6:1≤M∧M≤6) (hMn:M=(Mn:Nat)) (hQ':∀ F,rowIt2 (wX X) (nmV s4 (wX X) F) 6 0 ⟨0,0,0,0⟩ []=some (qrow (Q' F))) (hg':∀ F,∀ q∈[(Q' F).a,(Q' F).b,(Q' F).c,(Q' F).d,(Q' F).e,(Q' F).f],q.good s4) (hlv':∀ F,lv'=bk (rndsF (dX X) 6 [(Q' F).a,(Q' F).b,(Q' F).c,(Q' F).d,(Q' F).e,(Q' F).f])) (hal:alAll (dX X) (wX X) cv s4=false) (hG:glAll (wX X) cv s4=gl) (hsm:decide (lv'=lv)=false) (hdr:Dr (wX X) s4) (hdr':Dr cv s4) (hlv2:∀ F,lv=bk (lvlsF B (Q F) Mn 1)):Ok w d (lawS w sc ns f e (gl++[]++[]++[])):=by
  have hw:=wX_in X
  have hcv:∀ i,0≤cv.at i∧cv.at i<4:=by
    have z:=chgIt_in (P:=fun i=>0≤i∧i<4) (D:=dX X) (X:=X) 6 0 (s:=⟨wX X,true⟩) hw
    rw [← hc] at z
    exact z
  have hsg:∀ i,0≤i→i<4→s4.at i∈abc8:=hs4 ▸ sgF_in _
  have has:Asc [s4.a,s4.b,s4.c,s4.d]:=hs4 ▸ sgF_asc _
  have hN:=nmV_len s4 (wX X)
  have hNS:=nmV_str s4 (wX X)
  refine yv (fun n t=>yd 4 [0,1,2,3,4,5,6,7,8,9] [9,10,11] [3,4,1,7] (lnX w n (n+7) (n+8) (n+9) (n+1) (n+2) sc (n+5) ns f e ⟨t,t+1,t+2,t+3,t+4,t+5⟩ X) fun v1=>yc [10] (sumS (n+8) [X.a,X.b,X.c,X.d,X.e,X.f] (fun j=>v1.a (j+2)) 6 r) fun v2=>yd 2 [0] [] [12] (slcV (v2.a 1+3) (v2.a 0) (r.fmod 8) (v2.a 1+1) (v2.a 1+5) s4) fun v3=>.cons (it5 21 [0,1,2] [] [10] (dependsS (n+8) X.a X.b X.c X.d X.e X.f (v1.a 2) (v1.a 3) (v1.a 4) (v1.a 5) (v1.a 6) (v1.a 7) 6)) fun v4=>yc [14,10,16,17,18,19,20] (changedS (v3.a 0+1) (n+8) ⟨v4.a 2,v4.a 3,v4.a 4,v4.a 5,v4.a 6⟩ (dX X) (wX X) ⟨v3.a 1+3,v3.a 1+6,v3.a 1+9,v3.a 1+12,v3.a 1+15,v3.a 1+18⟩ 6 X ⟨v1.a 2,v1.a 3,v1.a 4,v1.a 5,v1.a 6,v1.a 7⟩ 6 ⟨cv,false⟩) fun v5=>yd 4 [0] [0] [14,10] (nmS w (v3.a 0+1) (n+8) s4 (v3.a 2) (wX X) ⟨v3.a 1+3,v3.a 1+6,v3.a 1+9,v3.a 1+12,v3.a 1+15,v3.a 1+18⟩ 6 X ⟨v1.a 2,v1.a 3,v1.a 4,v1.a 5,v1.a 6,v1.a 7⟩ 6) fun v6=>yc [22,24,25,26,27,28] (rowAllS2 (v5.a 3) ⟨v6.a 2,v6.a 3,v6.a 5,v6.a 7,v6.a 9⟩ cv ⟨v5.a 4,v5.a 5,v5.a 6,v5.a 7,v5.a 8,v5.a 9⟩ 1 (nmV s4 (wX X) v6.f) ⟨v6.a 4,v6.a 6,v6.a 8,v6.a 10⟩ (v6.a 13) (qrow (Q v6.f))) fun v7=>.cons ⟨0,[],[],[30,0,29,16,17,18,19,20],rndAllS (v7.a 2) (Q v6.f).a (Q v6.f).b (Q v6.f).c (Q v6.f).d (Q v6.f).e (Q v6.f).f (v7.a 3) [s4.a,s4.b,s4.c,s4.d] (v3.a 2) ⟨v4.a 2,v4.a 3,v4.a 4,v4.a 5,v4.a 6⟩ (dX X) (v6.a 11) (v6.a 12) (fun i=>v6.a (i+14)) lv,[],some 1⟩ fun v8=>yc [30,16,17,18,19,20] (htS (v7.a 2) (Q v6.f).a (Q v6.f).b (Q v6.f).c (Q v6.f).d (Q v6.f).e (Q v6.f).f (v7.a 3) [s4.a,s4.b,s4.c,s4.d] (v3.a 2) ⟨v4.a 2,v4.a 3,v4.a 4,v4.a 5,v4.a 6⟩ (dX X) B) fun v9=>yc [32] (mxS (v9.a 2) B ⟨v9.a 3,v9.a 4,v9.a 5,v9.a 6,v9.a 7,v9.a 8⟩ M) fun v10=>yd 4 [0] [] [33] (rgI (v10.a 0) M (v9.a 1) (v10.a 1+1) (v10.a 1+2)) fun v11=>.cons ⟨0,[0,1,2],[34,35,37,36],[5,6,30,32],losS w n (v11.a 2) (v11.a 0) (v11.a 0+1) (n+3) (v11.a 0+2) (n+4) (v7.a 2) (v9.a 2) B ⟨v9.a 3,v9.a 4,v9.a 5,v9.a 6,v9.a 7,v9.a 8⟩ (Q v6.f) (v7.a 3) M lv,[],some 0⟩ fun v12=>.swap  (swB 23 14 (lawE n (n+1) (n+2) (n+3) (n+4)) .NotEq (v8.a 2) (v11.a 0)).t₀ (swB 23 14 (lawE n (n+1) (n+2) (n+3) (n+4)) .NotEq (v8.a 2) (v11.a 0)).t₁ <| .cons ⟨0,[],[],[31,35],rcS "list.__ne__" (v8.a 2) (v11.a 0) lv v8.f (v8.a 3) lv v12.f (v12.a 2) false,[0,1],none⟩ fun v14=>yd 4 [0,1] [2,39] [14,22,16,17,18,19,20] (poS w ⟨n,n+1,n+2,n+3,n+4,v3.a 0+1,v5.a 3,n+8,v6.a 2,v8.a 2,v11.a 0,⟨v1.a 1,v2.a 1+2,v3.a 1,v3.a 1+19,v4.a 1,v5.a 1,v5.a 1+1,v6.a 1,v8.a 1⟩,v12.a 1,v14.a 1,wX X,⟨v3.a 1+3,v3.a 1+6,v3.a 1+9,v3.a 1+12,v3.a 1+15,v3.a 1+18⟩,6,cv,⟨v5.a 4,v5.a 5,v5.a 6,v5.a 7,v5.a 8,v5.a 9⟩,1,s4,v3.a 2,r.fmod 8,v2.a 1+1,false⟩ (v14.a 0+1) (v4.a 2) (R4.led ⟨v4.a 2,v4.a 3,v4.a 4,v4.a 5,v4.a 6⟩ (dX X)) false gl) fun v15=>yc [14,24,25,26,27,28] (rowAllS2 (v3.a 0+1) ⟨v6.a 2,v6.a 3,v6.a 5,v6.a 7,v6.a 9⟩ (wX X) ⟨v3.a 1+3,v3.a 1+6,v3.a 1+9,v3.a 1+12,v3.a 1+15,v3.a 1+18⟩ 6 (nmV s4 (wX X) v6.f) ⟨v6.a 4,v6.a 6,v6.a 8,v6.a 10⟩ (v6.a 13) (qrow (Q' v6.f))) fun v16=>.cons ⟨0,[],[],[40,0,29,16,17,18,19,20],rndAllS (v16.a 2) (Q' v6.f).a (Q' v6.f).b (Q' v6.f).c (Q' v6.f).d (Q' v6.f).e (Q' v6.f).f (v16.a 3) [s4.a,s4.b,s4.c,s4.d] (v3.a 2) ⟨v4.a 2,v4.a 3,v4.a 4,v4.a 5,v4.a 6⟩ (dX X) (v6.a 11) (v6.a 12) (fun i=>v6.a (i+14)) lv',[],some 1⟩ fun v17=>.swap  (swA 23 17 (lawE n (n+1) (n+2) (n+3) (n+4)) .Eq (v17.a 2) (v8.a 2)).t₀ (swA 23 17 (lawE n (n+1) (n+2) (n+3) (n+4)) .Eq (v17.a 2) (v8.a 2)).t₁ <| .cons ⟨0,[],[],[41,31],rcS "list.__eq__" (v17.a 2) (v8.a 2) lv' v17.f (v17.a 3) lv v8.f (v8.a 3) false,[2,0],none⟩ fun v19=>.nil) (fun n t=>xd (lnX_ok (by omega) (by omega) hX) fun v1=>xc (hr ▸ sumS_ok) fun v2=>xd (slcV_ok (fm8 r) hs4) fun v3=>xd (depends_ok (by omega)) fun v4=>xc (changed_ok (by omega) hw hc) fun v5=>xd (nm_all (by omega) hw hsg has) fun v6=>xc (row_all2 (by omega) hcv (hN _) (hNS _) (hQ _)) fun _=>⟨rnd_all (by omega) hS (hg _) (hlv _),fun v8=>⟨hht _ _ _ _ _,fun v9=>⟨mx_ok (by omega) hM,fun v10=>⟨rgI_ok (by omega) hM6,fun v11=>⟨los_ok (by omega) (by omega) hMn (hlv2 _),fun v12=>⟨swB_ok,⟨rne_ok (by omega),fun v14=>⟨po_al (q:=⟨n,n+1,n+2,n+3,n+4,v3.a 0+1,v5.a 3,n+8,v6.a 2,v8.a 2,v11.a 0,⟨v1.a 1,v2.a 1+2,v3.a 1,v3.a 1+19,v4.a 1,v5.a 1,v5.a 1+1,v6.a 1,v8.a 1⟩,v12.a 1,v14.a 1,wX X,⟨v3.a 1+3,v3.a 1+6,v3.a 1+9,v3.a 1+12,v3.a 1+15,v3.a 1+18⟩,6,cv,⟨v5.a 4,v5.a 5,v5.a 6,v5.a 7,v5.a 8,v5.a 9⟩,1,s4,v3.a 2,r.fmod 8,v2.a 1+1,false⟩) (r:=⟨v4.a 2,v4.a 3,v4.a 4,v4.a 5,v4.a 6⟩) (D:=dX X) (by omega) hw hcv hdr hdr' hal hG,fun v15=>⟨row_all2 (by omega) hw (hN _) (hNS _) (hQ' _),fun v16=>⟨rnd_all (by omega) hS (hg' _) (hlv' _),fun v17=>⟨swA_ok,⟨req_ok (by omega) hsm,fun v19=>trivial⟩⟩⟩⟩⟩⟩⟩⟩⟩⟩⟩⟩) 717 [0,0,3,3,1,5,5,0,0,13,13,13,13,13,13,1,0,0,13,13,13,13,15,0,6,6,24,24,24,0,0,6,0,6,6,6,6,0,6,6,6,22,22,1,0,0,22,1,2,0,10,1,1,1,0,0,1,1,1,1,1,1,22,1,1,0,5,5,5,3,3,3,3,1,1,1,1,22,1,1,0,5,5,5,3,3,3,3,1,1,1,1,22,1,1,0,5,5,5,3,3,3,3,1,1,1,1,22,1,1,0,5,5,5,3,3,3,3,1,1,1,1,22,1,1,0,5,5,5,3,3,3,3,1,1,1,1,22,1,1,0,5,5,5,3,3,3,3,1,1,1,1,22,1,1,9,0,6,6,5,5,5,0,6,0,0,6,6,0,6,6,6,0,44,44,44,1,0,0,44,1,1,1,1,1,44,1,1,1,1,1,1,44,1,1,1,1,1,1,44,1,1,5,0,6,6,0,6,6,0,6,6,6,0,0,6,6,6,0,6,6,0,12,12,0,12,6,6,0,0,6,6,0,12,6,6,0,14,14,14,0,0,0,0,14,1,1,1,1,1,1,1,0,0,70,0,6,6,6,6,999,6,64,72,64,1,0,0,0,6,6,0,0,1,1,1,1,1,1,1,0,0,1,1,1,1,3,0,0,6,6,0,6,6,0,6,999,6,84,64,84,1,0,0,0,6,6,6,6,6,1,0,0] (fun n t ω=>((fun v6 v19=>nu [(v19.a 0),(v19.a 1+1),v6.a 11,v6.a 12] [] []) (ω 395).v (ω 122251).v))
end
section
variable {α:Type}
noncomputable def freeK (D:Int→Int→Bool) (ms:List Int) (x:Int):Bool:=(ms.filter fun y=>D x y).isEmpty
theorem freeK_iff {D:Int→Int→Bool} {ms:List Int} {x:Int}:freeK D ms x=true↔∀ y∈ms,D x y=false:=by
  unfold freeK
  rw [List.isEmpty_iff,List.filter_eq_nil_iff]
  constructor
  · intro h y hy; simpa using h y hy
  · intro h y hy; simpa using h y hy
noncomputable def tkn (D:Int→Int→Bool) (κ:α→Int):List Int→List α→List α
  | _,[]=>[]
  | ms,q::qs=>if freeK D ms (κ q) then q::tkn D κ (ms++[κ q]) qs else tkn D κ (ms++[κ q]) qs
noncomputable def wtn (D:Int→Int→Bool) (κ:α→Int):List Int→List α→List α
  | _,[]=>[]
  | ms,q::qs=>if freeK D ms (κ q) then wtn D κ (ms++[κ q]) qs else q::wtn D κ (ms++[κ q]) qs
theorem tkn_map {β:Type} {D:Int→Int→Bool} {κ:α→Int} {κ':β→Int} (g:α→β):∀ (A:List α) (ms:List Int),(∀ a∈A,κ' (g a)=κ a)→tkn D κ' ms (A.map g)=(tkn D κ ms A).map g
  | [],_,_=>rfl
  | a::A,ms,h=>by
    have e:=h a (.head _)
    have ih:=tkn_map (D:=D) (κ:=κ) (κ':=κ') g A (ms++[κ a]) fun x hx=>h x (.tail _ hx)
    rw [List.map_cons]
    unfold tkn
    rw [e,ih]
    split <;> rfl
theorem wtn_map {β:Type} {D:Int→Int→Bool} {κ:α→Int} {κ':β→Int} (g:α→β):∀ (A:List α) (ms:List Int),(∀ a∈A,κ' (g a)=κ a)→wtn D κ' ms (A.map g)=(wtn D κ ms A).map g
  | [],_,_=>rfl
  | a::A,ms,h=>by
    have e:=h a (.head _)
    have ih:=wtn_map (D:=D) (κ:=κ) (κ':=κ') g A (ms++[κ a]) fun x hx=>h x (.tail _ hx)
    rw [List.map_cons]
    unfold wtn
    rw [e,ih]
    split <;> rfl
theorem tkn_sub {D:Int→Int→Bool} {κ:α→Int}:∀ (A:List α) (ms:List Int),(tkn D κ ms A).Sublist A
  | [],_=>.slnil
  | a::A,ms=>by
    unfold tkn
    split
    · exact (tkn_sub A _).cons_cons _
    · exact (tkn_sub A _).cons _
theorem wtn_sub {D:Int→Int→Bool} {κ:α→Int}:∀ (A:List α) (ms:List Int),(wtn D κ ms A).Sublist A
  | [],_=>.slnil
  | a::A,ms=>by
    unfold wtn
    split
    · exact (wtn_sub A _).cons _
    · exact (wtn_sub A _).cons_cons _
theorem wtn_len {D:Int→Int→Bool} {κ:α→Int} {a:α} {A:List α}:(wtn D κ [] (a::A)).length≤A.length:=by
  unfold wtn
  rw [if_pos (by rfl)]
  exact (wtn_sub A _).length_le
noncomputable def two (κ:α→Int) (i j:Int) (a:α):Bool:=κ a==i || κ a==j
structure DepP (D:Int→Int→Bool) (i j:Int):Prop where
  ij:D i j=true
  ji:D j i=true
  ii:D i i=true
  jj:D j j=true
theorem DepP.all {D:Int→Int→Bool} {i j x y:Int} (h:DepP D i j) (hx:x=i ∨ x=j) (hy:y=i ∨ y=j):D x y=true:=by
  rcases hx with rfl | rfl <;> rcases hy with rfl | rfl
  · exact h.ii
  · exact h.ij
  · exact h.ji
  · exact h.jj
theorem two_iff {κ:α→Int} {i j:Int} {a:α}:two κ i j a=true↔κ a=i ∨ κ a=j:=by unfold two; simp
theorem tw_met {D:Int→Int→Bool} {κ:α→Int} {i j m:Int} (h:DepP D i j) (hm:m=i ∨ m=j):∀ (A:List α) (ms:List Int),m∈ms→(tkn D κ ms A).filter (two κ i j)=[]∧(wtn D κ ms A).filter (two κ i j)=A.filter (two κ i j)
  | [],_,_=>⟨rfl,rfl⟩
  | a::A,ms,hin=>by
    have ih:=tw_met (κ:=κ) h hm A (ms++[κ a]) (List.mem_append_left _ hin)
    unfold tkn wtn
    by_cases ha:two κ i j a=true
    · have hf:freeK D ms (κ a)=false:=by
        cases hh:freeK D ms (κ a) with
        | false=>rfl
        | true=>
          have:=freeK_iff.mp hh m hin
          rw [h.all (two_iff.mp ha) hm] at this
          cases this
      rw [hf]
      simp only [Bool.false_eq_true,if_false]
      rw [List.filter_cons_of_pos ha,List.filter_cons_of_pos ha,ih.2]
      exact ⟨ih.1,rfl⟩
    · split
      · rw [List.filter_cons_of_neg ha,List.filter_cons_of_neg ha]
        exact ih
      · rw [List.filter_cons_of_neg ha,List.filter_cons_of_neg ha]
        exact ih
theorem tw_split {D:Int→Int→Bool} {κ:α→Int} {i j:Int} (h:DepP D i j):∀ (A:List α) (ms:List Int),(A.filter (two κ i j)=(tkn D κ ms A).filter (two κ i j)++(wtn D κ ms A).filter (two κ i j))∧((tkn D κ ms A).filter (two κ i j)).length≤1
  | [],_=>⟨rfl,by simp [tkn]⟩
  | a::A,ms=>by
    unfold tkn wtn
    by_cases ha:two κ i j a=true
    · have z:=tw_met (κ:=κ) (m:=κ a) h (two_iff.mp ha) A (ms++[κ a]) (List.mem_append_right _ (.head _))
      split
      · rw [List.filter_cons_of_pos ha,List.filter_cons_of_pos ha,z.1,z.2]
        exact ⟨rfl,by simp⟩
      · rw [List.filter_cons_of_pos ha,List.filter_cons_of_pos ha,z.1,z.2]
        exact ⟨rfl,by simp⟩
    · have ih:=tw_split (κ:=κ) h A (ms++[κ a])
      split
      · rw [List.filter_cons_of_neg ha,List.filter_cons_of_neg ha]
        exact ih
      · rw [List.filter_cons_of_neg ha,List.filter_cons_of_neg ha]
        exact ih
theorem tkn_mem {D:Int→Int→Bool} {κ:α→Int} {q:α}:∀ (A:List α) (ms:List Int),q∈tkn D κ ms A↔∃ A1 A2,A=A1++q::A2∧freeK D ms (κ q)=true∧∀ a∈A1,D (κ q) (κ a)=false
  | [],_=>by simp [tkn]
  | a::A,ms=>by
    have ih:=tkn_mem (D:=D) (κ:=κ) (q:=q) A (ms++[κ a])
    have a8:(q∈tkn D κ (ms++[κ a]) A)↔∃ A1 A2,a::A=(a::A1)++q::A2∧freeK D ms (κ q)=true∧∀ x∈a::A1,D (κ q) (κ x)=false:=by
      rw [ih]
      constructor
      · rintro ⟨A1,A2,e,f,g⟩
        refine ⟨A1,A2,by rw [e]; rfl,?_,?_⟩
        · rw [freeK_iff] at f ⊢
          exact fun y hy=>f y (List.mem_append_left _ hy)
        · intro x hx
          rcases List.mem_cons.mp hx with rfl | hx
          · exact (freeK_iff.mp f) _ (List.mem_append_right _ (.head _))
          · exact g x hx
      · rintro ⟨A1,A2,e,f,g⟩
        refine ⟨A1,A2,by injection e,?_,fun x hx=>g x (.tail _ hx)⟩
        rw [freeK_iff] at f ⊢
        intro y hy
        rcases List.mem_append.mp hy with hy | hy
        · exact f y hy
        · rcases List.mem_singleton.mp hy with rfl
          exact g a (.head _)
    constructor
    · intro hq
      unfold tkn at hq
      split at hq
      · rename_i hf
        rcases List.mem_cons.mp hq with rfl | hq
        · exact ⟨[],A,rfl,hf,fun _ h=>nomatch h⟩
        · obtain ⟨A1,A2,e,f,g⟩:=a8.mp hq
          exact ⟨a::A1,A2,e,f,g⟩
      · obtain ⟨A1,A2,e,f,g⟩:=a8.mp hq
        exact ⟨a::A1,A2,e,f,g⟩
    · rintro ⟨A1,A2,e,f,g⟩
      cases A1 with
      | nil=>
        injection e with e1 e2
        subst e1
        unfold tkn
        rw [if_pos f]
        exact .head _
      | cons b A1=>
        injection e with e1 e2
        subst e1
        have z:=a8.mpr ⟨A1,A2,by rw [e2]; rfl,f,g⟩
        unfold tkn
        split
        · exact .tail _ z
        · exact z
noncomputable def rndsG (D:Int→Int→Bool) (κ:α→Int):Nat→List α→List (List α)
  | 0,_=>[]
  | n+1,qs=>match qs with
    | []=>[]
    | q::qs=>tkn D κ [] (q::qs)::rndsG D κ n (wtn D κ [] (q::qs))
theorem rndsG_map {β:Type} {D:Int→Int→Bool} {κ:α→Int} {κ':β→Int} (g:α→β):∀ (n:Nat) (A:List α),(∀ a∈A,κ' (g a)=κ a)→rndsG D κ' n (A.map g)=(rndsG D κ n A).map fun l=>l.map g
  | 0,_,_=>rfl
  | n+1,[],_=>rfl
  | n+1,a::A,h=>by
    show tkn D κ' [] (List.map g (a::A))::rndsG D κ' n (wtn D κ' [] (List.map g (a::A)))=_
    rw [tkn_map g _ _ h,wtn_map g _ _ h,rndsG_map g n _ fun x hx=>h x ((wtn_sub _ _).mem hx)]
    rfl
end
theorem rndF_eq {D:Dp}:∀ (qs:List Nm) (ms:List Int) (tk wt:List Nm),aY D qs.length qs ms tk wt=(tk++tkn D.m Nm.k ms qs,wt++wtn D.m Nm.k ms qs)
  | [],ms,tk,wt=>by simp [aY,tkn,wtn]
  | q::qs,ms,tk,wt=>by
    show aY D (qs.length+1) (q::qs) ms tk wt=_
    unfold aY tkn wtn freeK
    split
    · rw [rndF_eq qs]; simp
    · rw [rndF_eq qs]; simp
theorem rndsF_eq {D:Dp}:∀ (n:Nat) (qs:List Nm),rndsF D n qs=rndsG D.m Nm.k n qs
  | 0,_=>rfl
  | n+1,[]=>rfl
  | n+1,q::qs=>by
    show (aY D (q::qs).length (q::qs) [] [] []).1::rndsF D n (aY D (q::qs).length (q::qs) [] [] []).2=_
    rw [rndF_eq,rndsF_eq n]
    rfl
theorem sortL_inj {a b:List (List Nat)} (h:sortL a=sortL b):a.Perm b:=(sortL_perm a).symm.trans ((List.Perm.of_eq h).trans (sortL_perm b))
theorem sortL_of {a b:List (List Nat)} (h:a.Perm b):sortL a=sortL b:=rises_eq (sortL_rises a) (sortL_rises b) ((sortL_perm a).trans (h.trans (sortL_perm b).symm))
theorem perm_short {α:Type} {a b:List α} (h:a.Perm b) (hl:a.length≤1):a=b:=by
  match a,hl with
  | [],_=>exact (List.nil_perm.mp h).symm
  | [x],_=>exact (List.singleton_perm.mp h)
section
variable {D:Int→Int→Bool} {κ:List Nat→Int}
theorem rnds_to {i j:Int} (h:DepP D i j):∀ (n:Nat) (A B:List (List Nat)),A.length≤n→B.length≤n→(rndsG D κ n A).map sortL=(rndsG D κ n B).map sortL→A.filter (two κ i j)=B.filter (two κ i j)
  | 0,A,B,ha,hb,_=>by
    have:A=[]:=List.length_eq_zero_iff.mp (by omega)
    have:B=[]:=List.length_eq_zero_iff.mp (by omega)
    simp_all
  | n+1,[],[],_,_,_=>rfl
  | n+1,[],b::B,_,_,e=>by cases e
  | n+1,a::A,[],_,_,e=>by cases e
  | n+1,a::A,b::B,ha,hb,e=>by
    rw [List.length_cons] at ha hb
    have e:sortL (tkn D κ [] (a::A))::(rndsG D κ n (wtn D κ [] (a::A))).map sortL=sortL (tkn D κ [] (b::B))::(rndsG D κ n (wtn D κ [] (b::B))).map sortL:=e
    injection e with e1 e2
    have w1:=wtn_len (D:=D) (κ:=κ) (a:=a) (A:=A)
    have w2:=wtn_len (D:=D) (κ:=κ) (a:=b) (A:=B)
    have ih:=rnds_to h n _ _ (by omega) (by omega) e2
    have z1:=tw_split (κ:=κ) h (a::A) []
    have z2:=tw_split (κ:=κ) h (b::B) []
    have p:=perm_short ((sortL_inj e1).filter (two κ i j)) z1.2
    rw [z1.1,z2.1,p,ih]
theorem rnds_of (hr:∀ i,D i i=true) (hs:∀ i j,D i j=D j i):∀ (n:Nat) (A B:List (List Nat)),A.length≤n→B.length≤n→A.Nodup→B.Nodup→(∀ i j,D i j=true→A.filter (two κ i j)=B.filter (two κ i j))→(rndsG D κ n A).map sortL=(rndsG D κ n B).map sortL
  | 0,A,B,ha,hb,_,_,_=>rfl
  | n+1,[],[],_,_,_,_,_=>rfl
  | n+1,[],b::B,_,_,_,_,e=>by
    have:=e (κ b) (κ b) (hr _)
    rw [List.filter_cons_of_pos (by unfold two; simp)] at this
    cases this
  | n+1,a::A,[],_,_,_,_,e=>by
    have:=e (κ a) (κ a) (hr _)
    rw [List.filter_cons_of_pos (by unfold two; simp)] at this
    cases this
  | n+1,a::A,b::B,ha,hb,na,nb,e=>by
    rw [List.length_cons] at ha hb
    show sortL (tkn D κ [] (a::A))::(rndsG D κ n (wtn D κ [] (a::A))).map sortL=sortL (tkn D κ [] (b::B))::(rndsG D κ n (wtn D κ [] (b::B))).map sortL
    have w1:=wtn_len (D:=D) (κ:=κ) (a:=a) (A:=A)
    have w2:=wtn_len (D:=D) (κ:=κ) (a:=b) (A:=B)
    generalize a::A=A at *
    generalize b::B=B at *
    have dp:∀ {i j},D i j=true→DepP D i j:=fun h=>⟨h,(hs _ _).trans h,hr _,hr _⟩
    have half:∀ {A B:List (List Nat)},B.Nodup→(∀ i j,D i j=true→A.filter (two κ i j)=B.filter (two κ i j))→∀ q∈tkn D κ [] A,q∈tkn D κ [] B:=fun {A B} nb e q hq=>by
      obtain ⟨A1,A2,eA,_,g⟩:=(tkn_mem A []).mp hq
      have hqB:q∈B:=by
        have z:=e (κ q) (κ q) (hr _)
        have:q∈A.filter (two κ (κ q) (κ q)):=List.mem_filter.mpr ⟨by rw [eA]; simp,by unfold two; simp⟩
        rw [z] at this
        exact (List.mem_filter.mp this).1
      obtain ⟨B1,B2,eB⟩:=List.append_of_mem hqB
      refine (tkn_mem B []).mpr ⟨B1,B2,eB,by rfl,fun b hb=>?_⟩
      cases hd:D (κ q) (κ b) with
      | false=>rfl
      | true=>
        exfalso
        have z:=e (κ q) (κ b) hd
        rw [eA,eB,List.filter_append,List.filter_append,List.filter_cons_of_pos (by unfold two; simp),List.filter_cons_of_pos (by unfold two; simp)] at z
        have e0:A1.filter (two κ (κ q) (κ b))=[]:=by
          rw [List.filter_eq_nil_iff]
          intro x hx ht
          have g:=g x hx
          rcases two_iff.mp ht with h | h <;> rw [h] at g
          · rw [hr] at g; cases g
          · rw [hd] at g; cases g
        rw [e0,List.nil_append] at z
        have hbf:b∈B1.filter (two κ (κ q) (κ b)):=List.mem_filter.mpr ⟨hb,by unfold two; simp⟩
        have nb':=nb
        rw [eB,List.nodup_append] at nb'
        match hB:B1.filter (two κ (κ q) (κ b)) with
        | []=>rw [hB] at hbf; cases hbf
        | y::l=>
          rw [hB] at z
          injection z with z1 z2
          have hy:y∈B1:=(List.mem_filter.mp (hB ▸ List.mem_cons_self:y∈B1.filter (two κ (κ q) (κ b)))).1
          exact nb'.2.2 y hy q (.head _) z1.symm
    have n1:(tkn D κ [] A).Nodup:=(tkn_sub A []).nodup na
    have n2:(tkn D κ [] B).Nodup:=(tkn_sub B []).nodup nb
    have p:(tkn D κ [] A).Perm (tkn D κ [] B):=(List.perm_ext_iff_of_nodup n1 n2).mpr fun q=>⟨half nb e q,half na (fun i j h=>(e i j h).symm) q⟩
    rw [sortL_of p]
    congr 1
    refine rnds_of hr hs n _ _ (by omega) (by omega) ((wtn_sub A []).nodup na) ((wtn_sub B []).nodup nb) fun i j h=>?_
    have z1:=tw_split (κ:=κ) (dp h) A []
    have z2:=tw_split (κ:=κ) (dp h) B []
    have q:=perm_short (p.filter (two κ i j)) z1.2
    have z:=e i j h
    rw [z1.1,z2.1,q] at z
    exact List.append_cancel_left z
end
section
variable {α:Type}
noncomputable def HtOk (D:Int→Int→Bool) (κ:α→Int) (b:Int) (A:List (α × Int)):Prop:=
  ∀ P r R,A=P++r::R→b+1≤r.2∧(∀ p∈P,D (κ r.1) (κ p.1)=true→p.2<r.2)∧(b+1<r.2→∃ p∈P,D (κ r.1) (κ p.1)=true∧p.2=r.2-1)
theorem HtOk.ge {D:Int→Int→Bool} {κ:α→Int} {b:Int} {A:List (α × Int)} (h:HtOk D κ b A):∀ r∈A,b+1≤r.2:=fun r hr=>by
  obtain ⟨P,R,e⟩:=List.append_of_mem hr
  exact (h P r R e).1
theorem ht_tkn {D:Int→Int→Bool} {κ:α→Int} {b:Int}:∀ (R P:List (α × Int)),HtOk D κ b (P++R) →
    tkn D κ (P.map fun p=>κ p.1) (R.map (·.1))=(R.filter fun r=>r.2==b+1).map (·.1)∧wtn D κ (P.map fun p=>κ p.1) (R.map (·.1))=(R.filter fun r=>!(r.2==b+1)).map (·.1)
  | [],P,_=>⟨rfl,rfl⟩
  | r::R,P,h=>by
    have ih:=ht_tkn R (P++[r]) (by rw [List.append_assoc]; exact h)
    have hh:=h P r R rfl
    have hf:freeK D (P.map fun p=>κ p.1) (κ r.1)=(r.2==b+1):=by
      rw [Bool.eq_iff_iff,freeK_iff,beq_iff_eq]
      constructor
      · intro f
        by_cases hlt:b+1<r.2
        · obtain ⟨p,hp,hd,_⟩:=hh.2.2 hlt
          have:=f _ (List.mem_map_of_mem (f:=fun p:α × Int=>κ p.1) hp)
          rw [hd] at this; cases this
        · have:=hh.1
          omega
      · intro e y hy
        obtain ⟨p,hp,rfl⟩:=List.mem_map.mp hy
        cases hd:D (κ r.1) (κ p.1) with
        | false=>rfl
        | true=>
          have:=hh.2.1 p hp hd
          obtain ⟨P1,P2,eP⟩:=List.append_of_mem hp
          have:=(h P1 p (P2++r::R) (by rw [eP]; simp)).1
          omega
    rw [List.map_cons]
    unfold tkn wtn
    rw [hf]
    have e:(P.map fun p=>κ p.1)++[κ r.1]=(P++[r]).map fun p=>κ p.1:=by simp
    rw [e,ih.1,ih.2]
    cases hb:(r.2==b+1) with
    | true=>simp [hb]
    | false=>simp [hb]
theorem ht_next {D:Int→Int→Bool} {κ:α→Int} {b:Int} {A:List (α × Int)} (h:HtOk D κ b A):HtOk D κ (b+1) (A.filter fun r=>!(r.2==b+1)):=fun P r R e=>by
  obtain ⟨l1,l2,rfl,e1,e2⟩:=List.filter_eq_append_iff.mp e
  obtain ⟨m1,m2,rfl,hm,hr,e3⟩:=List.filter_eq_cons_iff.mp e2
  have hh:=h (l1++m1) r m2 (by simp)
  have hr':r.2≠b+1:=by simpa using hr
  have hP:(l1++m1).filter (fun r=>!(r.2==b+1))=P:=by
    rw [List.filter_append,e1,List.filter_eq_nil_iff.mpr hm,List.append_nil]
  refine ⟨by have:=hh.1; omega,fun p hp hd=>hh.2.1 p ?_ hd,fun hl=>?_⟩
  · rw [← hP] at hp
    exact (List.mem_filter.mp hp).1
  · obtain ⟨p,hp,hd,ep⟩:=hh.2.2 (by omega)
    refine ⟨p,?_,hd,ep⟩
    rw [← hP,List.mem_filter]
    refine ⟨hp,?_⟩
    have:p.2≠b+1:=by omega
    simpa using this
noncomputable def lvG (A:List (α × Int)):Nat→Int→List (List α)
  | 0,_=>[]
  | n+1,k=>(A.filter fun r=>r.2==k).map (·.1)::lvG A n (k+1)
theorem lvG_skip {A:List (α × Int)} {b:Int}:∀ (n:Nat) (k:Int),b<k→lvG (A.filter fun r=>!(r.2==b)) n k=lvG A n k
  | 0,_,_=>rfl
  | n+1,k,h=>by
    unfold lvG
    rw [lvG_skip n (k+1) (by omega),List.filter_filter]
    congr 3
    funext r
    by_cases hr:r.2=k
    · have:r.2≠b:=by omega
      simp [hr]; omega
    · simp [hr]
theorem rnds_levels {D:Int→Int→Bool} {κ:α→Int}:∀ (n:Nat) (A:List (α × Int)) (b:Int) (m:Nat),HtOk D κ b A→A.length≤n→(∀ a∈A,a.2≤b+m)→(0<m→∃ a∈A,a.2=b+m)→rndsG D κ n (A.map (·.1))=lvG A m (b+1)
  | n,[],b,m,_,_,_,h2=>by
    have:m=0:=by
      cases m with
      | zero=>rfl
      | succ m=>obtain ⟨a,ha,_⟩:=h2 (by omega); cases ha
    subst this
    cases n <;> rfl
  | 0,a::A,_,_,_,hl,_,_=>by simp at hl
  | n+1,a::A,b,m,h,hl,h1,h2=>by
    have z:=ht_tkn (a::A) [] h
    have hn:=ht_next h
    have ha:=h.ge a (.head _)
    have ha2:=h1 a (.head _)
    have wl:=wtn_len (D:=D) (κ:=κ) (a:=a.1) (A:=A.map (·.1))
    show tkn D κ [] ((a::A).map (·.1))::rndsG D κ n (wtn D κ [] ((a::A).map (·.1)))=_
    have z1:tkn D κ [] ((a::A).map (·.1))=_:=z.1
    have z2:wtn D κ [] ((a::A).map (·.1))=_:=z.2
    have wl:(wtn D κ [] ((a::A).map (·.1))).length≤(A.map (·.1)).length:=wl
    rw [z2,List.length_map,List.length_map] at wl
    rw [z1,z2]
    have hl':A.length≤n:=by simpa using hl
    generalize a::A=AA at *
    cases m with
    | zero=>omega
    | succ m=>
      have ih:=rnds_levels n (AA.filter fun r=>!(r.2==b+1)) (b+1) m hn (by omega) (fun x hx=>by
        have:=h1 x (List.mem_filter.mp hx).1
        push_cast at this
        omega) (fun hm=>by
        obtain ⟨x,hx,e⟩:=h2 (by omega)
        push_cast at e
        refine ⟨x,List.mem_filter.mpr ⟨hx,?_⟩,by omega⟩
        have:x.2≠b+1:=by omega
        simpa using this)
      rw [ih]
      show _=(AA.filter fun r=>r.2==b+1).map (·.1)::lvG AA m (b+1+1)
      rw [lvG_skip m (b+1+1) (by omega)]
end
noncomputable def prs:(Int→Nat)→List Int→List (Int × Nat)
  | _,[]=>[]
  | m,x::w=>(x,m x)::prs (fun y=>if y=x then m y+1 else m y) w
theorem prs_cons (m:Int→Nat) (x:Int) (w:List Int):prs m (x::w)=(x,m x)::prs (fun y=>if y=x then m y+1 else m y) w:=rfl
theorem prs_congr:∀ (w:List Int) (m m':Int→Nat),(∀ x∈w,m x=m' x)→prs m w=prs m' w
  | [],_,_,_=>rfl
  | x::w,m,m',h=>by
    rw [prs_cons,prs_cons,h x (.head _),prs_congr w _ (fun y=>if y=x then m' y+1 else m' y) fun y hy=>by rw [h y (.tail _ hy)]]
theorem prs_fst:∀ (w:List Int) (m:Int→Nat),(prs m w).map (·.1)=w
  | [],_=>rfl
  | x::w,m=>by rw [prs_cons,List.map_cons,prs_fst]
theorem prs_mem:∀ (w:List Int) (m:Int→Nat) (p:Int × Nat),p∈prs m w→p.1∈w∧m p.1≤p.2∧p.2<m p.1+w.count p.1
  | [],_,_,h=>nomatch h
  | x::w,m,p,h=>by
    rw [prs_cons] at h
    rcases List.mem_cons.mp h with rfl | h
    · exact ⟨.head _,Nat.le_refl _,by simp⟩
    · have z:=prs_mem w _ p h
      refine ⟨.tail _ z.1,?_⟩
      rw [List.count_cons]
      by_cases e:p.1=x
      · rw [if_pos e] at z
        rw [if_pos (by simp [e])]
        omega
      · rw [if_neg e] at z
        omega
theorem prs_nodup:∀ (w:List Int) (m:Int→Nat),(prs m w).Nodup
  | [],_=>List.nodup_nil
  | x::w,m=>by
    rw [prs_cons]
    refine List.nodup_cons.mpr ⟨fun h=>?_,prs_nodup w _⟩
    have z:=(prs_mem w _ _ h).2.1
    simp at z
    omega
theorem prs_filter (f:Int→Bool):∀ (w:List Int) (m:Int→Nat),(prs m w).filter (fun p=>f p.1)=prs m (w.filter f)
  | [],_=>rfl
  | x::w,m=>by
    rw [prs_cons,List.filter_cons,List.filter_cons]
    have ih:=prs_filter f w fun y=>if y=x then m y+1 else m y
    by_cases h:f x=true
    · rw [if_pos h,if_pos h,ih]
      rfl
    · rw [if_neg h,if_neg h,ih]
      refine prs_congr _ _ _ fun y hy=>?_
      rw [if_neg]
      rintro rfl
      exact h (List.mem_filter.mp hy).2
noncomputable def w6 (P:V6 Int):List Int:=[P.a,P.b,P.c,P.d,P.e,P.f]
theorem w6_at {P:V6 Int} {i:Nat} (h:i<6):(w6 P)[i]?=some (P.at i):=by
  match i,h with
  | 0,_=>rfl
  | 1,_=>rfl
  | 2,_=>rfl
  | 3,_=>rfl
  | 4,_=>rfl
  | 5,_=>rfl
theorem cntF_eq (v:V6 Int) (x:Int):aZ v x=(w6 v).count x:=rfl
noncomputable def nmL (s:V4 Nat) (C:Int→Nat) (p:Int × Nat):List Nat:=a9 (s.at p.1) (C p.1+1-p.2)
noncomputable def gnm (s:V4 Nat) (C:Int→Nat) (F:Nat→Nat→Nat) (p:Int × Nat):Nm:=⟨p.1,nmL s C p,F p.1.toNat p.2⟩
theorem cnams_get (s:Nat):∀ (n j:Nat),j<n→(cnams s n)[j]?=some (a9 s (n+1-j))
  | 0,_,h=>absurd h (by omega)
  | n+1,0,_=>rfl
  | n+1,j+1,h=>by
    have z:=cnams_get s n j (by omega)
    show (cnams s n)[j]?=_
    rw [z]
    congr 2
    omega
theorem svals_get':∀ (l:List (List Nat)) (f:Nat→Nat) (j:Nat),(au l f)[j]?=(l[j]?).map fun a=>.str (S a) (f j)
  | [],_,_=>by simp [au]
  | a::l,f,0=>rfl
  | a::l,f,j+1=>svals_get' l (fun j=>f (j+1)) j
theorem nmV_at {s4:V4 Nat} {v:V6 Int} {F:Nat→Nat→Nat} {x:Int} (h:0≤x∧x<4):(nmV s4 v F).at x=au (cnams (s4.at x) (aZ v x)) (F x.toNat):=by
  rcases four h.1 h.2 with rfl | rfl | rfl | rfl <;> rfl
theorem row_eq {P v:V6 Int} {s4:V4 Nat} {F:Nat→Nat→Nat}:∀ (w:List Int) (k:Int) (m:Int→Nat) (mV:V4 Int) (rs:List Value),(∀ i,i<w.length→w[i]?=some (P.at (k+i)))→(∀ x,0≤x→x<4→mV.at x=m x)→(∀ x∈w,0≤x∧x<4)→(∀ x∈w,m x+w.count x≤aZ v x) →
    rowIt2 P (nmV s4 v F) w.length k mV rs=some (rs++ae ((prs m w).map (gnm s4 (aZ v) F)))
  | [],k,m,mV,rs,_,_,_,_=>by
    show some rs=_
    simp [prs,ae]
  | x::w,k,m,mV,rs,hP,hm,hr,hc=>by
    have hx:=hP 0 (by simp)
    have hx:P.at k=x:=by
      have:P.at (k+((0:Nat):Int))=P.at k:=by congr 1; omega
      rw [this] at hx
      injection hx with hx
      exact hx.symm
    have hxr:=hr x (.head _)
    have hcx:=hc x (.head _)
    rw [List.count_cons,if_pos (by simp)] at hcx
    show rowIt2 P (nmV s4 v F) (w.length+1) k mV rs=_
    unfold rowIt2 rowF2
    dsimp only
    rw [hx,nmV_at hxr,hm x hxr.1 hxr.2,Int.toNat_natCast,svals_get',cnams_get _ _ _ (by omega)]
    dsimp only [Option.map]
    have ih:=row_eq (P:=P) (v:=v) (s4:=s4) (F:=F) w (k+1) (fun y=>if y=x then m y+1 else m y) (mV.put x (m x+1)) (rs++[.str (S (a9 (s4.at x) (aZ v x+1-m x))) (F x.toNat (m x))]) (fun i hi=>by
      have:=hP (i+1) (by simp; omega)
      rw [List.getElem?_cons_succ] at this
      rw [this]
      congr 2
      push_cast
      omega) (fun y h0 h4=>by
      have e:=at_put4 (c:=mV) (i:=x) (x:=y) (y:=((m x:Int)+1)) hxr ⟨h0,h4⟩
      rw [e]
      by_cases hy:y=x
      · subst hy; simp
      · rw [if_neg (fun h=>hy h.symm),if_neg hy,hm y h0 h4]) (fun y hy=>hr y (.tail _ hy)) (fun y hy=>by
      have:=hc y (.tail _ hy)
      rw [List.count_cons] at this
      by_cases hyx:y=x
      · subst hyx; rw [if_pos (by simp)] at this; rw [if_pos rfl]; omega
      · rw [if_neg hyx]; omega)
    rw [ih,prs_cons,List.map_cons,List.append_assoc]
    rfl
noncomputable def to6:List Nm→V6 Nm
  | [a,b,c,d,e,f]=>⟨a,b,c,d,e,f⟩
  | _=>⟨⟨0,[],0⟩,⟨0,[],0⟩,⟨0,[],0⟩,⟨0,[],0⟩,⟨0,[],0⟩,⟨0,[],0⟩⟩
noncomputable def rowL (s:V4 Nat) (C:Int→Nat) (F:Nat→Nat→Nat) (P:V6 Int):List Nm:=(prs (fun _=>0) (w6 P)).map (gnm s C F)
noncomputable def rowQ (s:V4 Nat) (C:Int→Nat) (P:V6 Int) (F:Nat→Nat→Nat):V6 Nm:=to6 (rowL s C F P)
theorem rowQ_it {P v:V6 Int} {s4:V4 Nat} (hr:∀ i,0≤P.at i∧P.at i<4) (hp:(w6 P).Perm (w6 v)) (F:Nat→Nat→Nat):rowIt2 P (nmV s4 v F) 6 0 ⟨0,0,0,0⟩ []=some (qrow (rowQ s4 (aZ v) P F)):=by
  have z:=row_eq (P:=P) (v:=v) (s4:=s4) (F:=F) (w6 P) 0 (fun _=>0) ⟨0,0,0,0⟩ [] (fun i hi=>by rw [w6_at hi]; congr 2; omega) (fun x h0 h4=>by rcases four h0 h4 with rfl | rfl | rfl | rfl <;> rfl) (fun x hx=>by
    obtain ⟨i,hi,rfl⟩:=List.mem_iff_getElem.mp hx
    have:=w6_at (P:=P) hi
    rw [List.getElem?_eq_getElem hi] at this
    injection this with this
    rw [this]
    exact hr _) (fun x _=>by rw [cntF_eq,hp.count_eq x]; omega)
  exact z
theorem cnam_last (s k:Nat):(a9 s k).getLast?=some s:=by unfold a9; simp
theorem cnam_len (s k:Nat):(a9 s k).length=k+1:=by unfold a9; simp
noncomputable def kap (s:V4 Nat) (l:List Nat):Int:=if l.getLast?=some s.a then 0 else if l.getLast?=some s.b then 1 else if l.getLast?=some s.c then 2 else 3
noncomputable abbrev Nd (s:V4 Nat):Prop:=[s.a,s.b,s.c,s.d].Nodup
theorem kap_cnam {s:V4 Nat} (h:Nd s) {x:Int} (hx:0≤x∧x<4) (k:Nat):kap s (a9 (s.at x) k)=x:=by
  unfold kap
  rw [cnam_last]
  have h:Nd s:=h
  unfold Nd at h
  simp only [List.nodup_cons,List.mem_cons,List.not_mem_nil,not_or,or_false] at h
  obtain ⟨⟨h1,h2,h3⟩,⟨h4,h5⟩,h6,_⟩:=h
  rcases four hx.1 hx.2 with rfl | rfl | rfl | rfl
  · have:s.at 0=s.a:=rfl
    rw [this,if_pos rfl]
  · have:s.at 1=s.b:=rfl
    rw [this,if_neg (by intro e; injection e with e; exact h1 e.symm),if_pos rfl]
  · have:s.at 2=s.c:=rfl
    rw [this,if_neg (by intro e; injection e with e; exact h2 e.symm),if_neg (by intro e; injection e with e; exact h4 e.symm),if_pos rfl]
  · have:s.at 3=s.d:=rfl
    rw [this,if_neg (by intro e; injection e with e; exact h3 e.symm),if_neg (by intro e; injection e with e; exact h5 e.symm),if_neg (by intro e; injection e with e; exact h6 e.symm)]
structure Wd (C:Int→Nat) (P:V6 Int):Prop where
  rng:∀ i,0≤P.at i∧P.at i<4
  cnt:∀ x,(w6 P).count x≤C x
theorem Wd.mem {C:Int→Nat} {P:V6 Int} (h:Wd C P):∀ x∈w6 P,0≤x∧x<4:=fun x hx=>by
  obtain ⟨i,hi,rfl⟩:=List.mem_iff_getElem.mp hx
  have:=w6_at (P:=P) hi
  rw [List.getElem?_eq_getElem hi] at this
  injection this with this
  rw [this]
  exact h.rng _
noncomputable abbrev pr0 (P:V6 Int):List (Int × Nat):=prs (fun _=>0) (w6 P)
theorem Wd.prm {C:Int→Nat} {P:V6 Int} (h:Wd C P):∀ p∈pr0 P,(0≤p.1∧p.1<4)∧p.2<C p.1:=fun p hp=>by
  have z:=prs_mem _ _ _ hp
  refine ⟨h.mem _ z.1,?_⟩
  have:=h.cnt p.1
  omega
noncomputable def nmsL (s:V4 Nat) (C:Int→Nat) (P:V6 Int):List (List Nat):=(pr0 P).map (nmL s C)
theorem nmL_inj {s:V4 Nat} (hs:Nd s) {C:Int→Nat} {p q:Int × Nat} (hp:(0≤p.1∧p.1<4)∧p.2<C p.1) (hq:(0≤q.1∧q.1<4)∧q.2<C q.1) (h:nmL s C p=nmL s C q):p=q:=by
  unfold nmL at h
  have e1:p.1=q.1:=by rw [← kap_cnam hs hp.1 (C p.1+1-p.2),h,kap_cnam hs hq.1]
  have e2:=congrArg List.length h
  rw [cnam_len,cnam_len] at e2
  rw [e1] at e2 hp
  obtain ⟨a,b⟩:=p
  obtain ⟨c,d⟩:=q
  dsimp only at e1 e2 hp hq ⊢
  subst e1
  congr 1
  omega
theorem nmsL_nodup {s:V4 Nat} (hs:Nd s) {C:Int→Nat} {P:V6 Int} (h:Wd C P):(nmsL s C P).Nodup:=by
  unfold nmsL
  refine List.pairwise_map.mpr ?_
  refine List.Pairwise.imp_of_mem ?_ (prs_nodup (w6 P) fun _=>0)
  intro p q hp hq hne e
  exact hne (nmL_inj hs (h.prm _ hp) (h.prm _ hq) e)
theorem nmsL_kap {s:V4 Nat} (hs:Nd s) {C:Int→Nat} {P:V6 Int} (h:Wd C P):(nmsL s C P).map (kap s)=w6 P:=by
  unfold nmsL
  rw [List.map_map]
  have:(pr0 P).map (kap s ∘ nmL s C)=(pr0 P).map (·.1):=List.map_congr_left fun p hp=>kap_cnam hs (h.prm p hp).1 _
  rw [this,prs_fst]
theorem nmsL_two {s:V4 Nat} (hs:Nd s) {C:Int→Nat} {P:V6 Int} (h:Wd C P) (i j:Int):(nmsL s C P).filter (two (kap s) i j)=(prs (fun _=>0) ((w6 P).filter (two id i j))).map (nmL s C):=by
  unfold nmsL
  rw [List.filter_map,← prs_filter]
  congr 1
  refine List.filter_congr fun p hp=>?_
  show two (kap s) i j (nmL s C p)=two id i j p.1
  unfold two nmL
  rw [kap_cnam hs (h.prm p hp).1]
  rfl
theorem two_eq {s:V4 Nat} (hs:Nd s) {C:Int→Nat} {P P':V6 Int} (h:Wd C P) (h':Wd C P') (i j:Int):((nmsL s C P).filter (two (kap s) i j)=(nmsL s C P').filter (two (kap s) i j))↔((w6 P).filter (two id i j)=(w6 P').filter (two id i j)):=by
  constructor
  · intro e
    have key:∀ {P},Wd C P→((nmsL s C P).filter (two (kap s) i j)).map (kap s)=(w6 P).filter (two id i j):=fun {P} h=>by
      have z:(nmsL s C P).filter (two (kap s) i j)=(nmsL s C P).filter ((two id i j) ∘ kap s):=rfl
      rw [z,← List.filter_map,nmsL_kap hs h]
    rw [← key h,← key h',e]
  · intro e
    rw [nmsL_two hs h,nmsL_two hs h',e]
noncomputable def lvN (s:V4 Nat) (C:Int→Nat) (D:Dp) (P:V6 Int):List (List (List Nat)):=(rndsG D.m (kap s) 6 (nmsL s C P)).map sortL
theorem rows_names {s:V4 Nat} {C:Int→Nat} {F:Nat→Nat→Nat} {P:V6 Int}:(rowL s C F P).map (fun q=>q.l)=nmsL s C P:=by
  unfold rowL nmsL
  rw [List.map_map]
  rfl
theorem namesL_eq {s:V4 Nat} (hs:Nd s) {C:Int→Nat} {F:Nat→Nat→Nat} {D:Dp} {P:V6 Int} (h:Wd C P):bk (rndsF D 6 (rowL s C F P))=lvN s C D P:=by
  unfold bk lvN
  rw [rndsF_eq,← rows_names (F:=F),rndsG_map (κ:=Nm.k) (κ':=kap s) (fun q=>q.l) 6 _ fun q hq=>?_,List.map_map]
  · rfl
  · unfold rowL at hq
    obtain ⟨p,hp,rfl⟩:=List.mem_map.mp hq
    exact kap_cnam hs (h.prm p hp).1 _
theorem sel_cases {α:Type} (a b c d:α) (i:Int):sel4 a b c d i=if i.toNat=0 then a else if i.toNat=1 then b else if i.toNat=2 then c else d:=by
  unfold sel4
  generalize i.toNat=n
  match n with
  | 0=>rfl
  | 1=>rfl
  | 2=>rfl
  | n+3=>rfl
theorem Dp.refl (D:Dp) (i:Int):D.m i i=true:=by
  unfold Dp.m
  simp only [sel_cases]
  split
  · rfl
  · split
    · rfl
    · split <;> rfl
theorem Dp.symm (D:Dp) (i j:Int):D.m i j=D.m j i:=by
  unfold Dp.m
  simp only [sel_cases]
  by_cases a:i.toNat=0 <;> by_cases b:i.toNat=1 <;> by_cases c:i.toNat=2 <;> by_cases a':j.toNat=0 <;> by_cases b':j.toNat=1 <;> by_cases c':j.toNat=2 <;> simp [*] at *
noncomputable def Agree (D:Dp) (P P':V6 Int):Prop:=∀ i j,0≤i→i<j→j<4→D.m i j=true→(w6 P).filter (two id i j)=(w6 P').filter (two id i j)
theorem filter_const {l l':List Int} (hp:l.Perm l') {p:Int→Bool} {c:Int} (h:∀ x∈l,p x=true→x=c):l.filter p=l'.filter p:=by
  have e1:l.filter p=List.replicate (l.filter p).length c:=List.eq_replicate_of_mem fun x hx=>h x (List.mem_filter.mp hx).1 (List.mem_filter.mp hx).2
  have e2:l'.filter p=List.replicate (l'.filter p).length c:=List.eq_replicate_of_mem fun x hx=>h x (hp.mem_iff.mpr (List.mem_filter.mp hx).1) (List.mem_filter.mp hx).2
  rw [e1,e2,(hp.filter p).length_eq]
theorem two_comm (i j:Int):two (id:Int→Int) i j=two id j i:=by funext x; unfold two; rw [Bool.or_comm]
theorem agree_all {D:Dp} {C:Int→Nat} {P P':V6 Int} (h:Wd C P) (hp:(w6 P).Perm (w6 P')) (H:Agree D P P') (i j:Int) (hd:D.m i j=true):(w6 P).filter (two id i j)=(w6 P').filter (two id i j):=by
  by_cases hi:0≤i∧i<4
  · by_cases hj:0≤j∧j<4
    · rcases Int.lt_trichotomy i j with hlt | rfl | hgt
      · exact H i j hi.1 hlt hj.2 hd
      · exact filter_const (c:=i) hp fun x _ hx=>by simpa [two] using hx
      · rw [two_comm]
        exact H j i hj.1 hgt hi.2 (by rw [D.symm]; exact hd)
    · refine filter_const (c:=i) hp fun x hm hx=>?_
      have:=h.mem x hm
      rcases two_iff.mp hx with e | e
      · exact e
      · have e:x=j:=e
        omega
  · refine filter_const (c:=j) hp fun x hm hx=>?_
    have:=h.mem x hm
    rcases two_iff.mp hx with e | e
    · have e:x=i:=e
      omega
    · exact e
theorem same_iff {s:V4 Nat} (hs:Nd s) {C:Int→Nat} {D:Dp} {P P':V6 Int} (h:Wd C P) (h':Wd C P') (hp:(w6 P).Perm (w6 P')):lvN s C D P=lvN s C D P'↔Agree D P P':=by
  have l1:(nmsL s C P).length≤6:=Nat.le_refl 6
  have l2:(nmsL s C P').length≤6:=Nat.le_refl 6
  constructor
  · intro e i j h0 hlt h4 hd
    exact (two_eq hs h h' i j).mp (rnds_to ⟨hd,(D.symm _ _).trans hd,D.refl _,D.refl _⟩ 6 _ _ l1 l2 e)
  · intro H
    exact rnds_of D.refl D.symm 6 _ _ l1 l2 (nmsL_nodup hs h) (nmsL_nodup hs h') fun i j hd=>(two_eq hs h h' i j).mpr (agree_all h hp H i j hd)
theorem swap_w6 {v:V6 Int} {a:Int} (h:0≤a∧a<5):∃ l1 l2,w6 v=l1++v.at a::v.at (a+1)::l2∧w6 ((v.put a (v.at (a+1))).put (a+1) (v.at a))=l1++v.at (a+1)::v.at a::l2:=by
  obtain rfl | rfl | rfl | rfl | rfl:a=0 ∨ a=1 ∨ a=2 ∨ a=3 ∨ a=4:=by omega
  · exact ⟨[],[v.c,v.d,v.e,v.f],rfl,rfl⟩
  · exact ⟨[v.a],[v.d,v.e,v.f],rfl,rfl⟩
  · exact ⟨[v.a,v.b],[v.e,v.f],rfl,rfl⟩
  · exact ⟨[v.a,v.b,v.c],[v.f],rfl,rfl⟩
  · exact ⟨[v.a,v.b,v.c,v.d],[],rfl,rfl⟩
theorem fm5 (r:Int):0≤r.fmod 5∧r.fmod 5<5:=by
  rw [Int.fmod_eq_emod_of_nonneg _ (by decide)]; omega
theorem chgF_perm {D:Dp} {x:Int} {s:Chg}:(w6 (chgF D x s).v).Perm (w6 s.v):=by
  unfold chgF
  dsimp only
  split
  · obtain ⟨l1,l2,e1,e2⟩:=swap_w6 (v:=s.v) (fm5 (x.fdiv 4))
    rw [e1,e2]
    exact (List.Perm.swap _ _ _).append_left l1
  · exact .refl _
theorem chgIt_perm {D:Dp} {X:V6 Int}:∀ (n:Nat) (k:Int) (s:Chg),(w6 (chgIt D X n k s).v).Perm (w6 s.v)
  | 0,_,_=>.refl _
  | n+1,k,s=>(chgIt_perm n (k+1) (chgF D (X.at k) s)).trans chgF_perm
theorem filter_swap {f:Int→Bool} {p q:Int} {l1 l2:List Int} (h:¬ (f p=true∧f q=true∧p≠q)):(l1++p::q::l2).filter f=(l1++q::p::l2).filter f:=by
  rw [List.filter_append,List.filter_append,List.filter_cons,List.filter_cons,List.filter_cons,List.filter_cons]
  by_cases hp:f p=true
  · by_cases hq:f q=true
    · by_cases e:p=q
      · rw [e]
      · exact absurd ⟨hp,hq,e⟩ h
    · simp [hp,hq]
  · simp [hp]
theorem chgF_fair {D:Dp} {x:Int} {s:Chg} (h:(chgF D x s).fair=true):s.fair=true∧Agree D s.v (chgF D x s).v:=by
  unfold chgF at h ⊢
  dsimp only at h ⊢
  split at h
  · rename_i hc
    rw [if_pos hc]
    dsimp only at h ⊢
    split at h
    · cases h
    · rename_i hn
      refine ⟨h,fun i j h0 hlt h4 hd=>?_⟩
      obtain ⟨l1,l2,e1,e2⟩:=swap_w6 (v:=s.v) (fm5 (x.fdiv 4))
      rw [e1,e2]
      refine filter_swap fun ⟨hp,hq,hne⟩=>hn ?_
      have z:D.m (s.v.at ((x.fdiv 4).fmod 5)) (s.v.at ((x.fdiv 4).fmod 5+1))=true:=by
        rcases two_iff.mp hp with a | a <;> rcases two_iff.mp hq with b | b <;> dsimp only [id] at a b <;> rw [a,b]
        · exact D.refl _
        · exact hd
        · rw [D.symm]; exact hd
        · exact D.refl _
      rw [Bool.and_eq_true]
      exact ⟨by simpa using hne,z⟩
  · rename_i hc
    rw [if_neg hc]
    exact ⟨h,fun _ _ _ _ _ _=>rfl⟩
theorem chgIt_mono {D:Dp} {X:V6 Int}:∀ (n:Nat) (k:Int) (s:Chg),(chgIt D X n k s).fair=true→s.fair=true∧Agree D s.v (chgIt D X n k s).v
  | 0,_,_,h=>⟨h,fun _ _ _ _ _ _=>rfl⟩
  | n+1,k,s,h=>by
    have z:=chgIt_mono n (k+1) (chgF D (X.at k) s) h
    have y:=chgF_fair z.1
    exact ⟨y.1,fun i j h0 hlt h4 hd=>(y.2 i j h0 hlt h4 hd).trans (z.2 i j h0 hlt h4 hd)⟩
noncomputable def hit (i j x:Int):Bool:=x==i || x==j
noncomputable def tx (s:V4 Nat) (i j:Int):Bool→List Int→List Nat
  | b,[]=>if b then [34] else []
  | b,x::w=>(if b==hit i j x then [34] else [])++(aS (s.at x)++tx s i j (!hit i j x) w)
noncomputable def lf (s:V4 Nat) (i j:Int):List Int→List Nat
  | []=>[]
  | x::w=>(if hit i j x then aS (s.at x) else [])++lf s i j w
noncomputable def zed (i j:Int):List Nat:=if (i+j).fmod 2==1 then [34,40] else []
theorem fold_tx {s:V4 Nat} {i j:Int}:∀ (w:List Int) (t:Dst),(w.foldl (fun t x=>drF s i j x t) t).T++(if (w.foldl (fun t x=>drF s i j x t) t).b then [34] else [])=t.T++tx s i j t.b w∧(w.foldl (fun t x=>drF s i j x t) t).F=t.F++lf s i j w
  | [],t=>⟨rfl,by simp [lf]⟩
  | x::w,t=>by
    have ih:=fold_tx (s:=s) (i:=i) (j:=j) w (drF s i j x t)
    rw [List.foldl_cons,ih.1,ih.2]
    obtain ⟨T,F,b⟩:=t
    have hb:(drF s i j x ⟨T,F,b⟩).b=!hit i j x:=by
      unfold drF hit
      dsimp only
      cases b <;> cases (x==i || x==j) <;> rfl
    have hT:(drF s i j x ⟨T,F,b⟩).T=T++((if b==hit i j x then [34] else [])++aS (s.at x)):=by
      unfold drF hit
      dsimp only
      cases b <;> cases (x==i || x==j) <;> simp
    have hF:(drF s i j x ⟨T,F,b⟩).F=F++(if hit i j x then aS (s.at x) else []):=by
      unfold drF hit
      dsimp only
      cases b <;> cases (x==i || x==j) <;> simp
    rw [hb,hT,hF]
    unfold tx lf
    dsimp only
    simp only [List.append_assoc,and_self]
    constructor
    · cases w <;> rfl
    · cases w <;> rfl
theorem drT_eq {v:V6 Int} {s:V4 Nat} {i j:Int}:drT v s i j=(tx s i j false (w6 v)++zed i j,lf s i j (w6 v)++zed i j):=by
  have e:drIt v s i j 6 0 ⟨[],[],false⟩=(w6 v).foldl (fun t x=>drF s i j x t) ⟨[],[],false⟩:=rfl
  have z:=fold_tx (s:=s) (i:=i) (j:=j) (w6 v) ⟨[],[],false⟩
  unfold drT
  dsimp only
  rw [e,z.2]
  show ((_++_)++zed i j,_)=_
  rw [z.1]
  rfl
theorem stF_piece {x:List Nat} {c:Nat} {l:List Nat} {i st:Nat} {op:Option Nat} {acc:List (List Nat)}:stF x (aS c++l) i st op acc=stF x l (i+(aS c).length) st op acc:=by
  unfold aS
  by_cases h:(c==34 || c==92)=true
  · rw [if_pos h]
    show stF x (92::c::l) i st op acc=stF x l (i+2) st op acc
    rw [stF.eq_def]
    simp
  · rw [if_neg h]
    simp at h
    show stF x (c::l) i st op acc=stF x l (i+1) st op acc
    conv=>lhs; unfold stF
    rw [if_neg h.2,if_neg h.1]
theorem stF_quote0 {x l:List Nat} {i st:Nat} {acc:List (List Nat)}:stF x (34::l) i st none acc=stF x l (i+1) st (some i) acc:=by
  conv=>lhs; unfold stF
  rw [if_neg (by decide),if_pos rfl]
theorem stF_quote1 {x l:List Nat} {i st o:Nat} {acc:List (List Nat)}:stF x (34::l) i st (some o) acc=stF x l (i+1) (i+1) none (if st=o then acc else acc++[(x.drop st).take (o-st)]):=by
  conv=>lhs; unfold stF
  rw [if_neg (by decide),if_pos rfl]
theorem close_flat {x:List Nat} {st o:Nat} {acc:List (List Nat)}:(if st=o then acc else acc++[(x.drop st).take (o-st)]).flatten=acc.flatten++(x.drop st).take (o-st):=by
  split
  · rename_i h
    subst h
    simp
  · simp
theorem scan {s:V4 Nat} {i j:Int} {z:List Nat} (hz:z=[] ∨ z=[34,40]):∀ (w:List Int) (b:Bool) (pre:List Nat) (st:Nat) (op:Option Nat) (acc:List (List Nat)) (X G:List Nat),X=pre++(tx s i j b w++z)→st≤pre.length →
    ((b=false∧op=none∧G=acc.flatten++pre.drop st) ∨ (b=true∧∃ o,op=some o∧st≤o∧o≤pre.length∧G=acc.flatten++(pre.drop st).take (o-st))) →
    ∃ st' acc',stF X (tx s i j b w++z) pre.length st op acc=some (st',acc')∧acc'.flatten++X.drop st'=G++(lf s i j w++z)
  | [],b,pre,st,op,acc,X,G,hX,hst,hb=>by
    have tail:∀ (pre:List Nat) (st:Nat) (acc:List (List Nat)) (X:List Nat),X=pre++z→st≤pre.length→∃ st' acc',stF X z pre.length st none acc=some (st',acc')∧acc'.flatten++X.drop st'=(acc.flatten++pre.drop st)++z:=fun pre st acc X hX hst=>by
      rcases hz with rfl | rfl
      · exact ⟨st,acc,by unfold stF; rfl,by rw [hX]; simp⟩
      · refine ⟨st,acc,?_,?_⟩
        · rw [stF_quote0]
          have:=stF_piece (x:=X) (c:=40) (l:=[]) (i:=pre.length+1) (st:=st) (op:=some pre.length) (acc:=acc)
          have e:aS 40++[]=[40]:=rfl
          rw [e] at this
          rw [this]
          unfold stF
          rfl
        · rw [hX,List.drop_append_of_le_length hst,List.append_assoc]
    rcases hb with ⟨rfl,rfl,rfl⟩ | ⟨rfl,o,rfl,h1,h2,rfl⟩
    · have e:tx s i j false []=[]:=rfl
      rw [e,List.nil_append] at hX ⊢
      obtain ⟨st',acc',a,c⟩:=tail pre st acc X hX hst
      exact ⟨st',acc',a,c⟩
    · have e:tx s i j true []=[34]:=rfl
      rw [e] at hX ⊢
      show ∃ st' acc',stF X (34::z) pre.length st (some o) acc=some (st',acc')∧_
      rw [stF_quote1]
      obtain ⟨st',acc',a,c⟩:=tail (pre++[34]) (pre.length+1) (if st=o then acc else acc++[(X.drop st).take (o-st)]) X (by rw [hX]; simp) (by simp)
      refine ⟨st',acc',by simpa using a,?_⟩
      rw [c,close_flat,hX,List.drop_append_of_le_length hst,List.take_append_of_le_length (by simp; omega)]
      simp [lf]
  | x::w,b,pre,st,op,acc,X,G,hX,hst,hb=>by
    have etx:tx s i j b (x::w)=(if b==hit i j x then [34] else [])++(aS (s.at x)++tx s i j (!hit i j x) w):=by cases b <;> rfl
    have elf:lf s i j (x::w)=(if hit i j x then aS (s.at x) else [])++lf s i j w:=rfl
    rw [etx] at hX ⊢
    rw [elf]
    rcases hb with ⟨rfl,rfl,rfl⟩ | ⟨rfl,o,rfl,h1,h2,rfl⟩
    · cases hh:hit i j x with
      | true=>
        rw [hh] at hX
        have hX:X=pre++(aS (s.at x)++tx s i j false w++z):=hX
        show ∃ st' acc',stF X (aS (s.at x)++tx s i j false w++z) pre.length st none acc=some (st',acc')∧_
        rw [List.append_assoc,stF_piece]
        obtain ⟨st',acc',a,c⟩:=scan (s:=s) (i:=i) (j:=j) hz w false (pre++aS (s.at x)) st none acc X _ (by rw [hX]; simp) (by simp; omega) (.inl ⟨rfl,rfl,rfl⟩)
        refine ⟨st',acc',by simpa using a,?_⟩
        rw [c,List.drop_append_of_le_length hst]
        simp
      | false=>
        rw [hh] at hX
        have hX:X=pre++(34::(aS (s.at x)++tx s i j true w)++z):=hX
        show ∃ st' acc',stF X (34::(aS (s.at x)++tx s i j true w)++z) pre.length st none acc=some (st',acc')∧_
        rw [List.cons_append,stF_quote0,List.append_assoc,stF_piece]
        obtain ⟨st',acc',a,c⟩:=scan (s:=s) (i:=i) (j:=j) hz w true (pre++34::aS (s.at x)) st (some pre.length) acc X _ (by rw [hX]; simp) (by simp; omega) (.inr ⟨rfl,pre.length,rfl,hst,by simp,rfl⟩)
        refine ⟨st',acc',by rw [← a]; congr 1; simp; omega,?_⟩
        rw [c,List.drop_append_of_le_length hst,List.take_append_of_le_length (by simp),List.take_of_length_le (by simp)]
        simp
    · cases hh:hit i j x with
      | true=>
        rw [hh] at hX
        have hX:X=pre++(34::(aS (s.at x)++tx s i j false w)++z):=hX
        show ∃ st' acc',stF X (34::(aS (s.at x)++tx s i j false w)++z) pre.length st (some o) acc=some (st',acc')∧_
        rw [List.cons_append,stF_quote1,List.append_assoc,stF_piece]
        obtain ⟨st',acc',a,c⟩:=scan (s:=s) (i:=i) (j:=j) hz w false (pre++34::aS (s.at x)) (pre.length+1) none (if st=o then acc else acc++[(X.drop st).take (o-st)]) X _ (by rw [hX]; simp) (by simp) (.inl ⟨rfl,rfl,rfl⟩)
        refine ⟨st',acc',by rw [← a]; congr 1; simp; omega,?_⟩
        rw [c,close_flat,hX,List.drop_append_of_le_length hst,List.take_append_of_le_length (by simp; omega)]
        simp
      | false=>
        rw [hh] at hX
        have hX:X=pre++(aS (s.at x)++tx s i j true w++z):=hX
        show ∃ st' acc',stF X (aS (s.at x)++tx s i j true w++z) pre.length st (some o) acc=some (st',acc')∧_
        rw [List.append_assoc,stF_piece]
        obtain ⟨st',acc',a,c⟩:=scan (s:=s) (i:=i) (j:=j) hz w true (pre++aS (s.at x)) st (some o) acc X _ (by rw [hX]; simp) (by simp; omega) (.inr ⟨rfl,o,rfl,h1,by simp; omega,rfl⟩)
        refine ⟨st',acc',by simpa using a,?_⟩
        rw [c,List.drop_append_of_le_length hst,List.take_append_of_le_length (by simp; omega)]
        simp
theorem stF_none {X:List Nat}:∀ (n:Nat) (l:List Nat) (i st:Nat) (acc:List (List Nat)) (r:Nat × List (List Nat)),l.length≤n→34∉l→stF X l i st none acc=some r→r=(st,acc)
  | n,[],i,st,acc,r,_,_,h=>by
    unfold stF at h
    injection h with h
    exact h.symm
  | 0,c::l,_,_,_,_,hn,_,_=>absurd hn (by simp)
  | n+1,c::l,i,st,acc,r,hn,h34,h=>by
    rw [List.length_cons] at hn
    unfold stF at h
    split at h
    · cases l with
      | nil=>cases h
      | cons c2 l=>
        rw [List.length_cons] at hn
        exact stF_none n l (i+2) st acc r (by omega) (fun hm=>h34 (.tail _ (.tail _ hm))) h
    · rw [if_neg (fun e=>h34 (by rw [e]; exact .head _))] at h
      exact stF_none n l (i+1) st acc r (by omega) (fun hm=>h34 (.tail _ hm)) h
theorem drT_strip {v:V6 Int} {s:V4 Nat} {i j:Int}:stripF (drT v s i j).1=some (drT v s i j).2:=by
  rw [drT_eq]
  dsimp only
  have hz:zed i j=[] ∨ zed i j=[34,40]:=by
    unfold zed
    split
    · exact .inr rfl
    · exact .inl rfl
  obtain ⟨st,acc,a,c⟩:=scan (s:=s) (i:=i) (j:=j) hz (w6 v) false [] 0 none [] (tx s i j false (w6 v)++zed i j) [] rfl (by simp) (.inl ⟨rfl,rfl,rfl⟩)
  generalize hX:tx s i j false (w6 v)++zed i j=X at *
  have a:stF X X 0 0 none []=some (st,acc):=a
  have c:acc.flatten++X.drop st=lf s i j (w6 v)++zed i j:=by simpa using c
  unfold stripF
  by_cases h34:34∈X
  · rw [if_pos h34,a]
    dsimp only
    rw [← c]
    split
    · simp
    · rename_i h
      rw [List.drop_of_length_le (by omega),List.append_nil]
  · rw [if_neg h34]
    have z:=stF_none X.length X 0 0 [] (st,acc) (Nat.le_refl _) h34 a
    injection z with z1 z2
    subst z1 z2
    simpa using c
theorem asc_iff {x:List Nat}:Asc x↔∀ c∈x,c<128:=by
  unfold Asc
  simp
theorem piece_mem {c d:Nat} (h:d∈aS c):d=92 ∨ d=c:=by
  unfold aS at h
  split at h <;> simp at h
  · exact h
  · exact .inr h
theorem tx_mem {s:V4 Nat} {i j:Int}:∀ (w:List Int) (b:Bool),∀ c∈tx s i j b w,c=34 ∨ c=92 ∨ ∃ x∈w,c=s.at x
  | [],b,c,h=>by
    unfold tx at h
    split at h <;> simp at h
    exact .inl h
  | x::w,b,c,h=>by
    have etx:tx s i j b (x::w)=(if b==hit i j x then [34] else [])++(aS (s.at x)++tx s i j (!hit i j x) w):=by cases b <;> rfl
    rw [etx] at h
    rcases List.mem_append.mp h with h | h
    · split at h <;> simp at h
      exact .inl h
    · rcases List.mem_append.mp h with h | h
      · rcases piece_mem h with h | h
        · exact .inr (.inl h)
        · exact .inr (.inr ⟨x,.head _,h⟩)
      · rcases tx_mem w _ c h with h | h | ⟨y,hy,h⟩
        · exact .inl h
        · exact .inr (.inl h)
        · exact .inr (.inr ⟨y,.tail _ hy,h⟩)
theorem tx_len {s:V4 Nat} {i j:Int}:∀ (w:List Int) (b:Bool),(tx s i j b w).length≤3*w.length+1
  | [],b=>by unfold tx; split <;> simp
  | x::w,b=>by
    have etx:tx s i j b (x::w)=(if b==hit i j x then [34] else [])++(aS (s.at x)++tx s i j (!hit i j x) w):=by cases b <;> rfl
    have ih:=tx_len (s:=s) (i:=i) (j:=j) w (!hit i j x)
    have hp:=piece_le (s.at x)
    rw [etx,List.length_append,List.length_append,List.length_cons]
    have:(if b==hit i j x then [34] else []:List Nat).length≤1:=by split <;> simp
    omega
theorem s4_lt {s:V4 Nat} (h:Asc [s.a,s.b,s.c,s.d]) (x:Int):s.at x<128:=by
  rw [asc_iff] at h
  unfold V4.at
  rw [sel_cases]
  split
  · exact h _ (by simp)
  · split
    · exact h _ (by simp)
    · split
      · exact h _ (by simp)
      · exact h _ (by simp)
theorem dr_of {v:V6 Int} {s:V4 Nat} (h:Asc [s.a,s.b,s.c,s.d]):Dr v s where
  asc i j:=by
    rw [drT_eq,asc_iff]
    intro c hc
    rcases List.mem_append.mp hc with hc | hc
    · rcases tx_mem _ _ c hc with rfl | rfl | ⟨x,_,rfl⟩
      · decide
      · decide
      · exact s4_lt h x
    · unfold zed at hc
      split at hc <;> simp at hc
      rcases hc with rfl | rfl <;> decide
  len i j:=by
    rw [drT_eq]
    have z:=tx_len (s:=s) (i:=i) (j:=j) (w6 v) false
    have e:(w6 v).length=6:=rfl
    have:(zed i j).length≤2:=by unfold zed; split <;> simp
    dsimp only
    rw [List.length_append]
    omega
  str i j:=drT_strip
theorem lf_eq {s:V4 Nat} {i j:Int}:∀ w:List Int,lf s i j w=((w.filter (two id i j)).map fun x=>aS (s.at x)).flatten
  | []=>rfl
  | x::w=>by
    have e:lf s i j (x::w)=(if hit i j x then aS (s.at x) else [])++lf s i j w:=rfl
    have et:two id i j x=hit i j x:=rfl
    rw [e,lf_eq w,List.filter_cons,et]
    cases hit i j x <;> simp
theorem s4_inj {s:V4 Nat} (hs:Nd s) {x y:Int} (hx:0≤x∧x<4) (hy:0≤y∧y<4) (h:s.at x=s.at y):x=y:=by
  rw [← kap_cnam hs hx 0,h,kap_cnam hs hy 0]
theorem dec_inj {s:V4 Nat} (hs:Nd s):∀ u u':List Int,(∀ x∈u,0≤x∧x<4)→(∀ x∈u',0≤x∧x<4)→(u.map fun x=>aS (s.at x)).flatten=(u'.map fun x=>aS (s.at x)).flatten→u=u'
  | [],[],_,_,_=>rfl
  | [],y::u',_,_,h=>by
    rw [List.map_cons,List.flatten_cons] at h
    unfold aS at h
    split at h <;> simp at h
  | x::u,[],_,_,h=>by
    rw [List.map_cons,List.flatten_cons] at h
    unfold aS at h
    split at h <;> simp at h
  | x::u,y::u',hu,hu',h=>by
    rw [List.map_cons,List.flatten_cons,List.map_cons,List.flatten_cons] at h
    have key:s.at x=s.at y∧(u.map fun x=>aS (s.at x)).flatten=(u'.map fun x=>aS (s.at x)).flatten:=by
      generalize (u.map fun x=>aS (s.at x)).flatten=r at *
      generalize (u'.map fun x=>aS (s.at x)).flatten=r' at *
      unfold aS at h
      by_cases a:(s.at x==34 || s.at x==92)=true <;> by_cases b:(s.at y==34 || s.at y==92)=true
      · rw [if_pos a,if_pos b] at h
        simpa using h
      · rw [if_pos a,if_neg b] at h
        simp only [List.cons_append,List.cons.injEq] at h
        rw [← h.1] at b
        exact absurd rfl b
      · rw [if_neg a,if_pos b] at h
        simp only [List.cons_append,List.cons.injEq] at h
        rw [h.1] at a
        exact absurd rfl a
      · rw [if_neg a,if_neg b] at h
        simpa using h
    rw [s4_inj hs (hu x (.head _)) (hu' y (.head _)) key.1,dec_inj hs u u' (fun z hz=>hu z (.tail _ hz)) (fun z hz=>hu' z (.tail _ hz)) key.2]
theorem left_iff {s:V4 Nat} (hs:Nd s) {C:Int→Nat} {P P':V6 Int} (h:Wd C P) (h':Wd C P') (i j:Int):(drT P s i j).2=(drT P' s i j).2↔(w6 P).filter (two id i j)=(w6 P').filter (two id i j):=by
  rw [drT_eq,drT_eq]
  dsimp only
  rw [lf_eq,lf_eq]
  constructor
  · intro e
    exact dec_inj hs _ _ (fun x hx=>h.mem x (List.mem_filter.mp hx).1) (fun x hx=>h'.mem x (List.mem_filter.mp hx).1) (List.append_cancel_right e)
  · intro e
    rw [e]
theorem alIt_iff {D:Dp} {v v':V6 Int} {s:V4 Nat} {i:Int}:∀ (n:Nat) (j:Int) (a:Bool),alIt D v v' s i n j a=true↔a=true∧∀ k,j≤k→k<j+n→D.m i k=true→(drT v s i k).2=(drT v' s i k).2
  | 0,j,a=>by
    show a=true↔_
    constructor
    · intro h
      exact ⟨h,fun k h1 h2=>absurd h2 (by omega)⟩
    · exact fun h=>h.1
  | n+1,j,a=>by
    have ih:=alIt_iff (D:=D) (v:=v) (v':=v') (s:=s) (i:=i) n (j+1) (if D.m i j && decide ((drT v s i j).2≠(drT v' s i j).2) then false else a)
    show alIt D v v' s i n (j+1) _=true↔_
    rw [ih]
    constructor
    · rintro ⟨h1,h2⟩
      have h3:a=true∧(D.m i j=true→(drT v s i j).2=(drT v' s i j).2):=by
        split at h1
        · cases h1
        · rename_i hn
          refine ⟨h1,fun hd=>?_⟩
          rw [hd] at hn
          simpa using hn
      refine ⟨h3.1,fun k h4 h5 hd=>?_⟩
      by_cases e:k=j
      · subst e; exact h3.2 hd
      · exact h2 k (by omega) (by push_cast at h5; omega) hd
    · rintro ⟨h1,h2⟩
      refine ⟨?_,fun k h4 h5 hd=>h2 k (by omega) (by push_cast; omega) hd⟩
      rw [if_neg]
      · exact h1
      · intro hc
        rw [Bool.and_eq_true,decide_eq_true_iff] at hc
        exact hc.2 (h2 j (Int.le_refl _) (by push_cast; omega) hc.1)
theorem alAll_iff {D:Dp} {s:V4 Nat} (hs:Nd s) {C:Int→Nat} {P P':V6 Int} (h:Wd C P) (h':Wd C P'):alAll D P P' s=true↔Agree D P P':=by
  unfold alAll
  rw [alIt_iff,alIt_iff,alIt_iff]
  constructor
  · rintro ⟨⟨⟨_,h0⟩,h1⟩,h2⟩ i j hi hlt hj hd
    refine (left_iff hs h h' i j).mp ?_
    obtain rfl | rfl | rfl:i=0 ∨ i=1 ∨ i=2:=by omega
    · exact h0 j (by omega) (by push_cast; omega) hd
    · exact h1 j (by omega) (by push_cast; omega) hd
    · exact h2 j (by omega) (by push_cast; omega) hd
  · intro H
    refine ⟨⟨⟨rfl,fun k a b hd=>?_⟩,fun k a b hd=>?_⟩,fun k a b hd=>?_⟩ <;> push_cast at b
    · exact (left_iff hs h h' 0 k).mpr (H 0 k (by omega) (by omega) (by omega) hd)
    · exact (left_iff hs h h' 1 k).mpr (H 1 k (by omega) (by omega) (by omega) hd)
    · exact (left_iff hs h h' 2 k).mpr (H 2 k (by omega) (by omega) (by omega) hd)
theorem bestF_max {D:Dp} {KS:V6 Int} {hs:List Int} {K:Int}:∀ (n:Nat) (j b:Int),b≤bg D KS hs K n j b∧(∀ i,j≤i→i<j+n→i<K→D.m (KS.at i) (KS.at K)=true→hs[i.toNat]?.getD 0≤bg D KS hs K n j b)∧(bg D KS hs K n j b=b ∨ ∃ i,j≤i∧i<K∧D.m (KS.at i) (KS.at K)=true∧bg D KS hs K n j b=hs[i.toNat]?.getD 0)
  | 0,j,b=>⟨Int.le_refl _,fun i h1 h2=>absurd h2 (by omega),.inl rfl⟩
  | n+1,j,b=>by
    obtain ⟨a1,a2,a3⟩:=bestF_max (D:=D) (KS:=KS) (hs:=hs) (K:=K) n (j+1) (stepF D KS hs K j b)
    have e:bg D KS hs K (n+1) j b=bg D KS hs K n (j+1) (stepF D KS hs K j b):=rfl
    rw [e]
    generalize bg D KS hs K n (j+1) (stepF D KS hs K j b)=r at *
    unfold stepF at a1 a3
    by_cases hc:(D.m (KS.at j) (KS.at K) && decide (j<K))=true
    · rw [if_pos hc] at a1 a3
      rw [Bool.and_eq_true,decide_eq_true_iff] at hc
      by_cases hg:hs[j.toNat]?.getD 0>b
      · rw [if_pos hg] at a1 a3
        refine ⟨by omega,fun i h1 h2 h3 h4=>?_,?_⟩
        · by_cases ei:i=j
          · subst ei; exact a1
          · exact a2 i (by omega) (by push_cast at h2; omega) h3 h4
        · rcases a3 with a3 | ⟨i,h1,h2,h3,h4⟩
          · exact .inr ⟨j,Int.le_refl _,hc.2,hc.1,a3⟩
          · exact .inr ⟨i,by omega,h2,h3,h4⟩
      · rw [if_neg hg] at a1 a3
        refine ⟨a1,fun i h1 h2 h3 h4=>?_,?_⟩
        · by_cases ei:i=j
          · subst ei; omega
          · exact a2 i (by omega) (by push_cast at h2; omega) h3 h4
        · rcases a3 with a3 | ⟨i,h1,h2,h3,h4⟩
          · exact .inl a3
          · exact .inr ⟨i,by omega,h2,h3,h4⟩
    · rw [if_neg hc] at a1 a3
      refine ⟨a1,fun i h1 h2 h3 h4=>?_,?_⟩
      · by_cases ei:i=j
        · subst ei
          exact absurd (by rw [Bool.and_eq_true,decide_eq_true_iff]; exact ⟨h4,h3⟩) hc
        · exact a2 i (by omega) (by push_cast at h2; omega) h3 h4
      · rcases a3 with a3 | ⟨i,h1,h2,h3,h4⟩
        · exact .inl a3
        · exact .inr ⟨i,by omega,h2,h3,h4⟩
noncomputable def CondH (D:Int→Int→Bool) (b:Int) (P:List (Nm × Int)) (r:Nm × Int):Prop:=b+1≤r.2∧(∀ p∈P,D r.1.k p.1.k=true→p.2<r.2)∧(b+1<r.2→∃ p∈P,D r.1.k p.1.k=true∧p.2=r.2-1)
noncomputable def OkR (D:Int→Int→Bool) (b:Int):List (Nm × Int)→List (Nm × Int)→Prop
  | _,[]=>True
  | P,r::R=>CondH D b P r∧OkR D b (P++[r]) R
theorem okR_to {D:Int→Int→Bool} {b:Int}:∀ (R P:List (Nm × Int)),OkR D b P R→∀ P' r R',R=P'++r::R'→CondH D b (P++P') r
  | [],P,_,P',r,R',e=>by cases P' <;> cases e
  | x::R,P,h,[],r,R',e=>by
    injection e with e1 e2
    subst e1
    rw [List.append_nil]
    exact h.1
  | x::R,P,h,y::P',r,R',e=>by
    injection e with e1 e2
    subst e1
    have:=okR_to R (P++[x]) h.2 P' r R' e2
    rw [List.append_assoc] at this
    exact this
theorem htOk_of {D:Int→Int→Bool} {b:Int} {A:List (Nm × Int)} (h:OkR D b [] A):HtOk D Nm.k b A:=fun P r R e=>okR_to A [] h P r R e
theorem cond_of {D:Dp} {KS:V6 Int} {P:List (Nm × Int)} {r:Nm} {K:Int} {hs:List Int} (hK:K=P.length) (h6:P.length≤6) (hP:∀ (i:Nat) p,P[i]?=some p→KS.at i=p.1.k) (hr:KS.at K=r.k) (hh:hs=P.map (·.2)):CondH D.m 0 P (r,bg D KS hs K 6 0 0+1):=by
  obtain ⟨a1,a2,a3⟩:=bestF_max (D:=D) (KS:=KS) (hs:=hs) (K:=K) 6 0 0
  refine ⟨by show (0:Int)+1≤bg D KS hs K 6 0 0+1; omega,fun p hp hd=>?_,fun hl=>?_⟩
  · obtain ⟨i,hi,e⟩:=List.mem_iff_getElem.mp hp
    have hi':P[i]?=some p:=by rw [List.getElem?_eq_getElem hi,e]
    have hk:=hP i p hi'
    have z:=a2 i (by omega) (by push_cast; omega) (by omega) (by rw [hk,hr,D.symm]; exact hd)
    rw [hh,Int.toNat_natCast,List.getElem?_map,hi'] at z
    have z:p.2≤bg D KS hs K 6 0 0:=by rw [hh]; exact z
    show p.2<bg D KS hs K 6 0 0+1
    omega
  · have hl:(0:Int)+1<bg D KS hs K 6 0 0+1:=hl
    rcases a3 with a3 | ⟨i,h1,h2,h3,h4⟩
    · omega
    · have hi:i.toNat<P.length:=by omega
      refine ⟨P[i.toNat],List.getElem_mem hi,?_,?_⟩
      · have hk:=hP i.toNat _ (List.getElem?_eq_getElem hi)
        have:((i.toNat:Nat):Int)=i:=by omega
        rw [this] at hk
        rw [← hk,← hr,D.symm]
        exact h3
      · show P[i.toNat].2=bg D KS hs K 6 0 0+1-1
        rw [h4,hh,List.getElem?_map,List.getElem?_eq_getElem hi]
        simp
noncomputable def hb0 (D:Dp) (K:V6 Int):Int:=bg D K [] 0 6 0 0
noncomputable def hb1 (D:Dp) (K:V6 Int):Int:=bg D K [hb0 D K+1] 1 6 0 0
noncomputable def hb2 (D:Dp) (K:V6 Int):Int:=bg D K [hb0 D K+1,hb1 D K+1] 2 6 0 0
noncomputable def hb3 (D:Dp) (K:V6 Int):Int:=bg D K [hb0 D K+1,hb1 D K+1,hb2 D K+1] 3 6 0 0
noncomputable def hb4 (D:Dp) (K:V6 Int):Int:=bg D K [hb0 D K+1,hb1 D K+1,hb2 D K+1,hb3 D K+1] 4 6 0 0
noncomputable def hb5 (D:Dp) (K:V6 Int):Int:=bg D K [hb0 D K+1,hb1 D K+1,hb2 D K+1,hb3 D K+1,hb4 D K+1] 5 6 0 0
noncomputable def htV (D:Dp) (K:V6 Int):V6 Int:=⟨hb0 D K+1,hb1 D K+1,hb2 D K+1,hb3 D K+1,hb4 D K+1,hb5 D K+1⟩
noncomputable def zip6 (Q:V6 Nm) (B:V6 Int):List (Nm × Int):=[(Q.a,B.a),(Q.b,B.b),(Q.c,B.c),(Q.d,B.d),(Q.e,B.e),(Q.f,B.f)]
noncomputable abbrev kindV (Q:V6 Nm):V6 Int:=⟨Q.a.k,Q.b.k,Q.c.k,Q.d.k,Q.e.k,Q.f.k⟩
theorem zip6_ok {D:Dp} {Q:V6 Nm}:HtOk D.m Nm.k 0 (zip6 Q (htV D (kindV Q))):=by
  refine htOk_of ⟨?_,?_,?_,?_,?_,?_,trivial⟩
  · exact cond_of (KS:=kindV Q) rfl (by decide) (fun i p h=>by simp at h) rfl rfl
  · exact cond_of (KS:=kindV Q) rfl (by simp) (fun i p h=>by rcases i with _ | i <;> simp at h; subst h; rfl) rfl rfl
  · exact cond_of (KS:=kindV Q) rfl (by simp) (fun i p h=>by rcases i with _ | _ | i <;> simp at h <;> subst h <;> rfl) rfl rfl
  · exact cond_of (KS:=kindV Q) rfl (by simp) (fun i p h=>by rcases i with _ | _ | _ | i <;> simp at h <;> subst h <;> rfl) rfl rfl
  · exact cond_of (KS:=kindV Q) rfl (by simp) (fun i p h=>by rcases i with _ | _ | _ | _ | i <;> simp at h <;> subst h <;> rfl) rfl rfl
  · exact cond_of (KS:=kindV Q) rfl (by simp) (fun i p h=>by rcases i with _ | _ | _ | _ | _ | i <;> simp at h <;> subst h <;> rfl) rfl rfl
theorem lvF_eq {B:V6 Int} {Q:V6 Nm} {lv:Int}:lvF B Q lv 6 0=((zip6 Q B).filter fun r=>r.2==lv).map (·.1):=by
  have key:∀ (n:Nat) (k:Int),lvF B Q lv n k=(((List.range n).map fun (i:Nat)=>(Q.at (k+i),B.at (k+i))).filter fun r=>r.2==lv).map (·.1):=by
    intro n
    induction n with
    | zero=>intro k; rfl
    | succ n ih=>
      intro k
      unfold lvF
      rw [ih,List.range_succ_eq_map,List.map_cons,List.map_map]
      have e0:k+((0:Nat):Int)=k:=by omega
      have e1:((fun (i:Nat)=>(Q.at (k+i),B.at (k+i))) ∘ Nat.succ)=fun (i:Nat)=>(Q.at (k+1+i),B.at (k+1+i)):=by
        funext i
        have:k+((i.succ:Nat):Int)=k+1+i:=by push_cast; omega
        simp only [Function.comp,this]
      rw [e0,e1,List.filter_cons]
      by_cases h:B.at k=lv
      · simp [h]
      · simp [h]
  rw [key]
  rfl
theorem lvlsF_eq {B:V6 Int} {Q:V6 Nm}:∀ (n:Nat) (k:Int),lvlsF B Q n k=lvG (zip6 Q B) n k
  | 0,_=>rfl
  | n+1,k=>by
    unfold lvlsF lvG
    rw [lvF_eq,lvlsF_eq n]
theorem maxIt_max {B:V6 Int}:∀ (n:Nat) (k b:Int),b≤maxIt B n k b∧(∀ i,k≤i→i<k+n→B.at i≤maxIt B n k b)∧(maxIt B n k b=b ∨ ∃ i,k≤i∧i<k+n∧maxIt B n k b=B.at i)
  | 0,k,b=>⟨Int.le_refl _,fun i h1 h2=>absurd h2 (by omega),.inl rfl⟩
  | n+1,k,b=>by
    obtain ⟨a1,a2,a3⟩:=maxIt_max (B:=B) n (k+1) (if B.at k>b then B.at k else b)
    have e:maxIt B (n+1) k b=maxIt B n (k+1) (if B.at k>b then B.at k else b):=rfl
    rw [e]
    generalize maxIt B n (k+1) (if B.at k>b then B.at k else b)=r at *
    have c1:b≤r∧B.at k≤r:=by split at a1 <;> omega
    refine ⟨c1.1,fun i h1 h2=>?_,?_⟩
    · by_cases ei:i=k
      · subst ei; exact c1.2
      · exact a2 i (by omega) (by push_cast at h2; omega)
    · rcases a3 with a3 | ⟨i,h1,h2,h3⟩
      · split at a3
        · exact .inr ⟨k,Int.le_refl _,by push_cast; omega,a3⟩
        · exact .inl a3
      · exact .inr ⟨i,by omega,by push_cast; omega,h3⟩
noncomputable def mxV (B:V6 Int):Int:=maxIt B 5 1 B.a
theorem mxV_facts {B:V6 Int} {Q:V6 Nm}:(∀ a∈zip6 Q B,a.2≤mxV B)∧∃ a∈zip6 Q B,a.2=mxV B:=by
  obtain ⟨a1,a2,a3⟩:=maxIt_max (B:=B) 5 1 B.a
  constructor
  · intro a ha
    simp only [zip6,List.mem_cons,List.not_mem_nil,or_false] at ha
    rcases ha with rfl | rfl | rfl | rfl | rfl | rfl
    · exact a1
    · exact a2 1 (by decide) (by decide)
    · exact a2 2 (by decide) (by decide)
    · exact a2 3 (by decide) (by decide)
    · exact a2 4 (by decide) (by decide)
    · exact a2 5 (by decide) (by decide)
  · rcases a3 with a3 | ⟨i,h1,h2,h3⟩
    · exact ⟨(Q.a,B.a),by simp [zip6],a3.symm⟩
    · obtain rfl | rfl | rfl | rfl | rfl:i=1 ∨ i=2 ∨ i=3 ∨ i=4 ∨ i=5:=by push_cast at h2; omega
      · exact ⟨(Q.b,B.b),by simp [zip6],h3.symm⟩
      · exact ⟨(Q.c,B.c),by simp [zip6],h3.symm⟩
      · exact ⟨(Q.d,B.d),by simp [zip6],h3.symm⟩
      · exact ⟨(Q.e,B.e),by simp [zip6],h3.symm⟩
      · exact ⟨(Q.f,B.f),by simp [zip6],h3.symm⟩
theorem zip6_fst {Q:V6 Nm} {B:V6 Int}:(zip6 Q B).map (·.1)=[Q.a,Q.b,Q.c,Q.d,Q.e,Q.f]:=rfl
theorem rounds_levels {D:Dp} {Q:V6 Nm} {m:Nat} (hm:mxV (htV D (kindV Q))=m):rndsF D 6 [Q.a,Q.b,Q.c,Q.d,Q.e,Q.f]=lvlsF (htV D (kindV Q)) Q m 1:=by
  have z:=mxV_facts (B:=htV D (kindV Q)) (Q:=Q)
  rw [rndsF_eq,lvlsF_eq,← zip6_fst (B:=htV D (kindV Q))]
  exact rnds_levels 6 _ 0 m zip6_ok (Nat.le_refl 6) (fun a ha=>by have:=z.1 a ha; omega) (fun _=>by
    obtain ⟨a,ha,e⟩:=z.2
    exact ⟨a,ha,by omega⟩)
theorem ht_le {D:Dp} {K:V6 Int}:1≤mxV (htV D K)∧mxV (htV D K)≤6:=by
  have b0:=bestF_max (D:=D) (KS:=K) (hs:=[]) (K:=0) 6 0 0
  have b1:=bestF_max (D:=D) (KS:=K) (hs:=[hb0 D K+1]) (K:=1) 6 0 0
  have b2:=bestF_max (D:=D) (KS:=K) (hs:=[hb0 D K+1,hb1 D K+1]) (K:=2) 6 0 0
  have b3:=bestF_max (D:=D) (KS:=K) (hs:=[hb0 D K+1,hb1 D K+1,hb2 D K+1]) (K:=3) 6 0 0
  have b4:=bestF_max (D:=D) (KS:=K) (hs:=[hb0 D K+1,hb1 D K+1,hb2 D K+1,hb3 D K+1]) (K:=4) 6 0 0
  have b5:=bestF_max (D:=D) (KS:=K) (hs:=[hb0 D K+1,hb1 D K+1,hb2 D K+1,hb3 D K+1,hb4 D K+1]) (K:=5) 6 0 0
  have c0:hb0 D K=0:=by
    rcases b0.2.2 with h | ⟨i,h1,h2,_⟩
    · exact h
    · omega
  have c1:0≤hb1 D K∧hb1 D K≤1:=by
    refine ⟨b1.1,?_⟩
    rcases b1.2.2 with h | ⟨i,h1,h2,_,h⟩
    · have:hb1 D K=0:=h
      omega
    · obtain rfl:i=0:=by omega
      have:hb1 D K=hb0 D K+1:=h
      omega
  have c2:0≤hb2 D K∧hb2 D K≤2:=by
    refine ⟨b2.1,?_⟩
    rcases b2.2.2 with h | ⟨i,h1,h2,_,h⟩
    · have:hb2 D K=0:=h
      omega
    · obtain rfl | rfl:i=0 ∨ i=1:=by omega
      · have:hb2 D K=hb0 D K+1:=h
        omega
      · have:hb2 D K=hb1 D K+1:=h
        omega
  have c3:0≤hb3 D K∧hb3 D K≤3:=by
    refine ⟨b3.1,?_⟩
    rcases b3.2.2 with h | ⟨i,h1,h2,_,h⟩
    · have:hb3 D K=0:=h
      omega
    · obtain rfl | rfl | rfl:i=0 ∨ i=1 ∨ i=2:=by omega
      · have:hb3 D K=hb0 D K+1:=h
        omega
      · have:hb3 D K=hb1 D K+1:=h
        omega
      · have:hb3 D K=hb2 D K+1:=h
        omega
  have c4:0≤hb4 D K∧hb4 D K≤4:=by
    refine ⟨b4.1,?_⟩
    rcases b4.2.2 with h | ⟨i,h1,h2,_,h⟩
    · have:hb4 D K=0:=h
      omega
    · obtain rfl | rfl | rfl | rfl:i=0 ∨ i=1 ∨ i=2 ∨ i=3:=by omega
      · have:hb4 D K=hb0 D K+1:=h
        omega
      · have:hb4 D K=hb1 D K+1:=h
        omega
      · have:hb4 D K=hb2 D K+1:=h
        omega
      · have:hb4 D K=hb3 D K+1:=h
        omega
  have c5:0≤hb5 D K∧hb5 D K≤5:=by
    refine ⟨b5.1,?_⟩
    rcases b5.2.2 with h | ⟨i,h1,h2,_,h⟩
    · have:hb5 D K=0:=h
      omega
    · obtain rfl | rfl | rfl | rfl | rfl:i=0 ∨ i=1 ∨ i=2 ∨ i=3 ∨ i=4:=by omega
      · have:hb5 D K=hb0 D K+1:=h
        omega
      · have:hb5 D K=hb1 D K+1:=h
        omega
      · have:hb5 D K=hb2 D K+1:=h
        omega
      · have:hb5 D K=hb3 D K+1:=h
        omega
      · have:hb5 D K=hb4 D K+1:=h
        omega
  obtain ⟨a,ha,e⟩:=(mxV_facts (B:=htV D K) (Q:=to6 [])).2
  simp only [zip6,List.mem_cons,List.not_mem_nil,or_false] at ha
  rw [← e]
  rcases ha with rfl | rfl | rfl | rfl | rfl | rfl
  · show 1≤hb0 D K+1∧hb0 D K+1≤6; omega
  · show 1≤hb1 D K+1∧hb1 D K+1≤6; omega
  · show 1≤hb2 D K+1∧hb2 D K+1≤6; omega
  · show 1≤hb3 D K+1∧hb3 D K+1≤6; omega
  · show 1≤hb4 D K+1∧hb4 D K+1≤6; omega
  · show 1≤hb5 D K+1∧hb5 D K+1≤6; omega
theorem signs_of {s:V4 Nat} (h:Nd s):aR [s.a,s.b,s.c,s.d] s where
  len:=rfl
  idx i h0 h4:=by
    have h:Nd s:=h
    unfold Nd at h
    simp only [List.nodup_cons,List.mem_cons,List.not_mem_nil,not_or,or_false] at h
    obtain ⟨⟨h1,h2,h3⟩,⟨h4',h5⟩,h6,_⟩:=h
    have e:(S [s.a,s.b,s.c,s.d]).length=4:=rfl
    rw [e,occ_one]
    rcases four h0 h4 with rfl | rfl | rfl | rfl
    · rw [findF_some (j:=0) (by simp) (by omega) (by omega) rfl (fun i hi=>by omega)]
      exact ⟨[],rfl⟩
    · rw [findF_some (j:=1) (by simp) (by omega) (by omega) rfl (fun i hi=>by
        obtain rfl:i=0:=by omega
        intro e; injection e with e; exact h1 e)]
      exact ⟨[],rfl⟩
    · rw [findF_some (j:=2) (by simp) (by omega) (by omega) rfl (fun i hi=>by
        obtain rfl | rfl:i=0 ∨ i=1:=by omega
        · intro e; injection e with e; exact h2 e
        · intro e; injection e with e; exact h4' e)]
      exact ⟨[],rfl⟩
    · rw [findF_some (j:=3) (by simp) (by omega) (by omega) rfl (fun i hi=>by
        obtain rfl | rfl | rfl:i=0 ∨ i=1 ∨ i=2:=by omega
        · intro e; injection e with e; exact h3 e
        · intro e; injection e with e; exact h5 e
        · intro e; injection e with e; exact h6 e)]
      exact ⟨[],rfl⟩
theorem row_ok {s:V4 Nat} {C:Int→Nat} (hC:∀ x,C x≤6) {F:Nat→Nat→Nat} {P:V6 Int} (h:Wd C P):∀ q∈rowL s C F P,q.ok s:=fun q hq=>by
  unfold rowL at hq
  obtain ⟨p,hp,rfl⟩:=List.mem_map.mp hq
  have z:=h.prm p hp
  have c6:=hC p.1
  have hl:(gnm s C F p).l.length=C p.1+1-p.2+1:=cnam_len _ _
  have ha:(gnm s C F p).l[(gnm s C F p).l.length-1]?=some (s.at (gnm s C F p).k):=by
    rw [← List.getLast?_eq_getElem?]
    exact cnam_last _ _
  exact ⟨⟨z.1,by omega,by omega,ha⟩,by omega,by omega⟩
theorem row_lt {s:V4 Nat} {C:Int→Nat} (hC:∀ x,C x≤6) {F:Nat→Nat→Nat} {P:V6 Int} (h:Wd C P):Lt ⟨(rowQ s C P F).a.ch,(rowQ s C P F).b.ch,(rowQ s C P F).c.ch,(rowQ s C P F).d.ch,(rowQ s C P F).e.ch,(rowQ s C P F).f.ch⟩ where
  abc x hx:=by
    have hx:x∈(rowL s C F P).map Nm.ch:=hx
    obtain ⟨q,hq,rfl⟩:=List.mem_map.mp hx
    have z:=row_ok hC h q hq
    have a:=z.good.1
    have b:=z.len
    unfold Nm.ch Nm.ix
    omega
  nd:=by
    have e:v6l ⟨(rowQ s C P F).a.ch,(rowQ s C P F).b.ch,(rowQ s C P F).c.ch,(rowQ s C P F).d.ch,(rowQ s C P F).e.ch,(rowQ s C P F).f.ch⟩=(pr0 P).map fun p=>(gnm s C F p).ch:=rfl
    rw [e]
    refine List.pairwise_map.mpr ?_
    refine List.Pairwise.imp_of_mem ?_ (prs_nodup (w6 P) fun _=>0)
    intro p q hp hq hne e
    refine hne ?_
    have hp:=h.prm p hp
    have hq:=h.prm q hq
    have cp:=hC p.1
    have cq:=hC q.1
    have lp:(gnm s C F p).l.length=C p.1+1-p.2+1:=cnam_len _ _
    have lq:(gnm s C F q).l.length=C q.1+1-q.2+1:=cnam_len _ _
    have kp:(gnm s C F p).k=p.1:=rfl
    have kq:(gnm s C F q).k=q.1:=rfl
    unfold Nm.ch Nm.ix at e
    rw [lp,lq,kp,kq] at e
    obtain ⟨a,b⟩:=p
    obtain ⟨c,d⟩:=q
    dsimp only at *
    have e1:a=c:=by omega
    subst e1
    congr 1
    omega
theorem htQ {w:World} {d:Nat} {rl:Addr} {Q:V6 Nm} {er:Nat} {ts:Tok} {r:R4} {D:Dp} {s:V4 Nat} (hD:d≤220) (hs:aR [s.a,s.b,s.c,s.d] s) (hq:∀ q∈[Q.a,Q.b,Q.c,Q.d,Q.e,Q.f],q.ok s) (hL:Lt ⟨Q.a.ch,Q.b.ch,Q.c.ch,Q.d.ch,Q.e.ch,Q.f.ch⟩) (hk:∀ i,0≤(kindV Q).at i∧(kindV Q).at i<4) :
    Ok w d (htS rl Q.a Q.b Q.c Q.d Q.e Q.f er [s.a,s.b,s.c,s.d] ts r D (htV D (kindV Q))):=by
  have qa:=hq Q.a (by simp)
  have qb:=hq Q.b (by simp)
  have qc:=hq Q.c (by simp)
  have qd:=hq Q.d (by simp)
  have qe:=hq Q.e (by simp)
  have qf:=hq Q.f (by simp)
  obtain ⟨ra,ha⟩:=hs.idx Q.a.k qa.good.1.1 qa.good.1.2
  obtain ⟨rb,hb⟩:=hs.idx Q.b.k qb.good.1.1 qb.good.1.2
  obtain ⟨rc,hc⟩:=hs.idx Q.c.k qc.good.1.1 qc.good.1.2
  obtain ⟨rd,hd⟩:=hs.idx Q.d.k qd.good.1.1 qd.good.1.2
  obtain ⟨re,he⟩:=hs.idx Q.e.k qe.good.1.1 qe.good.1.2
  obtain ⟨rf,hf⟩:=hs.idx Q.f.k qf.good.1.1 qf.good.1.2
  exact ht_all hD hL hk qa qb qc qd qe qf ha hb hc hd he hf qa.abc qb.abc qc.abc qd.abc qe.abc qf.abc rfl rfl rfl rfl rfl rfl
theorem sgF_Nd (i:Int):Nd (sgF i):=sgF_nd i
theorem glIt_fin {v v':V6 Int} {s:V4 Nat} {i:Int}:∀ (n:Nat) (j:Int),∀ g∈glIt v v' s i n j,g=.finished
  | 0,_,_,h=>nomatch h
  | n+1,j,g,h=>by
    have key:∀ x,∀ g∈aN x,g=.finished:=fun x g h=>by
      unfold aN at h
      split at h
      · simpa using h
      · cases h
    rcases List.mem_append.mp h with h | h
    · rcases List.mem_append.mp h with h | h
      · exact key _ g h
      · exact key _ g h
    · exact glIt_fin n (j+1) g h
theorem law_true {w:World} {d:Nat} {sc:Addr} {ns:List Int} {f:Nat→Nat} {e:Nat} (hD:d≤40) (hn:ns.length≤63):∃ gl,(∀ g∈gl,g=.finished)∧Ok w d (lawS w sc ns f e gl):=by
  generalize hX:numX ns=X
  generalize hr:[X.a,X.b,X.c,X.d,X.e,X.f].sum=r
  generalize hs4:sgF (r.fmod 8)=s4
  have hnd:Nd s4:=hs4 ▸ sgF_Nd _
  have hasc:Asc [s4.a,s4.b,s4.c,s4.d]:=hs4 ▸ sgF_asc _
  have hS:=signs_of hnd
  have hv:=wX_in X
  have hC:∀ x,aZ (wX X) x≤6:=fun x=>cntF_le _ _
  have wv:Wd (aZ (wX X)) (wX X):=⟨hv,fun x=>Nat.le_of_eq (cntF_eq _ _).symm⟩
  have hp:(w6 (chgIt (dX X) X 6 0 ⟨wX X,true⟩).v).Perm (w6 (wX X)):=chgIt_perm 6 0 ⟨wX X,true⟩
  have hfair:(chgIt (dX X) X 6 0 ⟨wX X,true⟩).fair=true→Agree (dX X) (wX X) (chgIt (dX X) X 6 0 ⟨wX X,true⟩).v:=fun h=>(chgIt_mono 6 0 ⟨wX X,true⟩ h).2
  have hcr:∀ i,0≤(chgIt (dX X) X 6 0 ⟨wX X,true⟩).v.at i∧(chgIt (dX X) X 6 0 ⟨wX X,true⟩).v.at i<4:=chgIt_in (P:=fun i=>0≤i∧i<4) (D:=dX X) (X:=X) 6 0 (s:=⟨wX X,true⟩) hv
  generalize hc:chgIt (dX X) X 6 0 ⟨wX X,true⟩=c at hp hfair hcr
  obtain ⟨cv,fair⟩:=c
  dsimp only at hp hfair hcr
  have wc:Wd (aZ (wX X)) cv:=⟨hcr,fun x=>by rw [hp.count_eq x,cntF_eq]; exact Nat.le_refl _⟩
  have hsame:=same_iff hnd (D:=dX X) wv wc hp.symm
  have halw:=alAll_iff hnd (D:=dX X) wv wc
  obtain ⟨m,hm⟩:∃ m:Nat,mxV (htV (dX X) cv)=m:=⟨(mxV (htV (dX X) cv)).toNat,by have:=ht_le (D:=dX X) (K:=cv); omega⟩
  have hle:=ht_le (D:=dX X) (K:=cv)
  have hg:∀ {P},Wd (aZ (wX X)) P→∀ F,∀ q∈rowL s4 (aZ (wX X)) F P,q.good s4:=fun h F q hq=>(row_ok hC h q hq).good
  have hlv:∀ {P},Wd (aZ (wX X)) P→∀ F,lvN s4 (aZ (wX X)) (dX X) P=bk (rndsF (dX X) 6 (rowL s4 (aZ (wX X)) F P)):=fun h F=>(namesL_eq hnd h).symm
  have hht:∀ rl er ts r F,Ok w (d+60) (htS rl (rowQ s4 (aZ (wX X)) cv F).a (rowQ s4 (aZ (wX X)) cv F).b (rowQ s4 (aZ (wX X)) cv F).c (rowQ s4 (aZ (wX X)) cv F).d (rowQ s4 (aZ (wX X)) cv F).e (rowQ s4 (aZ (wX X)) cv F).f er [s4.a,s4.b,s4.c,s4.d] ts r (dX X) (htV (dX X) cv)):=fun rl er ts r F=>
    htQ (Q:=rowQ s4 (aZ (wX X)) cv F) (by omega) hS (row_ok hC wc) (row_lt hC wc) hcr
  have hlv2:∀ F,lvN s4 (aZ (wX X)) (dX X) cv=bk (lvlsF (htV (dX X) cv) (rowQ s4 (aZ (wX X)) cv F) m 1):=fun F=>by
    have z:=rounds_levels (D:=dX X) (Q:=rowQ s4 (aZ (wX X)) cv F) (m:=m) hm
    have z2:rndsF (dX X) 6 (rowL s4 (aZ (wX X)) F cv)=lvlsF (htV (dX X) cv) (rowQ s4 (aZ (wX X)) cv F) m 1:=z
    rw [← z2]
    exact hlv wc F
  have hQ:=rowQ_it (P:=cv) (v:=wX X) (s4:=s4) hcr hp
  have hQ':=rowQ_it (P:=wX X) (v:=wX X) (s4:=s4) hv (.refl _)
  have hM:maxIt (htV (dX X) cv) 5 1 (htV (dX X) cv).a=(m:Int):=hm
  refine ⟨glAll (wX X) cv s4++[]++[]++[],?_,?_⟩
  · intro g hg
    rw [List.append_nil,List.append_nil,List.append_nil] at hg
    unfold glAll at hg
    rcases List.mem_append.mp hg with hg | hg
    · rcases List.mem_append.mp hg with hg | hg
      · exact glIt_fin _ _ g hg
      · exact glIt_fin _ _ g hg
    · exact glIt_fin _ _ g hg
  · cases fair with
    | true=>
      have hsm:decide (lvN s4 (aZ (wX X)) (dX X) (wX X)=lvN s4 (aZ (wX X)) (dX X) cv)=true:=decide_eq_true (hsame.mpr (hfair rfl))
      exact law_t hD hn hX.symm hr hs4.symm hc.symm hQ (hg wc) (hlv wc) hS hht hM ⟨by omega,by omega⟩ rfl hQ' (hg wv) (hlv wv) rfl rfl hsm (dr_of hasc) (dr_of hasc) hlv2
    | false=>
      cases hal:alAll (dX X) (wX X) cv s4 with
      | true=>
        have hsm:decide (lvN s4 (aZ (wX X)) (dX X) (wX X)=lvN s4 (aZ (wX X)) (dX X) cv)=true:=decide_eq_true (hsame.mpr (halw.mp hal))
        exact law_ft hD hn hX.symm hr hs4.symm hc.symm hQ (hg wc) (hlv wc) hS hht hM ⟨by omega,by omega⟩ rfl hQ' (hg wv) (hlv wv) hal rfl hsm (dr_of hasc) (dr_of hasc) hlv2
      | false=>
        have hsm:decide (lvN s4 (aZ (wX X)) (dX X) (wX X)=lvN s4 (aZ (wX X)) (dX X) cv)=false:=decide_eq_false fun h=>by
          have:=halw.mpr (hsame.mp h)
          rw [hal] at this
          cases this
        exact law_ff hD hn hX.symm hr hs4.symm hc.symm hQ (hg wc) (hlv wc) hS hht hM ⟨by omega,by omega⟩ rfl hQ' (hg wv) (hlv wv) hal rfl hsm (dr_of hasc) (dr_of hasc) hlv2
theorem post_ok (ns:List Int):PySem.Challenge.rw_uc0006_01.row.claim.post [ofPy (PyData.list (List.map PyData.int ns))] (WData.bool true) [ofPy (PyData.list (List.map PyData.int ns))]=true:=by
  first
    | kernel_rfl
    | (show (WShape.has [] (.bool true) .bool && WTm.holds [] (.eq .res (.lit (.bool true))) _)=true; simp [WShape.has,WTm.holds,WTm.value])
theorem end_ok {w:World} {s₀ s₁ s':Shared} {ns:List Int} {f:Nat→Nat} {e:Nat} {gl:List GenState} {v:Nv} (hgl:∀ g∈gl,g=.finished) (hg:s₁.gens=#[]) (h117:∃ vs,s₁.heap.get? 117=some ⟨.type "code",none,.fields vs,#[]⟩∧vs[11]?=some (.ref 113)) (h113:s₁.heap.get? 113=some ⟨.none,none,.fields #[],#[]⟩)
    (L:Left (KTX w) s₁ s' (lawS w 165 ns f e gl) v):GoodWG PySem.Challenge.rw_uc0006_01.row.claim (classAt s₀.heap) (ExcName.means s₀.heap) [ofPy (PyData.list (List.map PyData.int ns))] s₁ (.ok (.ret (.bool true))) s':=by
  obtain ⟨vs,hv,h11⟩:=h117
  have hp:s'.heap.get? 113=some (tabO (v.a 2) (v.a 3)):=L.post _ (.head _)
  have keep:∀ b o,s₁.heap.get? b=some o→b≠113→s'.heap.get? b=some o:=fun b o h1 h2=>L.after.keep b o h1 (by simpa [lawS] using h2)
  refine ⟨.inl ⟨.bool true,.bool true,[],rfl,fun cls=>rfl,.bool true,post_ok ns,fun _=>⟨List.nodup_nil,fun _ h=>nomatch h⟩⟩,⟨fun b o h=>?_,fun b o h=>?_⟩,L.after.os,?_⟩
  · by_cases hb:b=113
    · subst hb
      rw [h113] at h
      cases h
      exact .inr (.inl ⟨⟨117,_,vs,hv,rfl,rfl,h11⟩,rfl,#[],#[.int 117 0,.int 13 0,.ref (v.a 2),.int 118 0,.int 18 0,.ref (v.a 3)],rfl,hp⟩)
    · exact .inl (keep b o h hb)
  · by_cases hb:b=113
    · subst hb; exact ⟨_,hp⟩
    · exact ⟨o,keep b o h hb⟩
  · intro g hm
    rw [L.gens,hg] at hm
    have:g∈gl:=by simpa [lawS] using hm
    rw [hgl g this]
    rfl
theorem ktAt117 {w:World} {h:Heap} (hK:KT.Holds h 1 0 (KTX w)):h.get? 117=some (ob117 w.params):=by
  have z:=KT.Holds.get hK (show (KTX w).get 117=some (ob117 w.params) by kernel_rfl)
  rw [Nat.one_mul,Nat.add_zero] at z
  exact z
noncomputable def vs117:Obj→Array Value
  | ⟨_,_,.fields vs,_⟩=>vs
  | _=>#[]
theorem tab117 {P:Params} {h:Heap} (e:h.get? 117=some (ob117 P)):∃ vs,h.get? 117=some ⟨.type "code",none,.fields vs,#[]⟩∧vs[11]?=some (.ref 113):=by
  have z1:ob117 P=⟨.type "code",none,.fields (vs117 (ob117 P)),#[]⟩:=by kernel_rfl
  have z2:(vs117 (ob117 P))[11]?=some (.ref 113):=by kernel_rfl
  exact ⟨vs117 (ob117 P),e.trans (congrArg some z1),z2⟩
theorem holds_kt {L:Frag} {T':KT} (eT:KT.of L=T') {h:Heap} {T:KT} (hT:KT.Holds h 1 0 T) (hin:∀ x∈L,T.get x.1=some x.2):KT.Holds h 1 0 T':=by
  have at_:∀ {a o},T.get a=some o→h.get? a=some o:=fun e=>by
    have z:=KT.Holds.get hT e
    rw [Nat.one_mul,Nat.add_zero] at z
    exact z
  have hall:∀ K:Frag,(∀ x∈K,T.get x.1=some x.2)→AllIn h K:=fun K=>by
    induction K with
    | nil=>exact fun _=>trivial
    | cons x K ih=>exact fun hh=>⟨at_ (hh x (.head _)),ih fun y hy=>hh y (.tail _ hy)⟩
  subst eT
  exact holds_of (hall L hin)
theorem map_ptw {α β:Type} {f g:α→β}:∀ {l:List α},l.map f=l.map g→∀ x∈l,f x=g x
  | [],_,_,h=>nomatch h
  | y::l,e,x,h=>by
    rw [List.map_cons,List.map_cons] at e
    injection e with e1 e2
    rcases List.mem_cons.mp h with rfl | h
    · exact e1
    · exact map_ptw e2 x h
theorem ints_tvals {vs:List Value} {ns:List Int} (h:IntsAre vs ns):∃ f,vs=ba ns f:=by
  induction h with
  | nil=>exact ⟨fun _=>0,rfl⟩
  | cons n t _ ih=>
    obtain ⟨f,e⟩:=ih
    refine ⟨fun j=>match j with | 0=>t | j+1=>f j,?_⟩
    rw [e]
    rfl
theorem script_at0 {s:Shared} {its:List Value} {ns:List Int} (h:s.heap.get? 165=some { cls:=.type "list",data:=.seq its.toArray }) {f:Nat→Nat} (e:its=ba ns f):s.heap.get? 165=some (lst ⟨ba ns f⟩ 0):=by
  subst e
  exact h
theorem call_ok {w:World} {s₀ s₁:Shared} {ns:List Int} {f:Nat→Nat} {T:KT} (hn:ns.length≤63) (hT:KT.Holds s₁.heap 1 0 T) (hin:(ktL w.params).map (fun x=>T.get x.1)=(ktL w.params).map (fun x=>some x.2)) (h113:T.get 113=some ⟨.none,none,.fields #[],#[]⟩) (hlim:s₁.heap.NoLimit) (hsz:s₁.heap.objs.size=165+1) (hg:s₁.gens=#[]) (hsc:s₁.heap.get? 165=some (lst ⟨ba ns f⟩ 0)) :
    wpAny (model PR w) callerA (PySem.call (.ref 164) [.ref 165]) (fun v s'=>GoodWG PySem.Challenge.rw_uc0006_01.row.claim (classAt s₀.heap) (ExcName.means s₀.heap) [ofPy (PyData.list (List.map PyData.int ns))] s₁ (.ok (.ret v)) s') (fun e s'=>GoodWG PySem.Challenge.rw_uc0006_01.row.claim (classAt s₀.heap) (ExcName.means s₀.heap) [ofPy (PyData.list (List.map PyData.int ns))] s₁ (.error e) s') s₁:=by
  have at_:∀ {a o},T.get a=some o→s₁.heap.get? a=some o:=fun e=>by
    have z:=KT.Holds.get hT e
    rw [Nat.one_mul,Nat.add_zero] at z
    exact z
  have hK:KT.Holds s₁.heap 1 0 (KTX w):=holds_kt (ktT_of w.params) hT (map_ptw hin)
  have e113:=at_ h113
  have h117:=tab117 (ktAt117 hK)
  obtain ⟨gl,hgl,hok⟩:=law_true (w:=w) (d:=40) (sc:=165) (ns:=ns) (f:=f) (e:=0) (Nat.le_refl _) hn
  refine enter_call (hok.2 callerA s₁ _ ⟨rfl,by decide,by decide⟩ ⟨hK,hlim,ktx_stat w,ktx_bound w,by omega⟩ ⟨fun x hx=>?_,by simp [lawS],fun x hx=>?_⟩ (fun k e=>by cases e) fun st' v L=>end_ok hgl hg h117 e113 L)
  · simp only [lawS,List.cons_append,List.nil_append,List.mem_cons,List.not_mem_nil,or_false] at hx
    rcases hx with rfl | rfl
    · exact e113
    · exact hsc
  · simp only [lawS,List.cons_append,List.nil_append,List.mem_cons,List.not_mem_nil,or_false] at hx
    rcases hx with rfl | rfl
    · exact ktx_113 w
    · exact ktx_bound w 165 (Nat.le_refl _)
theorem said0:PySem.Challenge.rw_uc0006_01.wellSaid=true:=(congrFun PySem.W.Fast.te9446332074065402090 _).trans (by kernel_rfl)
end Mine
open PySem PySem.W PyProof.Rows PySem.W.X
set_option maxRecDepth 100000 in
set_option maxHeartbeats 0 in
theorem PySem.Challenge.cw_uc0006_01_holds : PySem.Challenge.rw_uc0006_01.Holds := by
  w_on; refine holds_law Mine.said0 fun said => ?_; z_head; (case hw => w_witness2)
  k_fill
  intro w s₀ s₁ mg mb G y fa o pm cd doc dV kV ho hd hcd hD hmg hg args vals as L hpre hlay hrd hwl hlo
  z_open y L KX ZH ZN ZT
  refine Ground.open G ?_
  intro T B D TE TW
  wrow_args hpre hlay hrd hwl hlo
  obtain ⟨hat, hsz⟩ := script_at L
  have htk := script_toks L ZT
  rw [ZN] at hat hsz
  subst hat
  x_fa T KX hmg
  all_lens
  rename_i ns hs hlay0 hLy hr1 hl2 as1 as2 its as3 ra hr hc1 hc2 hL w1 r0 hi9 hb9
  obtain ⟨f, hf⟩ := Mine.ints_tvals hi9
  exact Mine.call_ok (ns := ns) (f := f) (by omega) ZH (by kernel_rfl) (by kernel_rfl) T.nolimit hsz hg (Mine.script_at0 (script_obj L hL) hf)
