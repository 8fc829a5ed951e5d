/- Lemmas of mine for the walk and its plain laws: NatU Box Box2 LenB -/
import Derived.Test.YtfgmnbmnpihjdaaGreatDoorM17
import Derived.Test.YtfgmnbmnpihjdaaGreatDoorM15
import Derived.Deep.LoopGhost
import Derived.Test.YtfgmnbmnpihjdaaGreatDoorM34
import Derived.Test.YtfgmnbmnpihjdaaGreatDoorM18
import Derived.Lib.Strings
import Derived.Lib.Slices
import Derived.Lib.Small
import Derived.Lib.Walk
import Derived.Lib.BitFns
set_option linter.all false
set_option exponentiation.threshold 7000000
set_option maxHeartbeats 4000000
namespace Go.Proofs.YtfgmnbmnpihjdaaGreatDoor
open Go.RowKit
structure NB(L O:List Nat)(n k t i:Nat):Prop where
 len:O.length=n
 bytes:Bytes O
 left:i+(8*k+t)=n
 low:∀j,j<8*k+t→nth O (n-1-j)=val L/256^j%256
 rest:∀j,j<i→nth O j=0
theorem NB.start(L:List Nat)(n:Nat):NB L (List.replicate n 0) n 0 0 n:=⟨by simp,fun i=>by rw[nth_replicate0];omega,by omega,fun j h=>by omega,fun j _=>nth_replicate0 _ _⟩
theorem NB.next{L O:List Nat}{n k t i v:Nat}(h:NB L O n k t (i+1))(hv:v=val L/256^(8*k+t)%256):NB L (O.set i v) n k (t+1) i:=by
 have hl:=h.len
 have hle:=h.left
 have hvb:v<256:=by rw[hv];exact Nat.mod_lt _ (by omega)
 refine⟨by simp[hl],fun j=>?_,by omega,fun j hj=>?_,fun j hj=>by rw[nth_set_ne (by omega)];exact h.rest j (by omega)⟩
 ·by_cases hji:j=i
  ·rw[hji,nth_set_same (by omega)];exact hvb
  ·rw[nth_set_ne (by omega)];exact h.bytes j
 ·by_cases hji:j=8*k+t
  ·subst hji
   rw[show n-1-(8*k+t)=i by omega,nth_set_same (by omega)]
   exact hv
  ·rw[nth_set_ne (by omega)];exact h.low j (by omega)
theorem NB.word{L O:List Nat}{n k i:Nat}(h:NB L O n k 8 i):NB L O n (k+1) 0 i:=⟨h.len,h.bytes,by have:=h.left;omega,fun j hj=>h.low j (by omega),h.rest⟩
theorem NB.done{L O:List Nat}{n k t i:Nat}(h:NB L O n k t i)(hfit:val L<256^(8*k+t)):bval O=val L:=by
 have hle:=h.left
 have hl:=h.len
 have key:∀m,m≤n→bseg O n m=val L%256^m:=by
  intro m
  induction m with
  |zero=>intro _;simp[bseg,Nat.mod_one]
  |succ m ih=>
   intro hm
   rw[bseg,ih (by omega),Nat.pow_succ,Nat.mod_mul]
   rcases Nat.lt_or_ge m (8*k+t)with h1|h1
   ·rw[h.low m h1]
   ·have h2:256^(8*k+t)≤256^m:=Nat.pow_le_pow_right (by omega) h1
    rw[h.rest _ (by omega),Nat.div_eq_of_lt (show val L<256^m by omega)]
 unfold bval
 have h3:256^(8*k+t)≤256^n:=Nat.pow_le_pow_right (by omega) (by omega)
 rw[hl,key n (Nat.le_refl _),Nat.mod_eq_of_lt (by omega)]
theorem word_of{L:List Nat}(hL:Words L)(k t:Nat)(ht:t<8):nth L k/256^t%256=val L/256^(8*k+t)%256:=by
 have eW:W=256^8:=by rw[W_eq]
 rw[Nat.pow_add,Nat.pow_mul,←eW,←Nat.div_div_eq_div_mul]
 rcases Nat.lt_or_ge k L.length with hk|hk
 ·have h1:=val_split L (k+1) (by omega)
  rw[val_take_succ hk,Nat.pow_succ]at h1
  have h2:=val_lt (hL.take k)
  rw[List.length_take,Nat.min_eq_left (by omega)]at h2
  have h3:val L=val (L.take k)+W^k*(nth L k+W*val (L.drop (k+1))):=by rw[h1];grind
  rw[h3,Nat.add_mul_div_left _ _ (Nat.pow_pos W_pos),Nat.div_eq_of_lt h2,Nat.zero_add]
  have e3:W=256^t*(256*256^(7-t)):=by
   rw[eW,←Nat.mul_assoc,←Nat.pow_succ,←Nat.pow_add];congr 1;omega
  have e4:nth L k+W*val (L.drop (k+1))=nth L k+256^t*(256*(256^(7-t)*val (L.drop (k+1)))):=by
   conv=>lhs;rw[e3]
   grind
  rw[e4,Nat.add_mul_div_left _ _ (Nat.pow_pos (by omega)),Nat.add_mul_mod_self_left]
 ·rw[nth_ge hk]
  have h2:=val_lt hL
  have h3:W^L.length≤W^k:=Nat.pow_le_pow_right W_pos hk
  rw[Nat.div_eq_of_lt (show val L<W^k by omega)]
theorem word_zero{L:List Nat}(hL:Words L){n k t:Nat}(h:val L<256^n)(hn:n≤8*k+t):nth L k/256^t=0:=by
 apply Nat.div_eq_of_lt
 rcases Nat.lt_or_ge k L.length with hk|hk
 ·have h1:=val_split L (k+1) (by omega)
  rw[val_take_succ hk]at h1
  have h3:256^n≤256^(8*k+t):=Nat.pow_le_pow_right (by omega) hn
  rw[Nat.pow_add,Nat.pow_mul]at h3
  have eW:W=256^8:=by rw[W_eq]
  rw[←eW]at h3
  apply Classical.byContradiction
  intro hge
  have h4:W^k*256^t≤W^k*nth L k:=Nat.mul_le_mul_left _ (by omega)
  omega
 ·rw[nth_ge hk];exact Nat.pow_pos (by omega)
theorem made_u8'(n:Nat)(hn:n≤17000000)(w:World):∃g wa,(Instr.makeSlice 23 (.int .i64 n) (.int .i64 n)).run Tryz.prog w=.ok (sl g 0 n n) wa∧Mod [] w wa∧w.heap.size≤g ∧
 Blk wa g 5 ((List.replicate n 0).map u8):=by
 refine⟨w.heap.size,_,run_make_row (z:=.int .u8 0) rfl Tryz.underlying23 info_u8 (by omega) n n (Nat.le_refl _) hn w,(Mod.refl _ _).alloc _,Nat.le_refl _,?_⟩
 have:=Blk.new w 5 (List.replicate n (.int .u8 0))
 rw[List.map_replicate]
 exact this
abbrev byteV(n:Nat):Value:=u8 n
set_option maxRecDepth 100000 in
theorem c_NatBytes(x p m y q k:Nat)(odd:Bool)(r:Value)(L R M Q:List Nat)(w:World)(h:NatIs w x p L R)(hm:MHead w m y odd k r)(hy:NatIs w y q M Q)(wL:Words L)(wM:Words M)(hfit:val L<256^((blen (val M)+7)/8))(hbl:blen (val M)≤100000) :
 Calls Tryz.prog 87 #[ptr x,ptr m] w fun e w'=>∃b O,e=.returned (sl b 0 O.length O.length)∧Mod [] w w'∧Blk w' b 5 (O.map u8)∧w.heap.size≤b∧O.length=(blen (val M)+7)/8∧Bytes O∧bval O=val L:=by
 obtain⟨n,hn⟩:∃n,n=(blen (val M)+7)/8:=⟨_,rfl⟩
 have C:=hide (c_ModSize m y q k odd r M Q w hm hy wM)
 have hn2:n≤20000:=by omega
 rw[←hn]at C hfit ⊢
 obtain⟨g,wa,hmk,ma,hg,hba⟩:=made_u8' n (by omega) w
 have hcap:=h.cap
 have ha:=h.mod ma (by simp) (by simp)
 have hca:=ha.cell
 have HF:=hide hfit
 have hs0:=hide (NB.start L n)
 clear hn hfit hbl
 go_enter Tryz.func87,Tryz.ntmps87
 go_wp2_with fail
 refine C.out.mono ?_
 rintro e w' ⟨rfl,rfl⟩
 go_wp2_with fail
 go_loopw [5,19] (fun iv kv wr=>∃(z:Int) (kk:Nat) (O:List Nat),iv=.int .i64 z∧kv=i64 kk∧kk≤L.length∧-100001≤z+kk∧Mod [] w wr∧Blk wr g 5 (O.map byteV)∧Hid ((∃i:Nat,z=i∧NB L O n kk 0 i)∨(z<0∧n≤8*kk∧∃k' t',NB L O n k' t' 0))) (fun _ kv _=>L.length-(intOf kv).toNat)
 case atStart=>exact⟨n,0,_,rfl,rfl,by omega,by omega,ma,hba,hide (.inl ⟨n,rfl,hs0.out⟩)⟩
 case round=>
  obtain⟨z,kk,O,rfl,rfl,hk,hz,hmr,hO,hS⟩:=hrel
  have hx:=h.mod hmr (by simp) (by simp)
  by_cases hlt:kk<L.length
  ·have hcp:=hx.at kk hlt
   obtain⟨v0,hv0⟩:∃v0,v0=nth L kk:=⟨_,rfl⟩
   have hvW:v0<W:=by rw[hv0];exact wL.nth kk
   rw[←hv0]at hcp
   have hlt':(kk:Int)<(L.length:Int):=by omega
   rcases hS.out with⟨i,rfl,hN⟩|⟨hz0,hn8,hD⟩
   ·have HN0:=hide hN
    have hib:i≤20000:=by have:=hN.left;omega
    have HV0:=hide hv0
    clear hv0 hN hS hz
    go_wp2_with fail
    go_loopw [5,8,9] (fun iv lv jv wx=>∃(i j v:Nat) (O:List Nat),iv=i64 i∧lv=u64 v∧jv=i64 j∧j≤8∧i≤20000∧v<W∧Hid (v=nth L kk/256^j)∧Mod [] w wx∧Blk wx g 5 (O.map byteV)∧Hid (NB L O n kk j i)) (fun _ _ jv _=>8-(intOf jv).toNat)
    case atStart=>exact⟨i,0,v0,O,rfl,rfl,rfl,by omega,hib,hvW,hide (by rw[Nat.pow_zero,Nat.div_one];exact HV0.out),hmr,hO,HN0⟩
    case round=>
     clear hmr hO HN0 hx hcp hib hvW HV0
     obtain⟨i,j,v,O,rfl,rfl,rfl,hj,hib,hvW,hv,hmr,hO,hN⟩:=hrel
     by_cases hj8:j<8
     ·have hj8':(j:Int)<8:=by omega
      cases i with
      |zero=>
       have hv0:v=0:=by rw[hv.out];exact word_zero wL HF.out (by have:=hN.out.left;omega)
       subst hv0
       clear hvW
       go_wp2_with fail
       go_roundw
       case rel=>exact⟨-1,kk+1,O,rfl,by go_num,by omega,by omega,hmr,hO,hide (.inr ⟨by omega,by have:=hN.out.left;omega,kk,j,hN.out⟩)⟩
       case measure=>simp[intOf];omega
      |succ i=>
       have ei:Hid (((i+1:Nat):Int)-1=(i:Int)):=hide (by omega)
       have hOl:=hN.out.len
       have hco:=hO.at i (by have:=hN.out.left;omega)
       have hfo:=hO.frozen i
       have hin:(i:Int)<(n:Int):=by have:=hN.out.left;omega
       obtain⟨u,hu⟩:∃u,u=v%256:=⟨_,rfl⟩
       obtain⟨v2,hv2⟩:∃v2,v2=v/256:=⟨_,rfl⟩
       have wu:IntKind.u8.wrap (v:Int)=(u:Int):=by rw[IntKind.wrap_u8];omega
       have ed:(v:Int)/256=(v2:Int):=by omega
       have hN2:Hid (NB L (O.set i u) n kk (j+1) i):=hide (hN.out.next (by rw[hu,hv.out];exact word_of wL kk j hj8))
       have hv3:Hid (v2=nth L kk/256^(j+1)):=hide (by rw[hv2,hv.out,Nat.pow_succ,Nat.div_div_eq_div_mul])
       have hv4:v2<W:=by omega
       have hm2:Mod [] w (wr.setCell ⟨g,i,none⟩ (.int .u8 (u:Int))):=hmr.setCell _ _ (by simp;omega)
       have hO2:Blk (wr.setCell ⟨g,i,none⟩ (.int .u8 (u:Int))) g 5 ((O.set i u).map byteV):=hO.set i u
       clear hu hv2 hN hv hOl
       go_wp2_with fail
       go_roundw
       case rel=>exact⟨i,j+1,v2,_,by go_num,by first|rfl|go_num,by go_num,by omega,by omega,hv4,hv3,hm2,hO2,hN2⟩
       case measure=>simp[intOf];omega
     ·obtain rfl:j=8:=by omega
      clear hj8
      go_wp2_with fail
      go_roundw
      case rel=>exact⟨i,kk+1,O,rfl,by go_num,by omega,by omega,hmr,hO,hide (.inl ⟨i,rfl,hN.out.word⟩)⟩
      case measure=>simp[intOf];omega
   ·have hv1:v0=0:=by
     have:=word_zero wL HF.out (k:=kk) (t:=0) (by omega)
     rw[Nat.pow_zero,Nat.div_one]at this
     rw[hv0];exact this
    have HD:=hide hD
    obtain⟨z1,hz1⟩:∃z1:Int,z1=z-1:=⟨_,rfl⟩
    have ez1:z-1=z1:=hz1.symm
    have hz1n:z1<0:=by omega
    have hz1m : -200010≤z1:=by omega
    have HZ:=hide (show -100001≤z1+(kk+1:Nat)by omega)
    clear hv0 hD hS hz1
    rw[hv1]at hcp
    clear hv1 hvW
    go_wp2_with fail
    go_loop [5,8,9] (fun iv lv jv=>iv=.int .i64 z∧lv=u64 0∧jv=i64 0) (fun _ _ _=>0)
    case atStart=>exact⟨rfl,rfl,rfl⟩
    case round=>
     obtain⟨rfl,rfl,rfl⟩:=hrel
     go_wp2_with fail
     go_roundw
     case rel=>exact⟨z1,kk+1,O,rfl,by go_num,by omega,HZ.out,hmr,hO,hide (.inr ⟨by omega,by omega,HD.out⟩)⟩
     case measure=>simp[intOf];omega
  ·obtain rfl:kk=L.length:=by omega
   have hfin:O.length=n∧Bytes O∧bval O=val L:=by
    rcases hS.out with⟨i,rfl,hN⟩|⟨hz0,hn8,k',t',hD⟩
    ·refine⟨hN.len,hN.bytes,hN.done ?_⟩
     have:=val_lt wL
     rwa [Nat.add_zero,Nat.pow_mul,show(256:Nat)^8=W by rw[W_eq]]
    ·refine⟨hD.len,hD.bytes,hD.done ?_⟩
     have:=hD.left
     rw[show 8*k'+t'=n by omega];exact HF.out
   have HFIN:=hide hfin
   have hfl:O.length=n:=hfin.1
   clear hfin hS
   go_wp2_with fail
   go_ret
   exact⟨g,O,by rw[HFIN.out.1];rfl,hmr,hO,hg,HFIN.out.1,HFIN.out.2.1,HFIN.out.2.2⟩
def wlen(v:Nat):Nat:=(blen v+63)/64
def NumAt(w:World)(g x n v:Nat):Prop:=∃p L R,NatIs w x p L R∧g≤x∧g≤p∧L.length=n∧Words L∧val L=v
def MdAt(w:World)(m v:Nat):Prop:=∃n y q M Q,ModIs w n m y q M Q∧val M=v
def GotB(w:World)(v:Value)(B:List Nat):Prop:=SliceB w v B∧Bytes B∧∀b o n c,v=sl b o n c→b<w.heap.size
def Sep(w:World)(a b:Nat):Prop:=∀p L R q M S,NatIs w a p L R→NatIs w b q M S→a≠b∧p≠q
def MSep(w:World)(o m:Nat):Prop:=∀p L R k y q M Q,NatIs w o p L R→ModIs w k m y q M Q→y≠o∧q≠p
def Fr(w w':World)(o:Nat):Prop:=∃p p' L R L' R',NatIs w o p L R∧NatIs w' o p' L' R'∧Mod [o,p] w w'∧Kept w p p'
def ApartN(w:World)(v:Value)(x:Nat):Prop:=∀p L R,NatIs w x p L R→Apart v x∧Apart v p
theorem NatIs.same{w:World}{x p q:Nat}{L R M S:List Nat}(h:NatIs w x p L R)(h':NatIs w x q M S):p=q:=by
 have h1:=h.cell
 rw[h'.cell]at h1
 simp only[Option.some.injEq,sl,Value.slice.injEq,Addr.mk.injEq]at h1
 exact h1.1.1.symm
theorem ModIs.same{w:World}{k k' m y y' q q':Nat}{M M' Q Q':List Nat}(h:ModIs w k m y q M Q)(h':ModIs w k' m y' q' M' Q'):y=y'∧q=q':=by
 obtain⟨o,kk,r,hh⟩:=h.head
 obtain⟨o',kk',r',hh'⟩:=h'.head
 have h1:=hh.c0
 rw[hh'.c0]at h1
 simp only[Option.some.injEq,ptr,Value.pointer.injEq,Addr.mk.injEq]at h1
 obtain rfl:=h1.1
 exact⟨rfl,h.nat.same h'.nat⟩
theorem ModIs.wlen{w:World}{k m y q:Nat}{M Q:List Nat}(h:ModIs w k m y q M Q):M.length=wlen (val M):=by
 have hp:=len_pos h.big
 have ht:=h.top (by omega)
 rw[Go.Proofs.YtfgmnbmnpihjdaaGreatDoor.wlen,blen_top h.words hp ht]
 have h1:=blen_word_le (h.words.nth (M.length-1))
 have h2:=blen_pos ht
 omega
theorem MdAt.pos{w:World}{m v:Nat}(h:MdAt w m v):0<wlen v∧1<v∧wlen v≤20000:=by
 obtain⟨n,y,q,M,Q,hM,rfl⟩:=h
 rw[←hM.wlen]
 exact⟨len_pos hM.big,hM.big,hM.room⟩
theorem NumAt.lt{w:World}{g x n v:Nat}(h:NumAt w g x n v):v<W^n:=by
 obtain⟨p,L,R,hx,g1,g2,l,wL,rfl⟩:=h
 rw[←l];exact val_lt wL
theorem NumAt.xlt{w:World}{g x n v:Nat}(h:NumAt w g x n v):g≤x∧x<w.heap.size:=by
 obtain⟨p,L,R,hx,g1,g2,l,wL,rfl⟩:=h
 exact⟨g1,hx.xlt⟩
theorem NumAt.mono{w:World}{g g' x n v:Nat}(h:NumAt w g x n v)(hg:g'≤g):NumAt w g' x n v:=by
 obtain⟨p,L,R,hx,g1,g2,r⟩:=h
 exact⟨p,L,R,hx,by omega,by omega,r⟩
theorem NumAt.mod{w w':World}{g x n v:Nat}(h:NumAt w g x n v)(m:Mod [] w w'):NumAt w' g x n v:=by
 obtain⟨p,L,R,hx,r⟩:=h
 exact⟨p,L,R,hx.mod m (by simp) (by simp),r⟩
theorem MdAt.mod{w w':World}{m v:Nat}(h:MdAt w m v)(hm:Mod [] w w'):MdAt w' m v:=by
 obtain⟨n,y,q,M,Q,hM,r⟩:=h
 exact⟨n,y,q,M,Q,hM.mod hm,r⟩
theorem GotB.mod{w w':World}{v:Value}{B:List Nat}(h:GotB w v B)(m:Mod [] w w'):GotB w' v B:=
 ⟨h.1.mod m (by simp),h.2.1,fun b o n c e=>Nat.lt_of_lt_of_le (h.2.2 b o n c e) m.size⟩
theorem Sep.symm{w:World}{a b:Nat}(h:Sep w a b):Sep w b a:=fun p L R q M S h1 h2=>⟨(h _ _ _ _ _ _ h2 h1).1.symm,(h _ _ _ _ _ _ h2 h1).2.symm⟩
theorem Sep.mod{w w':World}{a b ga gb na nb va vb:Nat}(s:Sep w a b)(ha:NumAt w ga a na va)(hb:NumAt w gb b nb vb)(m:Mod [] w w'):Sep w' a b:=by
 obtain⟨p,L,R,hx,r⟩:=ha
 obtain⟨q,M,S,hy,r'⟩:=hb
 intro p1 L1 R1 q1 M1 S1 h1 h2
 have e1:=h1.same (hx.mod m (by simp) (by simp))
 have e2:=h2.same (hy.mod m (by simp) (by simp))
 subst e1 e2
 exact s _ _ _ _ _ _ hx hy
theorem Sep.new{w w':World}{a b ga na nb va vb:Nat}(ha:NumAt w ga a na va)(m:Mod [] w w')(hb:NumAt w' w.heap.size b nb vb):Sep w' a b:=by
 obtain⟨p,L,R,hx,r⟩:=ha
 obtain⟨q,M,S,hy,g1,g2,r'⟩:=hb
 intro p1 L1 R1 q1 M1 S1 h1 h2
 have e1:=h1.same (hx.mod m (by simp) (by simp))
 have e2:=h2.same hy
 subst e1 e2
 have:=hx.xlt
 have:=hx.plt
 exact⟨by omega,by omega⟩
theorem MSep.base{wg w:World}{o m n v mv:Nat}(h0:Mod [] wg w)(hm:MdAt wg m mv)(ho:NumAt w wg.heap.size o n v):MSep w o m:=by
 obtain⟨k,y,q,M,Q,hM,r⟩:=hm
 obtain⟨p,L,R,hx,g1,g2,r'⟩:=ho
 intro p1 L1 R1 k1 y1 q1 M1 Q1 h1 h2
 have e1:=h1.same hx
 have e2:=h2.same (hM.mod h0)
 obtain⟨rfl,rfl⟩:=e2
 subst e1
 have:=hM.nat.xlt
 have:=hM.nat.plt
 exact⟨by omega,by omega⟩
theorem Fr.trans{w w1 w2:World}{o:Nat}(a:Fr w w1 o)(b:Fr w1 w2 o):Fr w w2 o:=by
 obtain⟨p,p1,L,R,L1,R1,h,h1,m,k⟩:=a
 obtain⟨q,p2,M,S,L2,R2,h1',h2,m2,k2⟩:=b
 have e:=h1'.same h1
 subst e
 have hs:=m.size
 refine⟨p,p2,L,R,L2,R2,h,h2,Mod.trans (U:=[o,p]) m m2 (fun a ha _=>ha) (fun a ha hl=>?_),?_⟩
 ·rcases k with e|e
  ·rw[←e];exact ha
  ·simp at ha;rcases ha with rfl|rfl
   ·simp
   ·omega
 ·rcases k2 with e|e
  ·rw[e];exact k
  ·exact .inr (by omega)
theorem Fr.num{w w':World}{o z g n v:Nat}(f:Fr w w' o)(s:Sep w o z)(h:NumAt w g z n v):NumAt w' g z n v:=by
 obtain⟨p,p1,L,R,L1,R1,h1,h2,m,k⟩:=f
 obtain⟨q,M,S,hz,r⟩:=h
 have d:=s _ _ _ _ _ _ h1 hz
 exact⟨q,M,S,hz.mod m (by simp;exact⟨d.1.symm,hz.head.ne h1.row (by decide)⟩) (by simp;exact⟨hz.row.ne h1.head (by decide),d.2.symm⟩),r⟩
theorem Fr.sep{w w':World}{o z g n v:Nat}(f:Fr w w' o)(s:Sep w o z)(h:NumAt w g z n v):Sep w' o z:=by
 have hz':=f.num s h
 obtain⟨p,p1,L,R,L1,R1,h1,h2,m,k⟩:=f
 obtain⟨q,M,S,hz,r⟩:=h
 have d:=s _ _ _ _ _ _ h1 hz
 have hzm:=hz.mod m (by simp;exact⟨d.1.symm,hz.head.ne h1.row (by decide)⟩) (by simp;exact⟨hz.row.ne h1.head (by decide),d.2.symm⟩)
 intro a L2 R2 b M2 S2 h3 h4
 have e1:=h3.same h2
 have e2:=h4.same hzm
 subst e1 e2
 have:=hz.plt
 refine⟨d.1,?_⟩
 rcases k with e|e
 ·rw[e];exact d.2
 ·omega
theorem Fr.sep2{w w':World}{o a b ga gb na nb va vb:Nat}(f:Fr w w' o)(sa:Sep w o a)(sb:Sep w o b)(s:Sep w a b)(ha:NumAt w ga a na va)(hb:NumAt w gb b nb vb):Sep w' a b:=by
 obtain⟨p,p1,L,R,L1,R1,h1,h2,m,k⟩:=f
 obtain⟨q,M,S,hx,r⟩:=ha
 obtain⟨q',M',S',hy,r'⟩:=hb
 have d:=sa _ _ _ _ _ _ h1 hx
 have d':=sb _ _ _ _ _ _ h1 hy
 have hxm:=hx.mod m (by simp;exact⟨d.1.symm,hx.head.ne h1.row (by decide)⟩) (by simp;exact⟨hx.row.ne h1.head (by decide),d.2.symm⟩)
 have hym:=hy.mod m (by simp;exact⟨d'.1.symm,hy.head.ne h1.row (by decide)⟩) (by simp;exact⟨hy.row.ne h1.head (by decide),d'.2.symm⟩)
 intro a1 L2 R2 b1 M2 S2 h3 h4
 have e1:=h3.same hxm
 have e2:=h4.same hym
 subst e1 e2
 exact s _ _ _ _ _ _ hx hy
theorem Fr.back{wg w w':World}{o n v:Nat}(f:Fr w w' o)(h0:Mod [] wg w)(ho:NumAt w wg.heap.size o n v):Mod [] wg w':=by
 obtain⟨p,p1,L,R,L1,R1,h1,h2,m,k⟩:=f
 obtain⟨q,M,S,hx,g1,g2,r⟩:=ho
 have e:=hx.same h1
 subst e
 exact h0.keep2 m g1 g2
theorem Fr.mdE{w w':World}{o m mv:Nat}(f:Fr w w' o)(s:MSep w o m)(hm:MdAt w m mv)(he:mv%2=0):MdAt w' m mv:=by
 obtain⟨p,p1,L,R,L1,R1,h1,h2,md,k⟩:=f
 obtain⟨n,y,q,M,Q,hM,rfl⟩:=hm
 have d:=s _ _ _ _ _ _ _ _ h1 hM
 have hh:=hM.even he
 exact⟨n,y,q,M,Q,hM.keepE he md (by simp;exact⟨hh.ne h1.head (by decide),hh.ne h1.row (by decide)⟩) (by simp;exact⟨d.1,hM.nat.head.ne h1.row (by decide)⟩) (by simp;exact⟨hM.nat.row.ne h1.head (by decide),d.2⟩),rfl⟩
theorem Fr.msepE{w w':World}{o m mv:Nat}(f:Fr w w' o)(s:MSep w o m)(hm:MdAt w m mv)(he:mv%2=0):MSep w' o m:=by
 obtain⟨p,p1,L,R,L1,R1,h1,h2,md,k⟩:=f
 obtain⟨n,y,q,M,Q,hM,rfl⟩:=hm
 have d:=s _ _ _ _ _ _ _ _ h1 hM
 have hh:=hM.even he
 have hM':=hM.keepE he md (by simp;exact⟨hh.ne h1.head (by decide),hh.ne h1.row (by decide)⟩) (by simp;exact⟨d.1,hM.nat.head.ne h1.row (by decide)⟩) (by simp;exact⟨hM.nat.row.ne h1.head (by decide),d.2⟩)
 intro a L2 R2 k2 y2 q2 M2 Q2 h3 h4
 have e1:=h3.same h2
 obtain⟨rfl,rfl⟩:=h4.same hM'
 subst e1
 have:=hM.nat.plt
 refine⟨d.1,?_⟩
 rcases k with e|e
 ·rw[e];exact d.2
 ·omega
theorem ApartN.old{wg w:World}{v:Value}{B:List Nat}{x n u:Nat}(hb:GotB wg v B)(hx:NumAt w wg.heap.size x n u):ApartN w v x:=by
 obtain⟨q,M,S,hx,g1,g2,r⟩:=hx
 intro p L R h
 have e:=h.same hx
 subst e
 exact⟨fun b o n c e=>by have:=hb.2.2 b o n c e;omega,fun b o n c e=>by have:=hb.2.2 b o n c e;omega⟩
theorem ApartN.row{w:World}{b x:Nat}{B:List Nat}(hb:Blk w b 5 (B.map u8))(n c:Nat):ApartN w (sl b 0 n c) x:=by
 intro p L R h
 have h1:=hb.ne h.head (by decide)
 have h2:=hb.ne h.row (by decide)
 constructor<;>(intro b' o' n' c' e;simp only[sl,Value.slice.injEq,Option.some.injEq,Addr.mk.injEq]at e;rw[←e.1.1];assumption)
theorem lt_size{v mv:Nat}(h:v<mv):v<256^((blen mv+7)/8):=by
 have h1:=lt_two_blen mv
 have h2:2^blen mv≤2^(8*((blen mv+7)/8)):=Nat.pow_le_pow_right (by omega) (by omega)
 rw[Nat.pow_mul,show(2:Nat)^8=256 from rfl]at h2
 omega
theorem blen_mono{a b:Nat}(h:a≤b):blen a≤blen b:=by
 have h1:=lt_two_blen b
 exact blen_le (by omega)
theorem eqB_iff(a b:Nat):(eqB a b=1↔a=b)∧(a≠b→eqB a b=0):=by
 unfold eqB
 by_cases h:a=b<;>simp[h]
theorem k_New(w:World):Calls Tryz.prog 84 #[] w fun e w'=>∃x,e=.returned (ptr x)∧Mod [] w w'∧NumAt w' w.heap.size x 0 0:=by
 refine(c_NewNat w).mono ?_
 rintro e w' ⟨x,p,rfl,m,h,g1,g2⟩
 exact⟨x,rfl,m,p,[],_,h,g1,g2,rfl,Words.nil,rfl⟩
theorem k_Nat(w:World)(m mv:Nat)(hm:MdAt w m mv):Calls Tryz.prog 79 #[ptr m] w fun e w'=>∃x,e=.returned (ptr x)∧Mod [] w w'∧NumAt w' w.heap.size x (wlen mv) mv:=by
 obtain⟨n,y,q,M,Q,hM,rfl⟩:=hm
 refine(c_ModNat2 w w n m y q M Q (Mod.refl _ _) hM).mono ?_
 rintro e w' ⟨x,p,R,rfl,m,h,g1,g2⟩
 exact⟨x,rfl,m,p,M,R,h,g1,g2,hM.wlen,hM.words,rfl⟩
theorem k_Expand(w:World)(g x n v m mv:Nat)(hx:NumAt w g x n v)(hm:MdAt w m mv)(hn:n≤wlen mv) :
 Calls Tryz.prog 93 #[ptr x,ptr m] w fun e w'=>e=.returned (ptr x)∧Fr w w' x∧(g≤w.heap.size→NumAt w' g x (wlen mv) v):=by
 obtain⟨k,y,q,M,Q,hM,rfl⟩:=hm
 obtain⟨p,L,R,hx,g1,g2,rfl,wL,rfl⟩:=hx
 obtain⟨o,kk,r,hh⟩:=hM.head
 refine(c_ExpandFor x p m y q kk o r L R M Q w hx hh hM.nat (by rw[hM.wlen];exact hn)).mono ?_
 rintro e w' ⟨p',R',rfl,m1,h1,k1⟩
 refine⟨rfl,⟨p,p',_,_,_,_,hx,h1,m1,k1⟩,fun hg=>⟨p',_,R',h1,g1,k1.ge g2 hg,?_,?_,padTo_val _ _⟩⟩
 ·rw[padTo_length (by rw[hM.wlen];exact hn),hM.wlen]
 ·exact padTo_words wL _
theorem k_SetUint(w:World)(g x n v u:Nat)(hx:NumAt w g x n v)(hu:u<W) :
 Calls Tryz.prog 142 #[ptr x,u64 u] w fun e w'=>e=.returned (ptr x)∧Fr w w' x∧(g≤w.heap.size→NumAt w' g x 1 u):=by
 obtain⟨p,L,R,hx,g1,g2,rfl,wL,rfl⟩:=hx
 refine(c_SetUint x p u L R w hx).mono ?_
 rintro e w' ⟨p',R',rfl,m1,h1,k1⟩
 refine⟨rfl,⟨p,p',_,_,_,_,hx,h1,m1,k1⟩,fun hg=>⟨p',_,R',h1,g1,k1.ge g2 hg,rfl,?_,by simp[val]⟩⟩
 exact Words.cons hu Words.nil
theorem k_Bytes(w:World)(g x n v m mv:Nat)(hx:NumAt w g x n v)(hm:MdAt w m mv)(hfit:v<256^((blen mv+7)/8))(hbl:blen mv≤100000) :
 Calls Tryz.prog 87 #[ptr x,ptr m] w fun e w'=>∃b B,e=.returned (sl b 0 B.length B.length)∧Mod [] w w'∧Blk w' b 5 (B.map u8)∧w.heap.size≤b∧B.length=(blen mv+7)/8∧Bytes B∧bval B=v:=by
 obtain⟨k,y,q,M,Q,hM,rfl⟩:=hm
 obtain⟨p,L,R,hx,g1,g2,rfl,wL,rfl⟩:=hx
 obtain⟨o,kk,r,hh⟩:=hM.head
 exact c_NatBytes x p m y q kk o r L R M Q w hx hh hM.nat wL hM.words hfit hbl
theorem GotB.row{w:World}{b:Nat}{B:List Nat}(h:Blk w b 5 (B.map u8))(hB:Bytes B):GotB w (sl b 0 B.length B.length) B:=by
 refine⟨.inr (.inr ⟨b,0,B.length,rfl,Nat.le_refl _,?_⟩),hB,?_⟩
 ·intro i hi
  rw[Nat.zero_add]
  exact h.at i hi
 ·intro b' o n c e
  simp only[sl,Value.slice.injEq,Option.some.injEq,Addr.mk.injEq]at e
  rw[←e.1.1]
  exact h.lt
theorem k_NewModulus(w:World)(v:Value)(B:List Nat)(hb:GotB w v B)(hl:B.length≤100000)(hs:1<bval B) :
 Calls Tryz.prog 75 #[v] w fun e w'=>∃m,e=.returned (.tuple #[ptr m,.nilIface])∧Mod [] w w'∧MdAt w' m (bval B)∧(∀g o n u,NumAt w g o n u→MSep w' o m):=by
 refine(c_NewModulus v B w hb.1 hb.2.1 hb.2.2 hl hs).mono ?_
 rintro e w' ⟨m,x,p,M,R,rfl,md,hM,hv,g1,g2⟩
 refine⟨m,rfl,md,⟨_,x,p,M,R,hM,hv⟩,?_⟩
 rintro g o n u ⟨q,L,S,h,r⟩ q1 L1 S1 k1 y1 p1 M1 R1 h1 h2
 have e:=h1.same (h.mod md (by simp) (by simp))
 obtain⟨rfl,rfl⟩:=h2.same hM
 subst e
 have:=h.xlt
 have:=h.plt
 exact⟨by omega,by omega⟩
theorem k_SetBytes(w:World)(g x n v m mv:Nat)(vb:Value)(B:List Nat)(hx:NumAt w g x n v)(hm:MdAt w m mv)(hb:GotB w vb B)(ha:ApartN w vb x)(ms:MSep w x m)(hfit:B.length≤8*wlen mv)(hn:0<B.length)(hlt:bval B<mv) :
 Calls Tryz.prog 85 #[ptr x,vb,ptr m] w fun e w'=>e=.returned (.tuple #[ptr x,.nilIface])∧Fr w w' x∧(g≤w.heap.size→NumAt w' g x (wlen mv) (bval B)):=by
 obtain⟨k,y,q,M,Q,hM,rfl⟩:=hm
 obtain⟨p,L,R,hx,g1,g2,rfl,wL,rfl⟩:=hx
 obtain⟨o,kk,r,hh⟩:=hM.head
 have d:=ms _ _ _ _ _ _ _ _ hx hM
 have a:=ha _ _ _ hx
 refine(c_SetBytes x p m y q kk o r vb L R M Q B w hx hh hM.nat hM.words hb.1 hb.2.1 a.1 a.2 hb.2.2 (by rw[hM.wlen];exact hfit) hn d.1 d.2 (hh.ne hx.head (by decide))).mono ?_
 rintro e w' ⟨h,-⟩
 obtain⟨p',V,R',rfl,m1,h1,k1,bV,e1⟩:=h hlt
 exact⟨rfl,⟨p,p',_,_,_,_,hx,h1,m1,k1⟩,fun hg=>⟨p',_,R',h1,g1,k1.ge g2 hg,by rw[bV.len,hM.wlen],bV.words,e1⟩⟩
theorem k_SetBytes_bad(w:World)(g x n v m mv:Nat)(vb:Value)(B:List Nat)(hx:NumAt w g x n v)(hm:MdAt w m mv)(hb:GotB w vb B)(ha:ApartN w vb x)(ms:MSep w x m)(hfit:B.length≤8*wlen mv)(hn:0<B.length)(hlt:mv≤bval B)(hgx:g≤w.heap.size) :
 Calls Tryz.prog 85 #[ptr x,vb,ptr m] w fun e w'=>∃er,e=.returned (.tuple #[.pointer none,.iface 173 (ptr er)])∧(∀wg,g=wg.heap.size→Mod [] wg w→Mod [] wg w'):=by
 obtain⟨k,y,q,M,Q,hM,rfl⟩:=hm
 obtain⟨p,L,R,hx,g1,g2,rfl,wL,rfl⟩:=hx
 obtain⟨o,kk,r,hh⟩:=hM.head
 have d:=ms _ _ _ _ _ _ _ _ hx hM
 have a:=ha _ _ _ hx
 refine(c_SetBytes x p m y q kk o r vb L R M Q B w hx hh hM.nat hM.words hb.1 hb.2.1 a.1 a.2 hb.2.2 (by rw[hM.wlen];exact hfit) hn d.1 d.2 (hh.ne hx.head (by decide))).mono ?_
 rintro e w' ⟨-,h⟩
 obtain⟨er,rfl,m1⟩:=h hlt
 exact⟨er,rfl,fun wg e h0=>h0.keep2 m1 (by omega) (by omega)⟩
theorem k_Mod(wg w:World)(o no vo g x n v m mv:Nat)(h0:Mod [] wg w)(hm:MdAt wg m mv)(ho:NumAt w wg.heap.size o no vo)(hx:NumAt w g x n v)(s:Sep w o x) :
 Calls Tryz.prog 90 #[ptr o,ptr x,ptr m] w fun e w'=>e=.returned (ptr o)∧Fr w w' o∧Mod [] wg w'∧NumAt w' wg.heap.size o (wlen mv) (v%mv):=by
 obtain⟨k,y,q,M,Q,hM,rfl⟩:=hm
 obtain⟨po,Lo,Ro,ho,go,gpo,rfl,wo,rfl⟩:=ho
 obtain⟨p,L,R,hx,g1,g2,rfl,wL,rfl⟩:=hx
 have d:=s _ _ _ _ _ _ ho hx
 refine(c_Mod wg w k m y q o po x p M Q Lo Ro L R h0 hM ho hx wL go gpo d.1.symm d.2.symm).mono ?_
 rintro e w' ⟨p',X,R',rfl,m1,h1,k1,gp,bX,eX⟩
 exact⟨rfl,⟨po,p',_,_,_,_,ho,h1,m1,k1⟩,h0.keep2 m1 go gpo,p',X,R',h1,go,gp,by rw[bX.len,hM.wlen],bX.words,eX⟩
theorem k_SubOne(wg w:World)(x v m mv:Nat)(h0:Mod [] wg w)(hm:MdAt wg m mv)(hx:NumAt w wg.heap.size x (wlen mv) v)(hv:1≤v) :
 Calls Tryz.prog 118 #[ptr x,ptr m] w fun e w'=>e=.returned (ptr x)∧Fr w w' x∧Mod [] wg w'∧NumAt w' wg.heap.size x (wlen mv) (v-1):=by
 obtain⟨k,y,q,M,Q,hM,rfl⟩:=hm
 obtain⟨p,L,R,hx,g1,g2,hl,wL,rfl⟩:=hx
 rw[←hM.wlen]at hl
 refine(c_SubOne wg w k m y q x p M Q L R h0 hM hx g1 g2 wL hl hv).mono ?_
 rintro e w' ⟨X,rfl,m1,h1,wX,lX,eX⟩
 exact⟨rfl,⟨p,p,_,_,_,_,hx,h1,m1.mono (by simp),.inl rfl⟩,h0.keep1 m1 g2,p,X,R,h1,g1,g2,by rw[lX,hM.wlen],wX,eX⟩
theorem k_Sub(wg w:World)(x v m mv g z u:Nat)(h0:Mod [] wg w)(hm:MdAt wg m mv)(hx:NumAt w wg.heap.size x (wlen mv) v)(hz:NumAt w g z (wlen mv) u)(hb:u≤v+mv) :
 Calls Tryz.prog 91 #[ptr x,ptr z,ptr m] w fun e w'=>e=.returned (ptr x)∧Fr w w' x∧Mod [] wg w'∧NumAt w' wg.heap.size x (wlen mv) (subV v u mv):=by
 obtain⟨k,y,q,M,Q,hM,rfl⟩:=hm
 obtain⟨p,L,R,hx,g1,g2,hl,wL,rfl⟩:=hx
 obtain⟨pz,V,S,hz,g3,g4,hlz,wV,rfl⟩:=hz
 rw[←hM.wlen]at hl hlz
 refine(c_SubM wg w k m y q x p z pz M Q L R V S h0 hM hx hz g2 wL hl wV hlz hb).mono ?_
 rintro e w' ⟨X,rfl,m1,h1,wX,lX,eX⟩
 exact⟨rfl,⟨p,p,_,_,_,_,hx,h1,m1.mono (by simp),.inl rfl⟩,h0.keep1 m1 g2,p,X,R,h1,g1,g2,by rw[lX,hM.wlen],wX,eX⟩
theorem k_Add(wg w:World)(x v m mv g z u:Nat)(h0:Mod [] wg w)(hm:MdAt wg m mv)(hx:NumAt w wg.heap.size x (wlen mv) v)(hz:NumAt w g z (wlen mv) u)(hv:v<mv)(hu:u<mv) :
 Calls Tryz.prog 94 #[ptr x,ptr z,ptr m] w fun e w'=>e=.returned (ptr x)∧Fr w w' x∧Mod [] wg w'∧NumAt w' wg.heap.size x (wlen mv) ((v+u)%mv):=by
 obtain⟨k,y,q,M,Q,hM,rfl⟩:=hm
 obtain⟨p,L,R,hx,g1,g2,hl,wL,rfl⟩:=hx
 obtain⟨pz,V,S,hz,g3,g4,hlz,wV,rfl⟩:=hz
 rw[←hM.wlen]at hl hlz
 have hMw:=hM.mod h0
 obtain⟨o,kk,r,hh⟩:=hMw.head
 refine(c_Add' x p z pz m y q kk o r L R V S M Q w hx hz hh hMw.nat ⟨hl,wL,hv⟩ ⟨hlz,wV,hu⟩ hM.words (by have:=hM.nat.plt;omega)).mono ?_
 rintro e w' ⟨X,rfl,m1,h1,bX,eX⟩
 exact⟨rfl,⟨p,p,_,_,_,_,hx,h1,m1.mono (by simp),.inl rfl⟩,h0.keep1 m1 g2,p,X,R,h1,g1,g2,by rw[bX.len,hM.wlen],bX.words,eX⟩
theorem k_Mul(wg w:World)(x v m mv g z u:Nat)(h0:Mod [] wg w)(hm:MdAt wg m mv)(ho:mv%2=1)(hx:NumAt w wg.heap.size x (wlen mv) v)(hz:NumAt w g z (wlen mv) u)(hv:v<mv) :
 Calls Tryz.prog 92 #[ptr x,ptr z,ptr m] w fun e w'=>e=.returned (ptr x)∧Fr w w' x∧Mod [] wg w'∧NumAt w' wg.heap.size x (wlen mv) (v*u%mv):=by
 obtain⟨k,y,q,M,Q,hM,rfl⟩:=hm
 obtain⟨p,L,R,hx,g1,g2,hl,wL,rfl⟩:=hx
 obtain⟨pz,V,S,hz,g3,g4,hlz,wV,rfl⟩:=hz
 rw[←hM.wlen]at hl hlz
 refine(c_MulOdd wg w k m y q x p z pz M Q L R V S h0 hM ho hx hz ⟨hl,wL,hv⟩ wV hlz g1 g2).mono ?_
 rintro e w' ⟨p',X,R',rfl,m1,h1,k1,gp,bX,eX⟩
 exact⟨rfl,⟨p,p',_,_,_,_,hx,h1,m1,k1⟩,h0.keep2 m1 g1 g2,p',X,R',h1,g1,gp,by rw[bX.len,hM.wlen],bX.words,eX⟩
theorem k_MulE(w:World)(gx x v m mv g z u:Nat)(hm:MdAt w m mv)(he:mv%2=0)(hl15:wlen mv≤15)(ms:MSep w x m)(hx:NumAt w gx x (wlen mv) v)(hz:NumAt w g z (wlen mv) u)(hv:v<mv) :
 Calls Tryz.prog 92 #[ptr x,ptr z,ptr m] w fun e w'=>e=.returned (ptr x)∧Fr w w' x∧(gx≤w.heap.size→NumAt w' gx x (wlen mv) (v*u%mv)):=by
 obtain⟨k,y,q,M,Q,hM,rfl⟩:=hm
 obtain⟨p,L,R,hx,g1,g2,hl,wL,rfl⟩:=hx
 obtain⟨pz,V,S,hz,g3,g4,hlz,wV,rfl⟩:=hz
 have d:=ms _ _ _ _ _ _ _ _ hx hM
 rw[←hM.wlen]at hl hlz hl15
 refine(c_MulEvenG w k m y q x p z pz M Q L R V S hM he hl15 hx hz ⟨hl,wL,hv⟩ wV hlz d.1 d.2).mono ?_
 rintro e w' ⟨p',X,R',rfl,m1,h1,k1,bX,eX⟩
 exact⟨rfl,⟨p,p',_,_,_,_,hx,h1,m1,k1⟩,fun hg=>⟨p',X,R',h1,g1,k1.ge g2 hg,by rw[bX.len,hM.wlen],bX.words,eX⟩⟩
theorem k_Exp(wg w:World)(o no vo g x v m mv:Nat)(ve:Value)(E:List Nat)(h0:Mod [] wg w)(hm:MdAt wg m mv)(ho:mv%2=1)(hO:NumAt w wg.heap.size o no vo)(hx:NumAt w g x (wlen mv) v)(hv:v<mv)(he:GotB w ve E)(ha:ApartN w ve o)(lE:E.length≤100000) :
 Calls Tryz.prog 89 #[ptr o,ptr x,ve,ptr m] w fun e w'=>e=.returned (ptr o)∧Fr w w' o∧Mod [] wg w'∧NumAt w' wg.heap.size o (wlen mv) (v^bval E%mv):=by
 obtain⟨k,y,q,M,Q,hM,rfl⟩:=hm
 obtain⟨po,Lo,Ro,hO,g1,g2,rfl,wo,rfl⟩:=hO
 obtain⟨p,L,R,hx,g3,g4,hl,wL,rfl⟩:=hx
 rw[←hM.wlen]at hl
 have a:=ha _ _ _ hO
 refine(c_Exp wg w k m y q o po x p ve M Q Lo Ro L R E h0 hM ho hO hx ⟨hl,wL,hv⟩ he.1 he.2.1 a.1 a.2 he.2.2 g1 g2 lE).mono ?_
 rintro e w' ⟨p',X,R',rfl,m1,h1,k1,gp,bX,eX⟩
 exact⟨rfl,⟨po,p',_,_,_,_,hO,h1,m1,k1⟩,h0.keep2 m1 g1 g2,p',X,R',h1,g1,gp,by rw[bX.len,hM.wlen],bX.words,eX⟩
theorem k_IsZero(w:World)(g x n v:Nat)(hx:NumAt w g x n v):Calls Tryz.prog 132 #[ptr x] w fun e w'=>e=.returned (u64 (eqB v 0))∧w=w':=by
 obtain⟨p,L,R,hx,g1,g2,hl,wL,rfl⟩:=hx
 exact c_IsZero x p L R w hx
theorem k_IsOne(w:World)(g x n v:Nat)(hx:NumAt w g x n v):Calls Tryz.prog 133 #[ptr x] w fun e w'=>e=.returned (u64 (eqB v 1))∧w=w':=by
 obtain⟨p,L,R,hx,g1,g2,hl,wL,rfl⟩:=hx
 exact c_IsOne x p L R w hx
theorem k_BitLenVar(w:World)(g x n v:Nat)(hx:NumAt w g x n v):Calls Tryz.prog 108 #[ptr x] w fun e w'=>e=.returned (i64 (blen v))∧w=w':=by
 obtain⟨p,L,R,hx,g1,g2,hl,wL,rfl⟩:=hx
 exact c_BitLenVarTime x p L R w hx wL
theorem k_BitLen(w:World)(m mv:Nat)(hm:MdAt w m mv):Calls Tryz.prog 81 #[ptr m] w fun e w'=>e=.returned (i64 (blen mv))∧w=w':=by
 obtain⟨k,y,q,M,Q,hM,rfl⟩:=hm
 obtain⟨o,kk,r,hh⟩:=hM.head
 exact c_BitLen m y q kk o r M Q w hh hM.nat hM.words
theorem k_Equal(w:World)(gx gy x y n v u:Nat)(hx:NumAt w gx x n v)(hy:NumAt w gy y n u):Calls Tryz.prog 95 #[ptr x,ptr y] w fun e w'=>e=.returned (u64 (eqB v u))∧Mod [] w w':=by
 obtain⟨p,L,R,hx,g1,g2,rfl,wL,rfl⟩:=hx
 obtain⟨q,M,S,hy,g3,g4,hl,wM,rfl⟩:=hy
 exact c_Equal x y p q L R M S w hx hy hl wL wM
theorem k_IsOdd(w:World)(g x n v:Nat)(hx:NumAt w g x n v):Calls Tryz.prog 80 #[ptr x] w fun e w'=>e=.returned (u64 (v%2))∧w=w':=by
 obtain⟨p,L,R,hx,g1,g2,hl,wL,rfl⟩:=hx
 exact c_IsOdd x p L R w hx wL
theorem blen_lib:∀(n:Nat),n<2^64→Lib.bitLen n=blen n:=by
 intro n
 induction n using Nat.strongRecOn with
 |_ n ih=>
  intro h
  by_cases h0:n=0
  ·subst h0;rfl
  ·rw[Lib.bitLen_half n h0 h,blen_half h0,ih (n/2) (by omega) (by omega)];omega
theorem wrapL2(z y k:Nat)(hk:k≤100)(s:y=k+z)(l:z≤8):wrap64 ((k:Int)+wrap64 (z:Int))=(y:Int):=by unfold wrap64;omega
theorem wrapL1(z:Nat)(l:z≤8):wrap64 (wrap64 (z:Int))=(z:Int):=by unfold wrap64;omega
set_option maxRecDepth 100000 in
theorem len64_any(x:Int)(w:World)(h0:0≤x)(h1:x<2147483648):Calls Tryz.prog 140 #[.int .u64 x] w fun e w'=>e=.returned (.int .i64 (Lib.bitLen x.toNat))∧w'=w:=by
 have hx:¬(4294967296:Int)≤x:=by omega
 have z1:0≤x/65536/256:=by omega
 have z2:x/65536/256≤255:=by omega
 have z3:0≤x/65536:=by omega
 have z4:x/65536<256→x/65536≤255:=by omega
 have z5:0≤x/256:=by omega
 have z6:x<65536→x/256≤255:=by omega
 have z7:x<256→x≤255:=by omega
 go_enter Tryz.func140,Tryz.ntmps140
 go_wp2
 all_goals clear z1 z2 z3 z4 z5 z6 z7
 all_goals (go_ret;refine⟨congrArg Ending.returned (congrArg (Value.int IntKind.i64) ?_),rfl⟩)
 all_goals first
  |(rw[Lib.len8_of (x/65536/256) (by omega) (by omega)]
    have e:(x/65536/256).toNat=x.toNat/16777216:=by omega
    have l:=Lib.bitLen_le8' (x/65536/256) (by omega) (by omega)
    have s:=Lib.bitLen_shift24 x.toNat (by omega) (by omega)
    rw[e]at l ⊢
    exact wrapL2 _ _ 24 (by omega) s l)
  |(rw[Lib.len8_of (x/65536) (by omega) (by omega)]
    have e:(x/65536).toNat=x.toNat/65536:=by omega
    have l:=Lib.bitLen_le8' (x/65536) (by omega) (by omega)
    have s:=Lib.bitLen_shift16 x.toNat (by omega) (by omega)
    rw[e]at l ⊢
    exact wrapL2 _ _ 16 (by omega) s l)
  |(rw[Lib.len8_of (x/256) (by omega) (by omega)]
    have e:(x/256).toNat=x.toNat/256:=by omega
    have l:=Lib.bitLen_le8' (x/256) (by omega) (by omega)
    have s:=Lib.bitLen_shift8 x.toNat (by omega) (by omega)
    rw[e]at l ⊢
    exact wrapL2 _ _ 8 (by omega) s l)
  |(rw[Lib.len8_of x (by omega) (by omega)]
    have l:=Lib.bitLen_le8' x (by omega) (by omega)
    exact wrapL1 _ l)
theorem c_Len64(n:Nat)(hn:n<2147483648)(w:World):Calls Tryz.prog 140 #[u64 n] w fun e w'=>e=.returned (i64 (blen n))∧w=w':=by
 refine(len64_any (n:Int) w (by omega) (by omega)).mono ?_
 rintro e w' ⟨rfl,rfl⟩
 rw[Int.toNat_natCast,blen_lib n (by omega)]
 exact⟨rfl,rfl⟩
set_option maxRecDepth 100000 in
theorem c_bitsLen(n:Nat)(hn:n<2147483648)(w:World):Calls Tryz.prog 114 #[u64 n] w fun e w'=>e=.returned (i64 (blen n))∧w=w':=by
 have C:=hide (c_Len64 n hn w)
 clear hn
 go_enter Tryz.func114,Tryz.ntmps114
 go_wp2_with fail
 refine C.out.mono ?_
 rintro e w' ⟨rfl,rfl⟩
 go_wp2_with fail
 go_ret
 exact⟨rfl,rfl⟩
end Go.Proofs.YtfgmnbmnpihjdaaGreatDoor
