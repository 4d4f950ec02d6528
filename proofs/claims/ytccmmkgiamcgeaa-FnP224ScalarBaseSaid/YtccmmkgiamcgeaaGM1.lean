/- Plain number theory: primes, Fermat's little theorem, Pocklington's criterion, powers modulo a number by squaring. No program in sight. -/
set_option linter.all false
namespace P224
def IsPrime (p:Nat):Prop:=2≤p∧∀ m,m ∣ p→m=1∨m=p
theorem IsPrime.pos {p:Nat} (h:IsPrime p):0<p:=by have:=h.1; omega
theorem IsPrime.coprime {p a:Nat} (h:IsPrime p) (ha:¬ p ∣ a):Nat.gcd p a=1:=by
 rcases h.2 (Nat.gcd p a) (Nat.gcd_dvd_left p a) with h1 | h1
 ·exact h1
 ·exact absurd (h1 ▸ Nat.gcd_dvd_right p a) ha
theorem IsPrime.dvd_mul {p a b:Nat} (h:IsPrime p) (hd:p ∣ a*b):p ∣ a∨p ∣ b:=by
 by_cases ha:p ∣ a
 ·exact .inl ha
 ·exact .inr (Nat.Coprime.dvd_of_dvd_mul_left (h.coprime ha) hd)
def prodMod (p:Nat):List Nat→Nat
 | []=>1 % p
 | a :: l=>a*prodMod p l % p
theorem prodMod_perm {p:Nat} {l m:List Nat} (h:l.Perm m):prodMod p l=prodMod p m:=by
 induction h with
 | nil=>rfl
 | cons x _ ih=>simp only [prodMod,ih]
 | swap x y l =>
  simp only [prodMod]
  rw [Nat.mul_mod_mod,Nat.mul_mod_mod,Nat.mul_left_comm]
 | trans _ _ i j=>exact i.trans j
theorem perm_of_nodup:∀ (l m:List Nat),l.Nodup→(∀ x ∈ l,x ∈ m)→m.length≤l.length→l.Perm m
 | [],m,_,_,hl=>by
  have:m=[]:=List.length_eq_zero_iff.1 (by simpa using hl)
  subst this; exact List.Perm.nil
 | a :: l,m,hn,hs,hl=>by
  have ha:a ∈ m:=hs a (by simp)
  have h1:=List.perm_cons_erase ha
  have hn':=List.nodup_cons.1 hn
  refine (List.Perm.cons a (perm_of_nodup l (m.erase a) hn'.2 (fun x hx=>?_) ?_)).trans h1.symm
  ·have hne:x≠a:=fun e=>hn'.1 (e ▸ hx)
   exact (List.mem_erase_of_ne hne).2 (hs x (by simp [hx]))
  ·have:=h1.length_eq
   simp only [List.length_cons] at this hl
   omega
theorem prodMod_map (p a:Nat):∀ l:List Nat,prodMod p (l.map fun i=>a*i % p)=a ^ l.length*prodMod p l % p
 | []=>by simp [prodMod]
 | i :: l=>by
  simp only [List.map_cons,prodMod,List.length_cons,prodMod_map p a l,Nat.pow_succ]
  rw [Nat.mod_mul_mod,Nat.mul_mod_mod,Nat.mul_mod_mod]
  congr 1
  ac_rfl
theorem prime_not_dvd_prodMod {p:Nat} (h:IsPrime p):∀ l:List Nat,(∀ x ∈ l,¬ p ∣ x)→¬ p ∣ prodMod p l
 | [],_=>by
  intro hd
  have:p ∣ 1:=by
   rw [prodMod,Nat.dvd_mod_iff (Nat.dvd_refl p)] at hd
   exact hd
  have:=Nat.le_of_dvd (by omega) this
  have:=h.1
  omega
 | a :: l,hl=>by
  intro hd
  rw [prodMod,Nat.dvd_mod_iff (Nat.dvd_refl p)] at hd
  rcases h.dvd_mul hd with h1 | h1
  ·exact hl a (by simp) h1
  ·exact prime_not_dvd_prodMod h l (fun x hx=>hl x (by simp [hx])) h1
theorem dvd_sub_of_mod {p b c:Nat} (h:b % p=c % p):p ∣ c - b:=Nat.dvd_of_mod_eq_zero (Nat.sub_mod_eq_zero_of_mod_eq h.symm)
theorem mod_of_dvd_sub {p b c:Nat} (hbc:b≤c) (h:p ∣ c - b):b % p=c % p:=by
 obtain ⟨t,ht⟩:=h
 have:c=b+p*t:=by omega
 rw [this,Nat.add_mul_mod_self_left]
theorem dvd_pow_self {r b e:Nat} (h:r ∣ b) (he:e≠0):r ∣ b ^ e:=by
 cases e with
 | zero=>exact absurd rfl he
 | succ e=>rw [Nat.pow_succ]; exact Nat.dvd_trans h (Nat.dvd_mul_left _ _)
theorem IsPrime.cancel {p a b c:Nat} (h:IsPrime p) (ha:¬ p ∣ a) (he:a*b % p=a*c % p):b % p=c % p:=by
 rcases Nat.le_total b c with hbc | hbc
 ·have h1:p ∣ a*(c - b):=by
   rw [Nat.mul_sub]
   exact dvd_sub_of_mod he
  rcases h.dvd_mul h1 with h2 | h2
  ·exact absurd h2 ha
  ·exact mod_of_dvd_sub hbc h2
 ·have h1:p ∣ a*(b - c):=by
   rw [Nat.mul_sub]
   exact dvd_sub_of_mod he.symm
  rcases h.dvd_mul h1 with h2 | h2
  ·exact absurd h2 ha
  ·exact (mod_of_dvd_sub hbc h2).symm
theorem fermat {p a:Nat} (h:IsPrime p) (ha:¬ p ∣ a):a ^ (p - 1) % p=1:=by
 have h2:=h.1
 let l:=List.range' 1 (p - 1)
 have hl:∀ x,x ∈ l↔1≤x∧x<p:=fun x=>by
  simp only [l,List.mem_range'_1]; omega
 have hndl:l.Nodup:=List.nodup_range'
 have hlen:l.length=p - 1:=by simp [l]
 have hnd:∀ x ∈ l,¬ p ∣ x:=fun x hx hd=>by
  have:=Nat.le_of_dvd (by have:=((hl x).1 hx); omega) hd
  have:=((hl x).1 hx); omega
 have hperm:(l.map fun i=>a*i % p).Perm l:=by
  refine perm_of_nodup _ _ ?_ ?_ (by simp)
  ·refine List.pairwise_map.2 ?_
   refine List.Pairwise.imp_of_mem (fun {x y} hx hy hxy he=>hxy ?_) hndl
   have:=h.cancel ha he
   rw [Nat.mod_eq_of_lt ((hl x).1 hx).2,Nat.mod_eq_of_lt ((hl y).1 hy).2] at this
   exact this
  ·intro y hy
   obtain ⟨x,hx,rfl⟩:=List.mem_map.1 hy
   refine (hl _).2 ⟨?_,Nat.mod_lt _ h.pos⟩
   rcases Nat.eq_zero_or_pos (a*x % p) with h0 | h0
   ·exact absurd (h.dvd_mul (Nat.dvd_of_mod_eq_zero h0)) (fun hh=>hh.elim ha (hnd x hx))
   ·exact h0
 have h3:=prodMod_perm (p:=p) hperm
 rw [prodMod_map,hlen] at h3
 have h4:=prime_not_dvd_prodMod h l hnd
 have h5:prodMod p l*a ^ (p - 1) % p=prodMod p l*1 % p:=by
  rw [Nat.mul_comm,h3,Nat.mul_one]
  have:prodMod p l<p:=by
   cases hh:l with
   | nil=>simp only [prodMod]; exact Nat.mod_lt _ h.pos
   | cons a l=>simp only [prodMod]; exact Nat.mod_lt _ h.pos
  exact (Nat.mod_eq_of_lt this).symm
 have:=h.cancel h4 h5
 rw [this]
 exact Nat.mod_eq_of_lt (by omega)
def pmGo (m:Nat):Nat→Nat→Nat→Nat→Nat
 | 0,_,_,acc=>acc
 | f+1,b,e,acc=>pmGo m f (b*b % m) (e / 2) (bif e % 2 == 1 then acc*b % m else acc)
def pm (m b e:Nat):Nat:=pmGo m (e.log2+1) b e (1 % m)
theorem pmGo_eq (m:Nat):∀ f b e acc,e<2 ^ f→acc<m→pmGo m f b e acc=acc*b ^ e % m
 | 0,b,e,acc,he,ha=>by
  have:e=0:=by simpa using he
  subst this; simp [pmGo,Nat.mod_eq_of_lt ha]
 | f+1,b,e,acc,he,ha=>by
  have hm:0<m:=by omega
  have hb:b ^ e=(b*b) ^ (e / 2)*b ^ (e % 2):=by
   rw [← Nat.pow_two,← Nat.pow_mul,← Nat.pow_add,Nat.div_add_mod]
  have hlt:e / 2<2 ^ f:=by rw [Nat.pow_succ] at he; omega
  rw [pmGo]
  rcases Nat.mod_two_eq_zero_or_one e with h0 | h1
  ·rw [h0] at hb ⊢
   rw [show ((0:Nat) == 1)=false from rfl,cond_false,pmGo_eq m f _ _ _ hlt ha,hb,Nat.pow_zero,Nat.mul_one,
    Nat.mul_mod,← Nat.pow_mod,← Nat.mul_mod]
  ·rw [h1] at hb ⊢
   rw [show ((1:Nat) == 1)=true from rfl,cond_true,pmGo_eq m f _ _ _ hlt (Nat.mod_lt _ hm),hb,Nat.pow_one,
    Nat.mod_mul_mod,Nat.mul_mod,← Nat.pow_mod,← Nat.mul_mod]
   congr 1
   ac_rfl
theorem pm_eq {m b e:Nat} (hm:1<m):pm m b e=b ^ e % m:=by
 rw [pm,pmGo_eq _ _ _ _ _ Nat.lt_log2_self (Nat.mod_lt _ (by omega)),Nat.mod_mul_mod,Nat.one_mul]
theorem pow_mod_one {r b m k:Nat} (hr:1<r) (h:b ^ m % r=1):b ^ (m*k) % r=1:=by
 rw [Nat.pow_mul,Nat.pow_mod,h,Nat.one_pow,Nat.mod_eq_of_lt hr]
theorem pow_gcd_one {r b:Nat} (hr:1<r):∀ m n,b ^ m % r=1→b ^ n % r=1→b ^ (Nat.gcd m n) % r=1:=by
 intro m n
 induction m,n using Nat.gcd.induction with
 | H0 n=>intro _ h; simpa using h
 | H1 m n _ ih =>
  intro hm hn
  rw [Nat.gcd_rec]
  refine ih ?_ hm
  have h1:b ^ n=b ^ (m*(n / m))*b ^ (n % m):=by rw [← Nat.pow_add,Nat.div_add_mod]
  rw [h1,Nat.mul_mod,pow_mod_one hr hm,Nat.one_mul,Nat.mod_mod] at hn
  exact hn
theorem dvd_pred {r q b:Nat} (hr:IsPrime r) (hq:IsPrime q) (h1:b ^ q % r=1) (h2:b % r≠1):q ∣ r - 1:=by
 have hr1:1<r:=hr.1
 have hnd:¬ r ∣ b:=by
  intro hd
  have h3:b ^ q % r=0:=by
   have:r ∣ b ^ q:=dvd_pow_self hd (by have:=hq.1; omega)
   exact Nat.mod_eq_zero_of_dvd this
  omega
 have h4:=fermat hr hnd
 have h5:=pow_gcd_one hr1 q (r - 1) h1 h4
 rcases hq.2 _ (Nat.gcd_dvd_left q (r - 1)) with h6 | h6
 ·rw [h6,Nat.pow_one] at h5
  exact absurd h5 h2
 ·exact h6 ▸ Nat.gcd_dvd_right q (r - 1)
theorem dvd_two_pow:∀ (k d:Nat),d ∣ 2 ^ (k+1)→d=2 ^ (k+1)∨d ∣ 2 ^ k
 | k,d,h=>by
  rcases Nat.mod_two_eq_zero_or_one d with h0 | h1
  ·obtain ⟨c,rfl⟩:=Nat.dvd_of_mod_eq_zero h0
   have hc:c ∣ 2 ^ k:=by
    rw [Nat.pow_succ,Nat.mul_comm 2 c] at h
    exact Nat.dvd_of_mul_dvd_mul_right (k:=2) (by omega) h
   cases k with
   | zero =>
    have:c=1:=by simpa using hc
    subst this; left; rfl
   | succ k =>
    rcases dvd_two_pow k c hc with h2 | h2
    ·left; rw [h2,Nat.pow_succ _ (k+1),Nat.mul_comm]
    ·right
     rw [Nat.pow_succ,Nat.mul_comm 2 c]
     exact Nat.mul_dvd_mul h2 (Nat.dvd_refl 2)
  ·right
   have hc:Nat.Coprime d 2:=by
    have:Nat.gcd d 2 ∣ 2:=Nat.gcd_dvd_right d 2
    have h3:=Nat.le_of_dvd (by omega) this
    have h4:Nat.gcd d 2 ∣ d:=Nat.gcd_dvd_left d 2
    unfold Nat.Coprime
    rcases (show Nat.gcd d 2=0∨Nat.gcd d 2=1∨Nat.gcd d 2=2 by omega) with h5 | h5 | h5
    ·rw [h5] at this; simp at this
    ·exact h5
    ·rw [h5] at h4; have:=Nat.mod_eq_zero_of_dvd h4; omega
   rw [Nat.pow_succ] at h
   exact hc.dvd_of_dvd_mul_right h
theorem two_pow_dvd_pred {r b k:Nat} (hr:IsPrime r) (h1:b ^ 2 ^ (k+1) % r=1) (h2:b ^ 2 ^ k % r≠1):2 ^ (k+1) ∣ r - 1:=by
 have hr1:1<r:=hr.1
 have hnd:¬ r ∣ b:=by
  intro hd
  have h3:b ^ 2 ^ (k+1) % r=0 :=
   Nat.mod_eq_zero_of_dvd (dvd_pow_self hd (by have:=Nat.two_pow_pos (k+1); omega))
  omega
 have h5:=pow_gcd_one hr1 _ (r - 1) h1 (fermat hr hnd)
 rcases dvd_two_pow k _ (Nat.gcd_dvd_left (2 ^ (k+1)) (r - 1)) with h6 | h6
 ·exact h6 ▸ Nat.gcd_dvd_right (2 ^ (k+1)) (r - 1)
 ·obtain ⟨c,hc⟩:=h6
  rw [hc] at h2
  exact absurd (pow_mod_one hr1 h5) h2
theorem prime_divisor (n:Nat) (hn:2≤n):∃ r,IsPrime r∧r ∣ n:=by
 induction n using Nat.strongRecOn with
 | ind n ih =>
  by_cases h:∀ m,m ∣ n→m=1∨m=n
  ·exact ⟨n,⟨hn,h⟩,Nat.dvd_refl n⟩
  ·have ⟨m,hm⟩:=Classical.not_forall.1 h
   have ⟨hd,hne⟩:=Classical.not_imp.1 hm
   have hne:=not_or.1 hne
   have hm0:m≠0:=fun e=>by rw [e] at hd; have:=Nat.eq_zero_of_zero_dvd hd; omega
   have hlt:m<n:=Nat.lt_of_le_of_ne (Nat.le_of_dvd (by omega) hd) hne.2
   obtain ⟨r,hr,hrd⟩:=ih m hlt (by omega)
   exact ⟨r,hr,Nat.dvd_trans hrd hd⟩
theorem isPrime_of_no_small {n:Nat} (hn:2≤n) (h:∀ r,IsPrime r→r ∣ n→n<r*r):IsPrime n:=by
 refine ⟨hn,fun m hd=>?_⟩
 obtain ⟨c,hc⟩:=hd
 by_cases hm1:m=1
 ·exact .inl hm1
 by_cases hc1:c=1
 ·right; rw [hc,hc1,Nat.mul_one]
 exfalso
 have hm0:m≠0:=fun e=>by rw [e] at hc; omega
 have hc0:c≠0:=fun e=>by rw [e] at hc; omega
 obtain ⟨r,hr,hrd⟩:=prime_divisor m (by omega)
 obtain ⟨s,hs,hsd⟩:=prime_divisor c (by omega)
 have h1:=h r hr (hc ▸ Nat.dvd_trans hrd (Nat.dvd_mul_right m c))
 have h2:=h s hs (hc ▸ Nat.dvd_trans hsd (Nat.dvd_mul_left c m))
 have h3:r*s≤n:=hc ▸ Nat.mul_le_mul (Nat.le_of_dvd (by omega) hrd) (Nat.le_of_dvd (by omega) hsd)
 rcases Nat.le_total r s with h4 | h4
 ·have:=Nat.mul_le_mul_left r h4; omega
 ·have:=Nat.mul_le_mul_right s h4; omega
theorem ne_one_of_gcd {n r b:Nat} (hn0:n≠0) (hr:IsPrime r) (hd:r ∣ n) (h:Nat.gcd (b+(n - 1)) n=1):b % r≠1:=by
 intro he
 have h1:r ∣ b+(n - 1):=by
  ·obtain ⟨c,hc⟩:=hd
   have:(b+(n - 1)) % r=0:=by
    have h2:b+(n - 1)+1=b+n:=by omega
    have h3:(b+(n - 1)+1) % r=1:=by rw [h2,hc,Nat.add_mul_mod_self_left,he]
    have hr1:=hr.1
    have h4:=Nat.mod_lt (b+(n - 1)) (show 0<r by omega)
    rw [Nat.add_mod,Nat.mod_eq_of_lt (show 1<r by omega)] at h3
    rcases Nat.lt_or_ge ((b+(n - 1)) % r+1) r with h5 | h5
    ·rw [Nat.mod_eq_of_lt h5] at h3; omega
    ·have h6:(b+(n - 1)) % r+1=r:=by omega
     rw [h6,Nat.mod_self] at h3; omega
   exact Nat.dvd_of_mod_eq_zero this
 have h2:r ∣ Nat.gcd (b+(n - 1)) n:=Nat.dvd_gcd h1 hd
 rw [h] at h2
 have:=Nat.le_of_dvd (by omega) h2
 have:=hr.1
 omega
theorem mod_of_dvd {n r x v:Nat} (hd:r ∣ n) (h:x % n=v):x % r=v % r:=by
 rw [← h,Nat.mod_mod_of_dvd _ hd]
theorem pocklington {n q a c:Nat} (hn:2≤n) (hq:IsPrime q) (hc:n - 1=c*q) (hbig:n<q*q)
  (h1:pm n a (n - 1)=1) (h2:Nat.gcd (pm n a c+(n - 1)) n=1):IsPrime n:=by
 have hn1:1<n:=hn
 rw [pm_eq hn1] at h1 h2
 refine isPrime_of_no_small hn fun r hr hd=>?_
 have hr1:1<r:=hr.1
 have h3:(a ^ c % n) % r≠1:=ne_one_of_gcd (by omega) hr hd h2
 have h4:(a ^ c % n) ^ q % r=1:=by
  rw [Nat.pow_mod,Nat.mod_mod_of_dvd _ hd,← Nat.pow_mod,← Nat.pow_mul,← hc,mod_of_dvd hd h1,Nat.mod_eq_of_lt hr1]
 have h5:=dvd_pred hr hq h4 h3
 have h6:=Nat.le_of_dvd (by omega) h5
 have h7:q≤r:=by omega
 exact Nat.lt_of_lt_of_le hbig (Nat.mul_le_mul h7 h7)
theorem pock_dvd {n q a c:Nat} (hn:2≤n) (hq:IsPrime q) (hc:n - 1=c*q)
  (h1:pm n a (n - 1)=1) (h2:Nat.gcd (pm n a c+(n - 1)) n=1) (r:Nat) (hr:IsPrime r) (hd:r ∣ n):q ∣ r - 1:=by
 have hn1:1<n:=hn
 rw [pm_eq hn1] at h1 h2
 have hr1:1<r:=hr.1
 have h3:(a ^ c % n) % r≠1:=ne_one_of_gcd (by omega) hr hd h2
 have h4:(a ^ c % n) ^ q % r=1:=by
  rw [Nat.pow_mod,Nat.mod_mod_of_dvd _ hd,← Nat.pow_mod,← Nat.pow_mul,← hc,mod_of_dvd hd h1,Nat.mod_eq_of_lt hr1]
 exact dvd_pred hr hq h4 h3
theorem pock_two {n a c k:Nat} (hn:3≤n) (h1:pm n a (c*2 ^ k)=n - 1)
  (r:Nat) (hr:IsPrime r) (hr2:r≠2) (hd:r ∣ n):2 ^ (k+1) ∣ r - 1:=by
 have hn1:1<n:=by omega
 rw [pm_eq hn1] at h1
 have hr1:1<r:=hr.1
 have h3:a ^ (c*2 ^ k) % r=r - 1:=by
  rw [mod_of_dvd hd h1]
  obtain ⟨t,ht⟩:=hd
  have ht0:t≠0:=fun e=>by rw [e] at ht; omega
  have:n - 1=(r - 1)+r*(t - 1):=by
   rw [ht,Nat.mul_sub,Nat.mul_one]
   have:=Nat.le_mul_of_pos_right r (show 0<t by omega)
   omega
  rw [this,Nat.add_mul_mod_self_left,Nat.mod_eq_of_lt (by omega)]
 refine two_pow_dvd_pred (b:=a ^ c) hr ?_ ?_
 ·rw [← Nat.pow_mul,Nat.pow_succ,← Nat.mul_assoc,Nat.pow_mul,Nat.pow_mod,h3,Nat.pow_two]
  have:(r - 1)*(r - 1)=1+r*(r - 2):=by
   obtain ⟨s,rfl⟩:∃ s,r=s+2:=⟨r - 2,by omega⟩
   simp only [Nat.add_sub_cancel,show s+2 - 1=s+1 from by omega]
   simp only [Nat.add_mul,Nat.mul_add]; omega
  rw [this,Nat.add_mul_mod_self_left,Nat.mod_eq_of_lt hr1]
 ·rw [← Nat.pow_mul,h3]; omega
theorem isPrime_of_pock {n F:Nat} (hn:2≤n) (hbig:n<F*F) (h:∀ r,IsPrime r→r ∣ n→F ∣ r - 1):IsPrime n :=
 isPrime_of_no_small hn fun r hr hd=>by
  have hr1:=hr.1
  have:=Nat.le_of_dvd (by omega) (h r hr hd)
  exact Nat.lt_of_lt_of_le hbig (Nat.mul_le_mul (by omega) (by omega))
def noDiv (n:Nat):Nat→Nat→Bool
 | 0,d=>Nat.blt n (d*d)
 | f+1,d=>cond (Nat.blt n (d*d)) true (cond (Nat.beq (n % d) 0) false (noDiv n f (d+1)))
theorem noDiv_spec (n:Nat):∀ f d,noDiv n f d=true→∀ r,d≤r→r ∣ n→n<r*r
 | 0,d,h,r,hr,_=>by
  have h1:n<d*d:=by have:=Nat.le_of_ble_eq_true h; omega
  exact Nat.lt_of_lt_of_le h1 (Nat.mul_le_mul hr hr)
 | f+1,d,h,r,hr,hd=>by
  rw [noDiv] at h
  cases hb:Nat.blt n (d*d) with
  | true =>
   have h1:n<d*d:=by have:=Nat.le_of_ble_eq_true hb; omega
   exact Nat.lt_of_lt_of_le h1 (Nat.mul_le_mul hr hr)
  | false =>
   rw [hb,cond_false] at h
   cases hm:Nat.beq (n % d) 0 with
   | true=>rw [hm,cond_true] at h; cases h
   | false =>
    rw [hm,cond_false] at h
    rcases Nat.eq_or_lt_of_le hr with he | hlt
    ·subst he
     have:=Nat.mod_eq_zero_of_dvd hd
     rw [this] at hm
     cases hm
    ·exact noDiv_spec n f (d+1) h r hlt hd
theorem isPrime_by_trial {n f:Nat} (hn:2≤n) (h:noDiv n f 2=true):IsPrime n :=
 isPrime_of_no_small hn fun r hr hd=>noDiv_spec n f 2 h r hr.1 hd
end P224
/- The prime of P-224 and the number of its points: both are primes (Pocklington's criterion, evaluated by the kernel). -/
namespace P224
def pp:Nat:=26959946667150639794667015087019630673557916260026308143510066298881
def nn:Nat:=26959946667150639794667015087019625940457807714424391721682722368061
set_option maxRecDepth 100000 in
theorem prime_821796863:IsPrime 821796863:=isPrime_by_trial (f:=28700) (by decide) (by decide +kernel)
theorem prime_n6:IsPrime 432621809776543:=pocklington (q:=821796863) (a:=2) (c:=526434) (by decide) prime_821796863 (by decide +kernel) (by decide +kernel) (by decide +kernel) (by decide +kernel)
theorem prime_n5:IsPrime 136401162692544977256234449:=pocklington (q:=432621809776543) (a:=2) (c:=315289612336) (by decide) prime_n6 (by decide +kernel) (by decide +kernel) (by decide +kernel) (by decide +kernel)
theorem prime_n4:IsPrime 34646440928557194402992574983797:=pocklington (q:=136401162692544977256234449) (a:=2) (c:=254004) (by decide) prime_n5 (by decide +kernel) (by decide +kernel) (by decide +kernel) (by decide +kernel)
theorem prime_n3:IsPrime 375503554633724504423937478103159147573209:=pocklington (q:=34646440928557194402992574983797) (a:=2) (c:=10838156664) (by decide) prime_n4 (by decide +kernel) (by decide +kernel) (by decide +kernel) (by decide +kernel)
theorem prime_n2:IsPrime 50520606258875818707470860153287666700917696099933389351507:=pocklington (q:=375503554633724504423937478103159147573209) (a:=2) (c:=134540953435593634) (by decide) prime_n3 (by decide +kernel) (by decide +kernel) (by decide +kernel) (by decide +kernel)
theorem prime_nn:IsPrime nn:=pocklington (q:=50520606258875818707470860153287666700917696099933389351507) (a:=2) (c:=533642580) (by decide +kernel) prime_n2 (by decide +kernel) (by decide +kernel) (by decide +kernel) (by decide +kernel)
theorem prime_373:IsPrime 373:=isPrime_by_trial (f:=30) (by decide) (by decide +kernel)
set_option maxRecDepth 100000 in
theorem prime_2998279:IsPrime 2998279:=isPrime_by_trial (f:=1800) (by decide) (by decide +kernel)
theorem prime_q2:IsPrime 67280421310721 :=
 isPrime_of_pock (F:=2998279*373) (by decide) (by decide +kernel) fun r hr hd =>
  Nat.Coprime.mul_dvd_of_dvd_of_dvd (by decide +kernel)
   (pock_dvd (q:=2998279) (a:=3) (c:=67280421310720 / 2998279) (by decide) prime_2998279 (by decide +kernel) (by decide +kernel) (by decide +kernel) r hr hd)
   (pock_dvd (q:=373) (a:=3) (c:=67280421310720 / 373) (by decide) prime_373 (by decide +kernel) (by decide +kernel) (by decide +kernel) r hr hd)
theorem prime_pp:IsPrime pp :=
 isPrime_of_pock (F:=2 ^ 96*67280421310721) (by decide +kernel) (by decide +kernel) fun r hr hd =>
  Nat.Coprime.mul_dvd_of_dvd_of_dvd (by decide +kernel)
   (pock_two (a:=11) (c:=2 ^ 128 - 1) (k:=95) (by decide +kernel) (by decide +kernel) r hr
    (fun e=>by
     subst e
     have:=Nat.mod_eq_zero_of_dvd hd
     exact absurd this (by decide +kernel)) hd)
   (pock_dvd (q:=67280421310721) (a:=2) (c:=400710134418474969382609156465978876191819517164257280) (by decide +kernel) prime_q2 (by decide +kernel) (by decide +kernel) (by decide +kernel) r hr hd)
#print axioms prime_pp
#print axioms prime_nn
end P224
/- The numbers modulo a prime as a field; the points of y^2 = x^3 - 3 x + b with the sum by chord and tangent are a commutative group. No program in sight. -/
namespace P224
section
variable {n:Nat} [NeZero n]
theorem fin_ofNat_val (a:Nat):(Fin.ofNat n a).val=a % n:=rfl
def finv (a:Fin n):Fin n:=Fin.ofNat n (a.val ^ (n - 2))
theorem fin_eq_zero {a:Fin n}:a=0↔n ∣ a.val:=by
 rw [Fin.ext_iff,Fin.val_zero]
 constructor
 ·intro h; rw [h]; exact Nat.dvd_zero n
 ·intro h
  have:=a.isLt
  rcases Nat.eq_zero_or_pos a.val with h0 | h0
  ·exact h0
  ·have:=Nat.le_of_dvd h0 h; omega
theorem mul_zero_cases (hp:IsPrime n) {a b:Fin n} (h:a*b=0):a=0∨b=0:=by
 rw [fin_eq_zero,Fin.val_mul,Nat.dvd_mod_iff (Nat.dvd_refl n)] at h
 rcases hp.dvd_mul h with h | h
 ·exact .inl (fin_eq_zero.2 h)
 ·exact .inr (fin_eq_zero.2 h)
theorem mul_ne_zero (hp:IsPrime n) {a b:Fin n} (ha:a≠0) (hb:b≠0):a*b≠0:=fun h=>(mul_zero_cases hp h).elim ha hb
theorem mul_finv (hp:IsPrime n) {a:Fin n} (ha:a≠0):a*finv a=1:=by
 have h2:=hp.1
 have h:=fermat hp (fun hd=>ha (fin_eq_zero.2 hd))
 rw [Fin.ext_iff,Fin.val_mul,finv,fin_ofNat_val,Nat.mul_mod_mod,← Nat.pow_succ',show (n - 2).succ=n - 1 by omega,h]
 exact (Nat.mod_eq_of_lt (show 1<n by omega)).symm
theorem mul_left_cancel0 (hp:IsPrime n) {a b c:Fin n} (ha:a≠0) (h:a*b=a*c):b=c:=by
 have h1:a*(b - c)=0:=by grind
 rcases mul_zero_cases hp h1 with h2 | h2
 ·exact absurd h2 ha
 ·grind
inductive Pt (n:Nat) where
 | far
 | pt (x y:Fin n)
 deriving DecidableEq
def rhs (b x:Fin n):Fin n:=x*x*x - 3*x+b
def OnC (b:Fin n):Pt n→Prop
 | .far=>True
 | .pt x y=>y*y=rhs b x
def padd:Pt n→Pt n→Pt n
 | .far,q=>q
 | p,.far=>p
 | .pt x1 y1,.pt x2 y2 =>
  if x1≠x2 then
   let l:=(y2 - y1)*finv (x2 - x1)
   let x:=l*l - x1 - x2
   .pt x (l*(x1 - x) - y1)
  else if y1≠y2∨y1=0 then .far
  else
   let l:=(3*(x1*x1) - 3)*finv (y1+y1)
   let x:=l*l - x1 - x2
   .pt x (l*(x1 - x) - y1)
def pneg:Pt n→Pt n
 | .far=>.far
 | .pt x y=>.pt x (0 - y)
structure Fine (b:Fin n):Prop where
 prime:IsPrime n
 big:3<n
 noroot:∀ x:Fin n,rhs b x≠0
variable {b:Fin n}
theorem Fine.two (h:Fine b):(2:Fin n)≠0:=by
 intro e
 have hb:=h.big
 rw [Fin.ext_iff] at e
 have h2:(2:Fin n).val=2 % n:=rfl
 rw [h2,Fin.val_zero,Nat.mod_eq_of_lt (by omega)] at e
 omega
theorem Fine.half (h:Fine b) {a c:Fin n} (e:a+a=c+c):a=c:=by
 have h1:2*(a - c)=0:=by grind
 rcases mul_zero_cases h.prime h1 with h2 | h2
 ·exact absurd h2 h.two
 ·grind
theorem Fine.y_ne (h:Fine b) {x y:Fin n} (hc:OnC b (.pt x y)):y≠0:=by
 intro e
 subst e
 exact h.noroot x (by have:(0:Fin n)*0=rhs b x:=hc; rw [← this]; grind)
structure Slope (x1 y1 x2 y2 l:Fin n):Prop where
 line:y1 - y2=l*(x1 - x2)
 conic:l*(y1+y2)=x1*x1+x1*x2+x2*x2 - 3
def third (x1 y1 x2 l:Fin n):Pt n:=.pt (l*l - x1 - x2) (l*(x1 - (l*l - x1 - x2)) - y1)
theorem Slope.unique (h:Fine b) {x1 y1 x2 y2 l m:Fin n} (hn:¬ (x1=x2∧y1=0 - y2)) (hl:Slope x1 y1 x2 y2 l) (hm:Slope x1 y1 x2 y2 m):l=m:=by
 have h1:(l - m)*(x1 - x2)=0:=by have:=hl.line; have:=hm.line; grind
 have h2:(l - m)*(y1+y2)=0:=by have:=hl.conic; have:=hm.conic; grind
 rcases mul_zero_cases h.prime h1 with h3 | h3
 ·grind
 ·rcases mul_zero_cases h.prime h2 with h4 | h4
  ·grind
  ·exact absurd ⟨by grind,by grind⟩ hn
theorem chord_slope (h:Fine b) {x1 y1 x2 y2:Fin n} (h1:OnC b (.pt x1 y1)) (h2:OnC b (.pt x2 y2)) (hx:x1≠x2) :
  Slope x1 y1 x2 y2 ((y2 - y1)*finv (x2 - x1)):=by
 have hi:=mul_finv h.prime (a:=x2 - x1) (by intro e; exact hx (by grind))
 have e1:y1*y1=x1*x1*x1 - 3*x1+b:=h1
 have e2:y2*y2=x2*x2*x2 - 3*x2+b:=h2
 generalize finv (x2 - x1)=i at *
 refine ⟨by grind,?_⟩
 refine mul_left_cancel0 h.prime (a:=x2 - x1) (by intro e; exact hx (by grind)) ?_
 have e3:(x2 - x1)*((y2 - y1)*i*(y1+y2))=((x2 - x1)*i)*(y2*y2 - y1*y1):=by grind
 rw [e3,hi,e1,e2]
 grind
theorem tangent_slope (h:Fine b) {x1 y1:Fin n} (h1:OnC b (.pt x1 y1)) :
  Slope x1 y1 x1 y1 ((3*(x1*x1) - 3)*finv (y1+y1)):=by
 have hy:=h.y_ne h1
 have hi:=mul_finv h.prime (a:=y1+y1) (by intro e; exact hy (h.half (by grind)))
 generalize finv (y1+y1)=i at *
 exact ⟨by grind,by grind⟩
theorem padd_slope (h:Fine b) {x1 y1 x2 y2 l:Fin n} (h1:OnC b (.pt x1 y1)) (h2:OnC b (.pt x2 y2)) (hn:¬ (x1=x2∧y1=0 - y2))
  (hl:Slope x1 y1 x2 y2 l):padd (.pt x1 y1) (.pt x2 y2)=third x1 y1 x2 l:=by
 by_cases hx:x1=x2
 ·subst hx
  have hyy:y1=y2:=by
   have e1:y1*y1=rhs b x1:=h1
   have e2:y2*y2=rhs b x1:=h2
   have e3:(y1 - y2)*(y1+y2)=0:=by grind
   rcases mul_zero_cases h.prime e3 with e | e
   ·grind
   ·exact absurd ⟨rfl,by grind⟩ hn
  subst hyy
  have e:=Slope.unique h hn hl (tangent_slope h h1)
  have hy:=h.y_ne h1
  simp only [padd,third,ne_eq,not_true_eq_false,if_false,hy,or_self,e]
 ·have e:=Slope.unique h hn hl (chord_slope h h1 h2 hx)
  simp only [padd,third,ne_eq,hx,not_false_eq_true,if_true,e]
theorem padd_opposite {x y1 y2:Fin n} (h:Fine b) (h1:OnC b (.pt x y1)) (e:y1=0 - y2):padd (.pt x y1) (.pt x y2)=.far:=by
 have hy:=h.y_ne h1
 have:y1≠y2:=by
  intro e2
  exact hy (h.half (by grind))
 simp [padd,this]
theorem slope_exists (h:Fine b) {x1 y1 x2 y2:Fin n} (h1:OnC b (.pt x1 y1)) (h2:OnC b (.pt x2 y2)) (hn:¬ (x1=x2∧y1=0 - y2)) :
  ∃ l,Slope x1 y1 x2 y2 l:=by
 by_cases hx:x1=x2
 ·subst hx
  have hyy:y1=y2:=by
   have e1:y1*y1=rhs b x1:=h1
   have e2:y2*y2=rhs b x1:=h2
   have e3:(y1 - y2)*(y1+y2)=0:=by grind
   rcases mul_zero_cases h.prime e3 with e | e
   ·grind
   ·exact absurd ⟨rfl,by grind⟩ hn
  subst hyy
  exact ⟨_,tangent_slope h h1⟩
 ·exact ⟨_,chord_slope h h1 h2 hx⟩
theorem third_on {x1 y1 x2 y2 l:Fin n} (h1:OnC b (.pt x1 y1)) (hl:Slope x1 y1 x2 y2 l):OnC b (third x1 y1 x2 l):=by
 have e1:y1*y1=x1*x1*x1 - 3*x1+b:=h1
 have a1:=hl.line
 have a2:=hl.conic
 show (l*(x1 - (l*l - x1 - x2)) - y1)*(l*(x1 - (l*l - x1 - x2)) - y1)=rhs b (l*l - x1 - x2)
 unfold rhs
 have e2:y2=y1 - l*(x1 - x2):=by grind
 subst e2
 grind
theorem Slope.symm {x1 y1 x2 y2 l:Fin n} (hl:Slope x1 y1 x2 y2 l):Slope x2 y2 x1 y1 l:=by
 have a1:=hl.line
 have a2:=hl.conic
 exact ⟨by grind,by grind⟩
theorem third_symm {x1 y1 x2 y2 l:Fin n} (hl:Slope x1 y1 x2 y2 l):third x1 y1 x2 l=third x2 y2 x1 l:=by
 have a1:=hl.line
 unfold third
 congr 1
 ·grind
 ·grind
theorem padd_far (p:Pt n):padd p .far=p:=by cases p <;> rfl
theorem far_padd (p:Pt n):padd .far p=p:=by cases p <;> rfl
theorem padd_on (h:Fine b) {p q:Pt n} (hp:OnC b p) (hq:OnC b q):OnC b (padd p q):=by
 cases p with
 | far=>rw [far_padd]; exact hq
 | pt x1 y1 =>
  cases q with
  | far=>exact hp
  | pt x2 y2 =>
   by_cases hn:x1=x2∧y1=0 - y2
   ·obtain ⟨rfl,e⟩:=hn
    rw [padd_opposite h hp e]; trivial
   ·obtain ⟨l,hl⟩:=slope_exists h hp hq hn
    rw [padd_slope h hp hq hn hl]
    exact third_on hp hl
theorem pneg_on {p:Pt n} (hp:OnC b p):OnC b (pneg p):=by
 cases p with
 | far=>exact hp
 | pt x y =>
  have e:y*y=rhs b x:=hp
  show (0 - y)*(0 - y)=rhs b x
  rw [← e]; grind
theorem pneg_pneg (p:Pt n):pneg (pneg p)=p:=by
 cases p with
 | far=>rfl
 | pt x y=>show Pt.pt x (0 - (0 - y))=Pt.pt x y; congr 1; grind
theorem padd_comm (h:Fine b) {p q:Pt n} (hp:OnC b p) (hq:OnC b q):padd p q=padd q p:=by
 cases p with
 | far=>rw [far_padd,padd_far]
 | pt x1 y1 =>
  cases q with
  | far=>rfl
  | pt x2 y2 =>
   by_cases hn:x1=x2∧y1=0 - y2
   ·obtain ⟨rfl,e⟩:=hn
    rw [padd_opposite h hp e,padd_opposite h hq (by rw [e]; grind)]
   ·obtain ⟨l,hl⟩:=slope_exists h hp hq hn
    have hn':¬ (x2=x1∧y2=0 - y1):=fun ⟨e1,e2⟩=>hn ⟨e1.symm,by rw [e2]; grind⟩
    rw [padd_slope h hp hq hn hl,padd_slope h hq hp hn' hl.symm,third_symm hl]
theorem padd_neg (h:Fine b) {p:Pt n} (hp:OnC b p):padd p (pneg p)=.far:=by
 cases p with
 | far=>rfl
 | pt x y=>exact padd_opposite h hp (by grind)
theorem eq_neg_of_padd (h:Fine b) {p q:Pt n} (hp:OnC b p) (hq:OnC b q) (e:padd p q=.far):q=pneg p:=by
 cases p with
 | far=>rw [far_padd] at e; exact e
 | pt x1 y1 =>
  cases q with
  | far=>cases e
  | pt x2 y2 =>
   by_cases hn:x1=x2∧y1=0 - y2
   ·obtain ⟨rfl,e1⟩:=hn
    show Pt.pt x1 y2=Pt.pt x1 (0 - y1)
    congr 1; rw [e1]; grind
   ·obtain ⟨l,hl⟩:=slope_exists h hp hq hn
    rw [padd_slope h hp hq hn hl] at e
    cases e
theorem pneg_padd (h:Fine b) {p q:Pt n} (hp:OnC b p) (hq:OnC b q):pneg (padd p q)=padd (pneg p) (pneg q):=by
 cases p with
 | far=>rw [far_padd]; show _=padd .far _; rw [far_padd]
 | pt x1 y1 =>
  cases q with
  | far=>rfl
  | pt x2 y2 =>
   by_cases hn:x1=x2∧y1=0 - y2
   ·obtain ⟨rfl,e⟩:=hn
    rw [padd_opposite h hp e]
    exact (padd_opposite h (pneg_on hp) (by rw [e])).symm
   ·obtain ⟨l,hl⟩:=slope_exists h hp hq hn
    have hl':Slope x1 (0 - y1) x2 (0 - y2) (0 - l):=by
     have a1:=hl.line
     have a2:=hl.conic
     exact ⟨by grind,by grind⟩
    have hn':¬ (x1=x2∧0 - y1=0 - (0 - y2)):=fun ⟨e1,e2⟩=>hn ⟨e1,by grind⟩
    rw [padd_slope h hp hq hn hl]
    show _=padd (.pt x1 (0 - y1)) (.pt x2 (0 - y2))
    rw [padd_slope h (pneg_on (p:=.pt x1 y1) hp) (pneg_on (p:=.pt x2 y2) hq) hn' hl']
    unfold third pneg
    congr 1 <;> grind
theorem padd_cancel (h:Fine b) {p q:Pt n} (hp:OnC b p) (hq:OnC b q):padd (padd p q) (pneg q)=p:=by
 cases p with
 | far=>rw [far_padd]; exact padd_neg h hq
 | pt x1 y1 =>
  cases q with
  | far=>rfl
  | pt x2 y2 =>
   by_cases hn:x1=x2∧y1=0 - y2
   ·obtain ⟨rfl,e⟩:=hn
    rw [padd_opposite h hp e,far_padd]
    show Pt.pt x1 (0 - y2)=_
    rw [e]
   ·obtain ⟨l,hl⟩:=slope_exists h hp hq hn
    rw [padd_slope h hp hq hn hl]
    have a1:=hl.line
    have a2:=hl.conic
    have hy2:=h.y_ne hq
    have h4:=third_on hp hl
    have hn4:¬ (l*l - x1 - x2=x2∧l*(x1 - (l*l - x1 - x2)) - y1=0 - (0 - y2)):=by
     rintro ⟨e1,e2⟩
     refine hy2 (h.half ?_)
     rw [e1] at e2
     grind
    have hl':Slope (l*l - x1 - x2) (l*(x1 - (l*l - x1 - x2)) - y1) x2 (0 - y2) (0 - l):=by
     refine ⟨by grind,?_⟩
     have e2:y2=y1 - l*(x1 - x2):=by grind
     subst e2
     grind
    show padd (.pt (l*l - x1 - x2) (l*(x1 - (l*l - x1 - x2)) - y1)) (.pt x2 (0 - y2))=_
    rw [padd_slope h h4 (pneg_on (p:=.pt x2 y2) hq) hn4 hl']
    unfold third
    congr 1 <;> grind
theorem lc1 {a c A A' k:Fin n} (h:A=A') (e:a - c=k*(A - A')):a=c:=by
 subst h
 have:a - c=0:=by rw [e]; clear e; grind
 clear e; grind
theorem lc2 {a c A A' B B' k k':Fin n} (h:A=A') (h':B=B') (e:a - c=k*(A - A')+k'*(B - B')):a=c:=by
 subst h h'
 have:a - c=0:=by rw [e]; clear e; grind
 clear e; grind
theorem lc3 {a c A A' B B' C C' k k' k'':Fin n} (h:A=A') (h':B=B') (h'':C=C') (e:a - c=k*(A - A')+k'*(B - B')+k''*(C - C')):a=c:=by
 subst h h' h''
 have:a - c=0:=by rw [e]; clear e; grind
 clear e; grind
theorem id_chord (x1 x2 x3 y2 l m s:Fin n):(x3 - (l*l - x1 - x2))*((l - m)*(s+l)) - (x3 - (l*l - x1 - x2))*(x1 - x3) =
  (l - m)*((l*(x1 - (l*l - x1 - x2)) - (y2+l*(x1 - x2)) - (y2 - m*(x2 - x3))) - s*(l*l - x1 - x2 - x3))
   + 1*((l*(y2+l*(x1 - x2)+y2)) - (x1*x1+x1*x2+x2*x2 - 3))
   + (0 - 1)*((m*(y2+(y2 - m*(x2 - x3)))) - (x2*x2+x2*x3+x3*x3 - 3)):=by grind
theorem id_tangent (x2 x3 y2 l m s:Fin n):(x3 - x2)*((l - m)*(s+l)) - (x3 - x2)*((l*l - x2 - x3) - x3) =
  (0 - 1)*(s*((y2 - m*(x2 - x3))+(y2 - m*(x2 - x3))) - (x3*x3+x3*x3+x3*x3 - 3))
   + (l - s)*((l*((l*l - x2 - x3) - x3) - (y2+l*((l*l - x2 - x3) - x2))) - (y2 - m*(x2 - x3)))
   + 1*((l*(y2+l*((l*l - x2 - x3) - x2)+y2)) - ((l*l - x2 - x3)*(l*l - x2 - x3)+(l*l - x2 - x3)*x2+x2*x2 - 3)):=by grind
theorem of_line {x1 y1 x2 y2 l:Fin n} (h:y1 - y2=l*(x1 - x2)):y1=y2+l*(x1 - x2):=by grind
theorem of_line' {x1 y1 x2 y2 l:Fin n} (h:y1 - y2=l*(x1 - x2)):y2=y1 - l*(x1 - x2):=by grind
theorem sub_ne {a c:Fin n} (h:¬ a=c):c - a≠0:=by intro e; exact h (by grind)
theorem opp_or_same (h:Fine b) {x y1 y2:Fin n} (h1:OnC b (.pt x y1)) (h2:OnC b (.pt x y2)) (hn:¬ y1=0 - y2):y1=y2:=by
 have e1:y1*y1=rhs b x:=h1
 have e2:y2*y2=rhs b x:=h2
 have e3:(y1 - y2)*(y1+y2)=0:=by clear hn; grind
 rcases mul_zero_cases h.prime e3 with e | e
 ·clear e1 e2 e3; grind
 ·exact absurd (by clear e1 e2 e3 hn; grind) hn
theorem third_x_eq {x1 x2 l x3:Fin n} (h:l*l - x1 - x2=x3):x1=l*l - x2 - x3:=by grind
theorem assoc_key (h:Fine b) {x1 y1 x2 y2 x3 y3 l m s:Fin n} (hl:Slope x1 y1 x2 y2 l) (hm:Slope x2 y2 x3 y3 m)
  (hs:Slope (l*l - x1 - x2) (l*(x1 - (l*l - x1 - x2)) - y1) x3 y3 s)
  (h1:OnC b (.pt x1 y1)) (h2:OnC b (.pt x2 y2)) (h3:OnC b (.pt x3 y3))
  (hn:¬ (l*l - x1 - x2=x3∧l*(x1 - (l*l - x1 - x2)) - y1=0 - y3)):(l - m)*(s+l)=x1 - x3:=by
 have k4:OnC b (.pt (l*l - x1 - x2) (l*(x1 - (l*l - x1 - x2)) - y1)):=third_on h1 hl
 have a2:=hl.conic
 have b2:=hm.conic
 have c1:=hs.line
 have c2:=hs.conic
 obtain rfl:=of_line hl.line
 obtain rfl:=of_line' hm.line
 by_cases hv:l*l - x1 - x2=x3
 ·
  have hy:l*(x1 - x3) - (y2+l*(x1 - x2))=y2 - m*(x2 - x3):=by
   rw [hv] at k4 hn
   exact opp_or_same h k4 h3 (fun e=>hn ⟨rfl,e⟩)
  rw [hv,hy] at c2
  obtain rfl:=third_x_eq hv
  have hx2:x3 - x2≠0:=by
   refine sub_ne fun e0=>?_
   subst e0
   refine h.y_ne h2 (h.half ?_)
   clear c1 c2 a2 b2 hs hl hm k4 hn h1 h2 h3
   grind
  refine mul_left_cancel0 h.prime hx2 (lc3 c2 hy a2 (id_tangent x2 x3 y2 l m s))
 ·exact mul_left_cancel0 h.prime (sub_ne hv) (lc3 c1 a2 b2 (id_chord x1 x2 x3 y2 l m s))
theorem neg_swap {u v:Fin n} (h:v=0 - u):u=0 - v:=by rw [h]; grind
theorem id_ey (x1 x2 y2 l:Fin n):y2+l*(x1 - x2)=y2 - l*(x2 - x1):=by grind
theorem id_ex (a c d:Fin n):a - c - d=a - d - c:=by grind
theorem id_es (x1 x3 l m s t:Fin n):(l - m)*t - (l - m)*(s+l - m)=(0 - 1)*((m - l)*(t+m) - (x3 - x1))+(0 - 1)*((l - m)*(s+l) - (x1 - x3)):=by grind
theorem id_x (x1 x2 x3 l m s:Fin n):(s*s - (l*l - x1 - x2) - x3) - ((s+l - m)*(s+l - m) - x1 - (m*m - x2 - x3))=(0 - 2)*((l - m)*(s+l) - (x1 - x3)):=by grind
theorem id_y (x1 x2 x3 y2 l m s:Fin n) :
  (s*(x3 - (s*s - x3 - (l*l - x1 - x2))) - (y2 - m*(x2 - x3))) - ((s+l - m)*(x1 - (s*s - x3 - (l*l - x1 - x2))) - (y2+l*(x1 - x2))) =
   (s - l)*((l - m)*(s+l) - (x1 - x3)):=by grind
theorem padd_assoc_fin (h:Fine b) {x1 y1 x2 y2 x3 y3:Fin n} (h1:OnC b (.pt x1 y1)) (h2:OnC b (.pt x2 y2)) (h3:OnC b (.pt x3 y3))
  (n12:¬ (x1=x2∧y1=0 - y2)) (n23:¬ (x2=x3∧y2=0 - y3))
  {l m:Fin n} (hl:Slope x1 y1 x2 y2 l) (hm:Slope x2 y2 x3 y3 m)
  (n4:¬ (l*l - x1 - x2=x3∧l*(x1 - (l*l - x1 - x2)) - y1=0 - y3))
  (n5:¬ (x1=m*m - x2 - x3∧y1=0 - (m*(x2 - (m*m - x2 - x3)) - y2))) :
  padd (padd (.pt x1 y1) (.pt x2 y2)) (.pt x3 y3)=padd (.pt x1 y1) (padd (.pt x2 y2) (.pt x3 y3)):=by
 have k4:OnC b (.pt (l*l - x1 - x2) (l*(x1 - (l*l - x1 - x2)) - y1)):=third_on h1 hl
 have k5:OnC b (.pt (m*m - x2 - x3) (m*(x2 - (m*m - x2 - x3)) - y2)):=third_on h2 hm
 obtain ⟨s,hs⟩:=slope_exists h k4 h3 n4
 obtain ⟨t,ht⟩:=slope_exists h h1 k5 n5
 have K:=assoc_key h hl hm hs h1 h2 h3 n4
 have ⟨e5x,e5y⟩:m*m - x2 - x3=m*m - x3 - x2∧m*(x2 - (m*m - x2 - x3)) - y2=m*(x3 - (m*m - x3 - x2)) - y3:=by
  have e5:third x2 y2 x3 m=third x3 y3 x2 m:=third_symm hm
  unfold third at e5
  injection e5 with u v
  exact ⟨u,v⟩
 have K':(m - l)*(t+m)=x3 - x1:=by
  refine assoc_key h hm.symm hl.symm ?_ h3 h2 h1 ?_
  ·rw [← e5y,← e5x]; exact ht.symm
  ·rw [← e5y,← e5x]; rintro ⟨u,v⟩; exact n5 ⟨u.symm,neg_swap v⟩
 by_cases hlm:l=m
 ·subst hlm
  have ex:x1=x3:=by
   clear K' hs ht hl hm h1 h2 h3 k4 k5 n12 n23 n4 n5 e5x e5y
   grind
  subst ex
  have ey:y1=y3:=by rw [of_line hl.line,of_line' hm.line]; exact id_ey _ _ _ _
  subst ey
  rw [padd_comm h h2 h1]
  exact padd_comm h (padd_on h h1 h2) h1
 ·have hd:l - m≠0:=sub_ne (fun e=>hlm e.symm)
  obtain rfl:t=s+l - m:=mul_left_cancel0 h.prime hd (lc2 K' K (id_es x1 x3 l m s t))
  rw [padd_slope h h1 h2 n12 hl,padd_slope h h2 h3 n23 hm]
  show padd (.pt _ _) _=padd _ (.pt _ _)
  rw [padd_slope h k4 h3 n4 hs,padd_slope h h1 k5 n5 ht,third_symm hs]
  obtain rfl:=of_line hl.line
  obtain rfl:=of_line' hm.line
  have ex:s*s - x3 - (l*l - x1 - x2)=(s+l - m)*(s+l - m) - x1 - (m*m - x2 - x3):=by
   rw [← lc1 K (id_x x1 x2 x3 l m s)]; exact id_ex _ _ _
  unfold third
  rw [← ex]
  congr 1
  exact lc1 K (id_y x1 x2 x3 y2 l m s)
theorem padd_assoc (h:Fine b) {p q r:Pt n} (hp:OnC b p) (hq:OnC b q) (hr:OnC b r):padd (padd p q) r=padd p (padd q r):=by
 by_cases c1:padd p q=.far
 ·have e:=eq_neg_of_padd h hp hq c1
  subst e
  rw [c1,far_padd,padd_comm h (pneg_on hp) hr,padd_comm h hp (padd_on h hr (pneg_on hp))]
  have:=padd_cancel h hr (pneg_on hp)
  rw [pneg_pneg] at this
  exact this.symm
 by_cases c2:padd q r=.far
 ·have e:=eq_neg_of_padd h hq hr c2
  subst e
  rw [c2,padd_far,padd_cancel h hp hq]
 by_cases c3:padd (padd p q) r=.far
 ·have e:=eq_neg_of_padd h (padd_on h hp hq) hr c3
  subst e
  rw [c3,pneg_padd h hp hq,padd_comm h (pneg_on hp) (pneg_on hq)]
  have e1:padd q (padd (pneg q) (pneg p))=pneg p:=by
   rw [padd_comm h hq (padd_on h (pneg_on hq) (pneg_on hp)),padd_comm h (pneg_on hq) (pneg_on hp)]
   have:=padd_cancel h (pneg_on hp) (pneg_on hq)
   rwa [pneg_pneg] at this
  rw [e1,padd_neg h hp]
 by_cases c4:padd p (padd q r)=.far
 ·have e:=eq_neg_of_padd h hp (padd_on h hq hr) c4
  have e1:p=padd (pneg r) (pneg q):=by
   have:pneg (padd q r)=pneg (pneg p):=by rw [e]
   rw [pneg_pneg,pneg_padd h hq hr,padd_comm h (pneg_on hq) (pneg_on hr)] at this
   exact this.symm
  have e2:padd p q=pneg r:=by
   rw [e1]
   have:=padd_cancel h (pneg_on hr) (pneg_on hq)
   rwa [pneg_pneg] at this
  rw [c4,e2,padd_comm h (pneg_on hr) hr,padd_neg h hr]
 cases p with
 | far=>rw [far_padd,far_padd]
 | pt x1 y1 =>
  cases q with
  | far=>rw [padd_far,far_padd]
  | pt x2 y2 =>
   cases r with
   | far=>rw [padd_far,padd_far]
   | pt x3 y3 =>
    have n12:¬ (x1=x2∧y1=0 - y2):=fun ⟨e,e'⟩=>by subst e; exact c1 (padd_opposite h hp e')
    have n23:¬ (x2=x3∧y2=0 - y3):=fun ⟨e,e'⟩=>by subst e; exact c2 (padd_opposite h hq e')
    obtain ⟨l,hl⟩:=slope_exists h hp hq n12
    obtain ⟨m,hm⟩:=slope_exists h hq hr n23
    have k4:OnC b (.pt (l*l - x1 - x2) (l*(x1 - (l*l - x1 - x2)) - y1)):=third_on hp hl
    refine padd_assoc_fin h hp hq hr n12 n23 hl hm ?_ ?_
    ·rintro ⟨e,e'⟩
     refine c3 ?_
     rw [padd_slope h hp hq n12 hl]
     show padd (.pt _ _) _=_
     rw [e] at k4 e' ⊢
     exact padd_opposite h k4 e'
    ·rintro ⟨e,e'⟩
     refine c4 ?_
     rw [padd_slope h hq hr n23 hm]
     show padd _ (.pt _ _)=_
     rw [← e] at e' ⊢
     exact padd_opposite h hp e'
end
end P224
/- Three coordinates: the complete sum and double of the package's code, as polynomials, are those of the group law. No program in sight. -/
namespace P224
section
variable {n:Nat} [NeZero n]
theorem fmul_left_comm (a c d:Fin n):a*(c*d)=c*(a*d):=by grind
structure Tri (n:Nat) where
 x:Fin n
 y:Fin n
 z:Fin n
def sx (b X1 Y1 Z1 X2 Y2 Z2:Fin n):Fin n :=
 (X1*Y2+X2*Y1)*(Y1*Y2+3*(X1*Z2+X2*Z1) - 3*b*Z1*Z2) - (Y1*Z2+Y2*Z1)*(3*b*(X1*Z2+X2*Z1) - 3*X1*X2 - 9*Z1*Z2)
def sy (b X1 Y1 Z1 X2 Y2 Z2:Fin n):Fin n :=
 (3*X1*X2 - 3*Z1*Z2)*(3*b*(X1*Z2+X2*Z1) - 3*X1*X2 - 9*Z1*Z2)+(Y1*Y2 - 3*(X1*Z2+X2*Z1)+3*b*Z1*Z2)*(Y1*Y2+3*(X1*Z2+X2*Z1) - 3*b*Z1*Z2)
def sz (b X1 Y1 Z1 X2 Y2 Z2:Fin n):Fin n :=
 (Y1*Z2+Y2*Z1)*(Y1*Y2 - 3*(X1*Z2+X2*Z1)+3*b*Z1*Z2)+(X1*Y2+X2*Y1)*(3*X1*X2 - 3*Z1*Z2)
def tadd (b:Fin n) (t u:Tri n):Tri n:=⟨sx b t.x t.y t.z u.x u.y u.z,sy b t.x t.y t.z u.x u.y u.z,sz b t.x t.y t.z u.x u.y u.z⟩
def tdbl (b:Fin n) (t:Tri n):Tri n:=⟨sx b t.x t.y t.z t.x t.y t.z,sy b t.x t.y t.z t.x t.y t.z,8*(t.y*t.y*t.y)*t.z⟩
def Rep (t:Tri n):Pt n→Prop
 | .far=>t.x=0∧t.y≠0∧t.z=0
 | .pt x y=>t.z≠0∧t.x=x*t.z∧t.y=y*t.z
theorem s_scale (b x1 y1 z1 x2 y2 z2:Fin n) :
  sx b (x1*z1) (y1*z1) z1 (x2*z2) (y2*z2) z2=(z1*z1*(z2*z2))*sx b x1 y1 1 x2 y2 1 ∧
  sy b (x1*z1) (y1*z1) z1 (x2*z2) (y2*z2) z2=(z1*z1*(z2*z2))*sy b x1 y1 1 x2 y2 1 ∧
  sz b (x1*z1) (y1*z1) z1 (x2*z2) (y2*z2) z2=(z1*z1*(z2*z2))*sz b x1 y1 1 x2 y2 1:=by
 unfold sx sy sz
 exact ⟨by grind,by grind,by grind⟩
theorem s_farl (b y1 x2 y2 z2:Fin n):sx b 0 y1 0 x2 y2 z2=y1*y1*y2*x2∧sy b 0 y1 0 x2 y2 z2=y1*y1*y2*y2∧sz b 0 y1 0 x2 y2 z2=y1*y1*y2*z2:=by
 unfold sx sy sz
 exact ⟨by grind,by grind,by grind⟩
theorem s_farr (b x1 y1 z1 y2:Fin n):sx b x1 y1 z1 0 y2 0=y2*y2*y1*x1∧sy b x1 y1 z1 0 y2 0=y2*y2*y1*y1∧sz b x1 y1 z1 0 y2 0=y2*y2*y1*z1:=by
 unfold sx sy sz
 exact ⟨by grind,by grind,by grind⟩
theorem id_sx (x1 y1 x2 l:Fin n):sx (y1*y1 - x1*x1*x1+3*x1) x1 y1 1 x2 (y1 - l*(x1 - x2)) 1 - (l*l - x1 - x2)*sz (y1*y1 - x1*x1*x1+3*x1) x1 y1 1 x2 (y1 - l*(x1 - x2)) 1 =
  (l*l*x1*y1 - l*l*x2*y1+3*l*x1*x1*x1 - 3*l*x1*x1*x2 - 3*l*x1+3*l*x2 - 4*l*y1*y1 - 3*x1*x1*y1 - 3*x1*x2*y1+6*y1) *
   (l*(y1+(y1 - l*(x1 - x2))) - (x1*x1+x1*x2+x2*x2 - 3)):=by
 unfold sx sz; grind
theorem id_sy (x1 y1 x2 l:Fin n):sy (y1*y1 - x1*x1*x1+3*x1) x1 y1 1 x2 (y1 - l*(x1 - x2)) 1 - (l*(x1 - (l*l - x1 - x2)) - y1)*sz (y1*y1 - x1*x1*x1+3*x1) x1 y1 1 x2 (y1 - l*(x1 - x2)) 1 =
  (0 - l*l*l*x1*y1+l*l*l*x2*y1 - 3*l*l*x1*x1*x1+3*l*l*x1*x1*x2+3*l*l*x1 - 3*l*l*x2+4*l*l*y1*y1+3*l*x1*x1*y1+3*l*x1*x2*y1 - 6*l*y1
    + 9*x1*x1*x1*x1 - 18*x1*x1 - 12*x1*y1*y1+9) *
   (l*(y1+(y1 - l*(x1 - x2))) - (x1*x1+x1*x2+x2*x2 - 3)):=by
 unfold sy sz; grind
theorem b_of {b x y:Fin n} (h:y*y=rhs b x):b=y*y - x*x*x+3*x:=by unfold rhs at h; grind
theorem s_tangent (x y:Fin n):sz (y*y - x*x*x+3*x) x y 1 x y 1=8*(y*y*y):=by unfold sz; grind
theorem id_sz (x1 y1 x2 y2 k b:Fin n) (h1:y1*y1=x1*x1*x1 - 3*x1+b) (h2:y2*y2=x2*x2*x2 - 3*x2+b) (hk:y1+y2=k*(x1 - x2)) :
  sz b x1 y1 1 x2 y2 1=0 - (k*(x1 - (k*k - x1 - x2)) - y1)*((x1 - x2)*(x1 - x2)*(x1 - x2)):=by
 have e1:sz b x1 y1 1 x2 y2 1=0 - ((y1+y2)*(x1*((x1 - x2)*(x1 - x2)) - ((y1+y2)*(y1+y2) - (x1+x2)*((x1 - x2)*(x1 - x2)))) - y1*((x1 - x2)*(x1 - x2)*(x1 - x2))):=by
  have e2:b=y1*y1 - x1*x1*x1+3*x1:=by clear hk h2; grind
  have e3:y2*y2=x2*x2*x2 - 3*x2+(y1*y1 - x1*x1*x1+3*x1):=by rw [← e2]; exact h2
  clear h1 h2 hk
  subst e2
  unfold sz
  grind
 rw [e1,hk]
 clear e1 h1 h2 hk
 grind
theorem s_opp (x y:Fin n) (b:Fin n):sx b x y 1 x (0 - y) 1=0∧sz b x y 1 x (0 - y) 1=0:=by
 unfold sx sz
 exact ⟨by grind,by grind⟩
theorem s_opp_y (x y m:Fin n) (hm:3*(x*x) - 3=m*(y+y)) :
  sy (y*y - x*x*x+3*x) x y 1 x (0 - y) 1=8*((m*(x - (m*m - x - x)) - y)*(y*y*y)):=by
 have e1:sy (y*y - x*x*x+3*x) x y 1 x (0 - y) 1=(3*(x*x) - 3)*(12*x*(y*y) - (3*(x*x) - 3)*(3*(x*x) - 3)) - 8*(y*y*(y*y)):=by
  clear hm; unfold sy; grind
 rw [e1,hm]
 clear e1 hm
 grind
variable {b:Fin n}
theorem Fine.eight (h:Fine b) {a:Fin n} (ha:a≠0):8*a≠0:=by
 have h2:=h.two
 intro e
 have e1:2*(2*(2*a))=0:=by clear ha h2; grind
 rcases mul_zero_cases h.prime e1 with e | e
 ·exact h2 e
 ·rcases mul_zero_cases h.prime e with e | e
  ·exact h2 e
  ·rcases mul_zero_cases h.prime e with e | e
   ·exact h2 e
   ·exact ha e
theorem one_ne (h:Fine b):(1:Fin n)≠0:=by
 intro e
 have hb:=h.big
 rw [Fin.ext_iff,Fin.val_zero] at e
 have e1:(1:Fin n).val=1 % n:=rfl
 rw [e1,Nat.mod_eq_of_lt (by omega)] at e
 omega
theorem s_core (h:Fine b) {x1 y1 x2 y2 l:Fin n} (h1:OnC b (.pt x1 y1)) (h2:OnC b (.pt x2 y2)) (hn:¬ (x1=x2∧y1=0 - y2)) (hl:Slope x1 y1 x2 y2 l) :
  sz b x1 y1 1 x2 y2 1≠0∧sx b x1 y1 1 x2 y2 1=(l*l - x1 - x2)*sz b x1 y1 1 x2 y2 1 ∧
   sy b x1 y1 1 x2 y2 1=(l*(x1 - (l*l - x1 - x2)) - y1)*sz b x1 y1 1 x2 y2 1:=by
 refine ⟨?_,?_⟩
 ·by_cases hx:x1=x2
  ·subst hx
   obtain rfl:=opp_or_same h h1 h2 (fun e=>hn ⟨rfl,e⟩)
   rw [b_of h1,s_tangent]
   have hy:=h.y_ne h1
   exact h.eight (mul_ne_zero h.prime (mul_ne_zero h.prime hy hy) hy)
  ·have h2':=pneg_on (p:=.pt x2 y2) h2
   have hk:=chord_slope h h1 h2' hx
   have hd:x1 - x2≠0:=sub_ne (fun e=>hx e.symm)
   generalize hkk:(0 - y2 - y1)*finv (x2 - x1)=k at hk
   have hl2:y1+y2=k*(x1 - x2):=by rw [← hk.line]; clear hk hl h1 h2 h2' hkk; grind
   rw [id_sz x1 y1 x2 y2 k b h1 h2 hl2]
   have h6:=third_on h1 hk
   have hy6:=h.y_ne h6
   intro e0
   have e1:(k*(x1 - (k*k - x1 - x2)) - y1)*((x1 - x2)*(x1 - x2)*(x1 - x2))=0:=by
    generalize (k*(x1 - (k*k - x1 - x2)) - y1)*((x1 - x2)*(x1 - x2)*(x1 - x2))=T at e0
    clear hl2 hk hl h1 h2 h2' hkk h6 hy6; grind
   exact mul_ne_zero h.prime hy6 (mul_ne_zero h.prime (mul_ne_zero h.prime hd hd) hd) e1
 ·have c:=hl.conic
  obtain rfl:=of_line' hl.line
  rw [b_of h1]
  exact ⟨lc1 c (id_sx x1 y1 x2 l),lc1 c (id_sy x1 y1 x2 l)⟩
theorem rep_add (h:Fine b) {t u:Tri n} {p q:Pt n} (hp:OnC b p) (hq:OnC b q) (ht:Rep t p) (hu:Rep u q):Rep (tadd b t u) (padd p q):=by
 obtain ⟨X1,Y1,Z1⟩:=t
 obtain ⟨X2,Y2,Z2⟩:=u
 cases p with
 | far =>
  obtain ⟨tx,ty,tz⟩:=ht
  simp only at tx ty tz
  subst tx tz
  obtain ⟨ex,ey,ez⟩:=s_farl b Y1 X2 Y2 Z2
  rw [far_padd]
  cases q with
  | far =>
   obtain ⟨ux,uy,uz⟩:=hu
   simp only at ux uy uz
   refine ⟨?_,?_,?_⟩
   ·show sx b 0 Y1 0 X2 Y2 Z2=0
    rw [ex,ux]; exact Fin.mul_zero _
   ·show sy b 0 Y1 0 X2 Y2 Z2≠0
    rw [ey]; exact mul_ne_zero h.prime (mul_ne_zero h.prime (mul_ne_zero h.prime ty ty) uy) uy
   ·show sz b 0 Y1 0 X2 Y2 Z2=0
    rw [ez,uz]; exact Fin.mul_zero _
  | pt x2 y2 =>
   obtain ⟨uz,ux,uy⟩:=hu
   simp only at ux uy uz
   have hy:=mul_ne_zero h.prime (h.y_ne hq) uz
   rw [← uy] at hy
   have hk:=mul_ne_zero h.prime (mul_ne_zero h.prime ty ty) hy
   refine ⟨?_,?_,?_⟩
   ·show sz b 0 Y1 0 X2 Y2 Z2≠0
    rw [ez]; exact mul_ne_zero h.prime hk uz
   ·show sx b 0 Y1 0 X2 Y2 Z2=x2*sz b 0 Y1 0 X2 Y2 Z2
    rw [ex,ez,ux,fmul_left_comm]
   ·show sy b 0 Y1 0 X2 Y2 Z2=y2*sz b 0 Y1 0 X2 Y2 Z2
    rw [ey,ez,fmul_left_comm,← uy]
 | pt x1 y1 =>
  obtain ⟨tz,tx,ty⟩:=ht
  simp only at tx ty tz
  cases q with
  | far =>
   obtain ⟨ux,uy,uz⟩:=hu
   simp only at ux uy uz
   subst ux uz
   obtain ⟨ex,ey,ez⟩:=s_farr b X1 Y1 Z1 Y2
   rw [padd_far]
   have hy:=mul_ne_zero h.prime (h.y_ne hp) tz
   rw [← ty] at hy
   have hk:=mul_ne_zero h.prime (mul_ne_zero h.prime uy uy) hy
   refine ⟨?_,?_,?_⟩
   ·show sz b X1 Y1 Z1 0 Y2 0≠0
    rw [ez]; exact mul_ne_zero h.prime hk tz
   ·show sx b X1 Y1 Z1 0 Y2 0=x1*sz b X1 Y1 Z1 0 Y2 0
    rw [ex,ez,tx,fmul_left_comm]
   ·show sy b X1 Y1 Z1 0 Y2 0=y1*sz b X1 Y1 Z1 0 Y2 0
    rw [ey,ez,fmul_left_comm,← ty]
  | pt x2 y2 =>
   obtain ⟨uz,ux,uy⟩:=hu
   simp only at ux uy uz
   subst tx ty ux uy
   obtain ⟨ex,ey,ez⟩:=s_scale b x1 y1 Z1 x2 y2 Z2
   have hk:=mul_ne_zero h.prime (mul_ne_zero h.prime tz tz) (mul_ne_zero h.prime uz uz)
   by_cases hn:x1=x2∧y1=0 - y2
   ·obtain ⟨rfl,e⟩:=hn
    rw [padd_opposite h hp e]
    have e':y2=0 - y1:=neg_swap e
    subst e'
    obtain ⟨ox,oz⟩:=s_opp x1 y1 b
    refine ⟨?_,?_,?_⟩
    ·show sx b (x1*Z1) (y1*Z1) Z1 (x1*Z2) ((0 - y1)*Z2) Z2=0
     rw [ex,ox]; exact Fin.mul_zero _
    ·show sy b (x1*Z1) (y1*Z1) Z1 (x1*Z2) ((0 - y1)*Z2) Z2≠0
     rw [ey]
     refine mul_ne_zero h.prime hk ?_
     have hm:=tangent_slope h hp
     have hy:=h.y_ne hp
     have h6:=h.y_ne (third_on hp hm)
     generalize (3*(x1*x1) - 3)*finv (y1+y1)=m at hm h6
     have hc:3*(x1*x1) - 3=m*(y1+y1):=by rw [hm.conic]; clear hm h6 ex ey ez ox oz; grind
     rw [b_of hp,s_opp_y x1 y1 m hc]
     exact h.eight (mul_ne_zero h.prime h6 (mul_ne_zero h.prime (mul_ne_zero h.prime hy hy) hy))
    ·show sz b (x1*Z1) (y1*Z1) Z1 (x1*Z2) ((0 - y1)*Z2) Z2=0
     rw [ez,oz]; exact Fin.mul_zero _
   ·obtain ⟨l,hl⟩:=slope_exists h hp hq hn
    rw [padd_slope h hp hq hn hl]
    obtain ⟨cz,cx,cy⟩:=s_core h hp hq hn hl
    refine ⟨?_,?_,?_⟩
    ·show sz b (x1*Z1) (y1*Z1) Z1 (x2*Z2) (y2*Z2) Z2≠0
     rw [ez]; exact mul_ne_zero h.prime hk cz
    ·show sx b (x1*Z1) (y1*Z1) Z1 (x2*Z2) (y2*Z2) Z2=(l*l - x1 - x2)*sz b (x1*Z1) (y1*Z1) Z1 (x2*Z2) (y2*Z2) Z2
     rw [ex,ez,cx,fmul_left_comm]
    ·show sy b (x1*Z1) (y1*Z1) Z1 (x2*Z2) (y2*Z2) Z2=(l*(x1 - (l*l - x1 - x2)) - y1)*sz b (x1*Z1) (y1*Z1) Z1 (x2*Z2) (y2*Z2) Z2
     rw [ey,ez,cy,fmul_left_comm]
theorem rep_dbl (h:Fine b) {t:Tri n} {p:Pt n} (hp:OnC b p) (ht:Rep t p):Rep (tdbl b t) (padd p p):=by
 have e:tdbl b t=tadd b t t:=by
  unfold tdbl tadd
  congr 1
  obtain ⟨X,Y,Z⟩:=t
  cases p with
  | far =>
   obtain ⟨tx,ty,tz⟩:=ht
   simp only at tx ty tz
   subst tx tz
   rw [(s_farl b Y 0 Y 0).2.2,Fin.mul_zero,Fin.mul_zero]
  | pt x y =>
   obtain ⟨tz,tx,ty⟩:=ht
   simp only at tx ty tz
   subst tx ty
   rw [(s_scale b x y Z x y Z).2.2,b_of hp,s_tangent]
   clear tz h hp
   grind
 rw [e]
 exact rep_add h hp hp ht ht
theorem Rep.unique (h:Fine b) {t:Tri n} {p q:Pt n} (hp:Rep t p) (hq:Rep t q):p=q:=by
 cases p with
 | far =>
  cases q with
  | far=>rfl
  | pt x y=>exact absurd hp.2.2 hq.1
 | pt x y =>
  cases q with
  | far=>exact absurd hq.2.2 hp.1
  | pt x' y' =>
   obtain ⟨hz,hx,hy⟩:=hp
   obtain ⟨_,hx',hy'⟩:=hq
   congr 1
   ·refine mul_left_cancel0 h.prime hz ?_
    rw [Fin.mul_comm,← hx,hx',Fin.mul_comm]
   ·refine mul_left_cancel0 h.prime hz ?_
    rw [Fin.mul_comm,← hy,hy',Fin.mul_comm]
end
end P224
/- P-224: no point has the second coordinate 0 (the cubic has no root), so that the laws of the group hold; multiples; so often as there are points the base point is the one that is infinitely far. -/
namespace P224
section
variable {n:Nat} [NeZero n]
abbrev fi (n:Nat) [NeZero n] (a:Nat):Fin n:=Fin.ofNat n a
theorem fi_val (a:Nat):(fi n a).val=a % n:=rfl
theorem fi_mod (a:Nat):fi n (a % n)=fi n a:=by rw [Fin.ext_iff,fi_val,fi_val,Nat.mod_mod]
theorem fi_add (a c:Nat):fi n (a+c)=fi n a+fi n c:=by rw [Fin.ext_iff,fi_val,Fin.val_add,fi_val,fi_val,← Nat.add_mod]
theorem fi_mul (a c:Nat):fi n (a*c)=fi n a*fi n c:=by rw [Fin.ext_iff,fi_val,Fin.val_mul,fi_val,fi_val,← Nat.mul_mod]
theorem fi_self (a:Fin n):fi n a.val=a:=by rw [Fin.ext_iff,fi_val,Nat.mod_eq_of_lt a.isLt]
theorem fi_n:fi n n=0:=by rw [Fin.ext_iff,fi_val,Nat.mod_self,Fin.val_zero]
theorem fi_eq {a c:Nat}:fi n a=fi n c↔a % n=c % n:=by rw [Fin.ext_iff,fi_val,fi_val]
theorem fi_sub {a c:Nat} (h:c≤n):fi n (a+(n - c))=fi n a - fi n c:=by
 have h1:fi n (n - c)+fi n c=0:=by rw [← fi_add,Nat.sub_add_cancel h,fi_n]
 rw [fi_add]
 grind
def fpow (a:Fin n) (e:Nat):Fin n:=fi n (a.val ^ e)
theorem fpow_zero (a:Fin n):fpow a 0=1:=rfl
theorem fpow_succ (a:Fin n) (e:Nat):fpow a (e+1)=fpow a e*a:=by
 unfold fpow; rw [Nat.pow_succ,fi_mul,fi_self]
theorem fpow_one (a:Fin n):fpow a 1=a:=by rw [fpow_succ,fpow_zero]; grind
theorem fpow_add (a:Fin n) (e f:Nat):fpow a (e+f)=fpow a e*fpow a f:=by
 unfold fpow; rw [Nat.pow_add,fi_mul]
theorem fpow_mul (a:Fin n) (e f:Nat):fpow a (e*f)=fpow (fpow a e) f:=by
 unfold fpow; rw [Nat.pow_mul,fi_val,fi_eq,← Nat.pow_mod]
theorem zero_fpow {e:Nat} (h:0<e):fpow (0:Fin n) e=0:=by
 obtain ⟨k,rfl⟩:∃ k,e=k+1:=⟨e - 1,by omega⟩
 rw [fpow_succ,Fin.mul_zero]
theorem fermat_fin (hp:IsPrime n) {a:Fin n} (ha:a≠0):fpow a (n - 1)=1:=by
 have h:=fermat hp (fun hd=>ha (fin_eq_zero.2 hd))
 have h2:=hp.1
 unfold fpow
 rw [Fin.ext_iff,fi_val,h]
 exact (Nat.mod_eq_of_lt (show 1<n by omega)).symm
theorem fpow_n (hp:IsPrime n) (a:Fin n):fpow a n=a:=by
 have h2:=hp.1
 by_cases ha:a=0
 ·rw [ha,zero_fpow hp.pos]
 ·have:n=(n - 1)+1:=by omega
  have e:fpow a n=fpow a ((n - 1)+1):=by rw [← this]
  rw [e,fpow_succ,fermat_fin hp ha]; exact Fin.one_mul a
def pev (r:Fin n) (a:Nat × Nat × Nat):Fin n:=fi n a.1+fi n a.2.1*r+fi n a.2.2*(r*r)
def pmul (n c:Nat) (a d:Nat × Nat × Nat):Nat × Nat × Nat :=
 ((a.1*d.1+c*(a.2.1*d.2.2+a.2.2*d.2.1)) % n,
  (a.1*d.2.1+a.2.1*d.1+c*(a.2.2*d.2.2)+3*(a.2.1*d.2.2+a.2.2*d.2.1)) % n,
  (a.1*d.2.2+a.2.1*d.2.1+a.2.2*d.1+3*(a.2.2*d.2.2)) % n)
theorem fi_three:fi n 3=3:=rfl
theorem pev_mul {r:Fin n} {c:Nat} (h:r*r*r=3*r+fi n c) (a d:Nat × Nat × Nat):pev r (pmul n c a d)=pev r a*pev r d:=by
 obtain ⟨a0,a1,a2⟩:=a
 obtain ⟨d0,d1,d2⟩:=d
 simp only [pev,pmul,fi_mod,fi_add,fi_mul,fi_three]
 generalize fi n a0=a0' at *
 generalize fi n a1=a1' at *
 generalize fi n a2=a2' at *
 generalize fi n d0=d0' at *
 generalize fi n d1=d1' at *
 generalize fi n d2=d2' at *
 generalize fi n c=c' at *
 have e:(a0'+a1'*r+a2'*(r*r))*(d0'+d1'*r+d2'*(r*r)) =
   a0'*d0'+(a0'*d1'+a1'*d0')*r+(a0'*d2'+a1'*d1'+a2'*d0')*(r*r)+(a1'*d2'+a2'*d1')*(r*r*r)+a2'*d2'*r*(r*r*r):=by clear h; grind
 rw [e,h]
 clear e h
 grind
def ppow (n c:Nat):Nat→Nat × Nat × Nat→Nat→Nat × Nat × Nat→Nat × Nat × Nat
 | 0,_,_,acc=>acc
 | f+1,a,e,acc=>ppow n c f (pmul n c a a) (e / 2) (bif e % 2 == 1 then pmul n c acc a else acc)
theorem fpow_half (a:Fin n) (e:Nat):fpow a e=fpow (a*a) (e / 2)*fpow a (e % 2):=by
 have h:e=2*(e / 2)+e % 2:=by omega
 have h1:fpow a e=fpow a (2*(e / 2)+e % 2):=by rw [← h]
 rw [h1,fpow_add,fpow_mul,fpow_succ,fpow_one]
theorem pev_ppow {r:Fin n} {c:Nat} (h:r*r*r=3*r+fi n c):∀ f a e acc,e<2 ^ f→pev r (ppow n c f a e acc)=pev r acc*fpow (pev r a) e
 | 0,a,e,acc,he=>by
  have:e=0:=by simpa using he
  subst this
  rw [ppow,fpow_zero,Fin.mul_one]
 | f+1,a,e,acc,he=>by
  have hlt:e / 2<2 ^ f:=by rw [Nat.pow_succ] at he; omega
  rw [ppow,pev_ppow h f _ _ _ hlt,pev_mul h,fpow_half (pev r a) e]
  rcases Nat.mod_two_eq_zero_or_one e with h0 | h1
  ·rw [h0,show ((0:Nat) == 1)=false from rfl,cond_false,fpow_zero,Fin.mul_one]
  ·rw [h1,show ((1:Nat) == 1)=true from rfl,cond_true,pev_mul h,fpow_one,Fin.mul_assoc,Fin.mul_comm (pev r a)]
theorem no_root (hp:IsPrime n) {c:Nat} {g u v:Nat × Nat × Nat} (f:Nat) (hf:n<2 ^ f)
  (hg:ppow n c f (0,1,0) n (1,0,0)=g)
  (huv:pmul n c v (g.1,g.2.1+(n - 1),g.2.2)=u) (hu:u=(1 % n,0,0)) (r:Fin n):r*r*r≠3*r+fi n c:=by
 intro h
 have h2:=hp.1
 have e1:=pev_ppow h f (0,1,0) n (1,0,0) hf
 have ex:pev r (0,1,0)=r:=by
  show fi n 0+fi n 1*r+fi n 0*(r*r)=r
  have z:fi n 0=0:=rfl
  have o:fi n 1=1:=rfl
  rw [z,o]; clear e1 h; grind
 have eo:pev r (1,0,0)=1:=by
  show fi n 1+fi n 0*r+fi n 0*(r*r)=1
  have z:fi n 0=0:=rfl
  have o:fi n 1=1:=rfl
  rw [z,o]; clear e1 h ex; grind
 rw [hg,ex,eo,fpow_n hp,Fin.one_mul] at e1
 have e2:=pev_mul h v (g.1,g.2.1+(n - 1),g.2.2)
 rw [huv,hu] at e2
 have e3:pev r (g.1,g.2.1+(n - 1),g.2.2)=0:=by
  show fi n g.1+fi n (g.2.1+(n - 1))*r+fi n g.2.2*(r*r)=0
  rw [fi_sub (by omega)]
  have o:fi n 1=1:=rfl
  have e1':fi n g.1+fi n g.2.1*r+fi n g.2.2*(r*r)=r:=e1
  rw [o]
  generalize fi n g.1=a at *
  generalize fi n g.2.1=a' at *
  generalize fi n g.2.2=a'' at *
  clear e2 e1 ex eo h
  grind
 rw [e3,Fin.mul_zero] at e2
 have e4:pev r (1 % n,0,0)=1:=by
  show fi n (1 % n)+fi n 0*r+fi n 0*(r*r)=1
  have z:fi n 0=0:=rfl
  have o:fi n 1=1:=rfl
  rw [fi_mod,z,o]; clear e1 h ex eo e2 e3; grind
 rw [e4] at e2
 have e5:(1:Fin n).val=0:=by rw [e2]; rfl
 have e6:(1:Fin n).val=1 % n:=rfl
 rw [e6,Nat.mod_eq_of_lt (by omega)] at e5
 omega
end
instance:NeZero pp:=⟨by decide +kernel⟩
theorem pp_big:3<pp:=by decide +kernel
def bN:Nat:=18958286285566608000408668544493926415504680968679321075787234672564
def bb:Fin pp:=fi pp bN
theorem bN_neg:fi pp (pp - bN)=0 - bb:=by
 have:=fi_sub (n:=pp) (a:=0) (c:=bN) (by decide +kernel)
 rw [Nat.zero_add] at this
 exact this
set_option maxRecDepth 100000 in
theorem fine:Fine bb:=by
 refine ⟨prime_pp,pp_big,fun x hx=>?_⟩
 have h:=no_root (n:=pp) prime_pp (c:=pp - bN)
  (g:=(13007951209251912699848910225737052564727108533249858001778075138108,6736638939299569244310158594083072418848545257754494280867682426394,20455971062524683444742559974151104391194361993401379142621028729827))
  (u:=(1,0,0)) (v:=(1261710631285627074303005901530361786216288604486499842249704943048,4447412785031720342771701563499662000791675740805516550464163634437,9439789507511725786058244597052783711805086828869674293526675889612)) 225
  (by decide +kernel) (by decide +kernel) (by decide +kernel) (by decide +kernel) x
 rw [bN_neg] at h
 refine h ?_
 unfold rhs at hx
 generalize bb=b at *
 clear h
 grind
#print axioms fine
end P224
/- Multiples of points; so often as there are points, each point of P-224 is the one that is infinitely far. -/
namespace P224
section
variable {n:Nat} [NeZero n] {b:Fin n}
def nsmul:Nat→Pt n→Pt n
 | 0,_=>.far
 | k+1,p=>padd (nsmul k p) p
theorem nsmul_on (h:Fine b) {p:Pt n} (hp:OnC b p):∀ k,OnC b (nsmul k p)
 | 0=>trivial
 | k+1=>padd_on h (nsmul_on h hp k) hp
theorem nsmul_one (p:Pt n):nsmul 1 p=p:=far_padd p
theorem nsmul_far:∀ k,nsmul k (.far:Pt n)=.far
 | 0=>rfl
 | k+1=>by rw [nsmul,nsmul_far k]; rfl
theorem nsmul_add (h:Fine b) {p:Pt n} (hp:OnC b p) (j:Nat):∀ k,nsmul (j+k) p=padd (nsmul j p) (nsmul k p)
 | 0=>by rw [nsmul,padd_far]; rfl
 | k+1=>by
  show padd (nsmul (j+k) p) p=padd (nsmul j p) (padd (nsmul k p) p)
  rw [nsmul_add h hp j k,padd_assoc h (nsmul_on h hp j) (nsmul_on h hp k) hp]
theorem nsmul_mul (h:Fine b) {p:Pt n} (hp:OnC b p) (j:Nat):∀ k,nsmul (j*k) p=nsmul k (nsmul j p)
 | 0=>rfl
 | k+1=>by rw [Nat.mul_succ,nsmul_add h hp,nsmul_mul h hp j k]; rfl
theorem nsmul_two (h:Fine b) {p:Pt n} (hp:OnC b p) (k:Nat):nsmul (2*k) p=padd (nsmul k p) (nsmul k p):=by
 rw [Nat.two_mul,nsmul_add h hp]
theorem padd_swap (h:Fine b) {p q r s:Pt n} (hp:OnC b p) (hq:OnC b q) (hr:OnC b r) (hs:OnC b s) :
  padd (padd p q) (padd r s)=padd (padd p r) (padd q s):=by
 rw [padd_assoc h hp hq (padd_on h hr hs),← padd_assoc h hq hr hs,padd_comm h hq hr,padd_assoc h hr hq hs,← padd_assoc h hp hr (padd_on h hq hs)]
theorem nsmul_turn (h:Fine b) {p:Pt n} (hp:OnC b p) (j k:Nat):nsmul j (nsmul k p)=nsmul k (nsmul j p):=by
 rw [← nsmul_mul h hp,← nsmul_mul h hp,Nat.mul_comm]
theorem padd_left_cancel (h:Fine b) {p q r:Pt n} (hp:OnC b p) (hq:OnC b q) (hr:OnC b r) (e:padd p q=padd p r):q=r:=by
 have e1:=padd_cancel h hq hp
 have e2:=padd_cancel h hr hp
 rw [padd_comm h hq hp,e,padd_comm h hp hr,e2] at e1
 exact e1.symm
def subr (n a c:Nat):Nat:=a+(n - c % n)
def sxN (n b X1 Y1 Z1 X2 Y2 Z2:Nat):Nat :=
 subr n ((X1*Y2+X2*Y1)*subr n (Y1*Y2+3*(X1*Z2+X2*Z1)) (3*b*Z1*Z2))
  ((Y1*Z2+Y2*Z1)*subr n (subr n (3*b*(X1*Z2+X2*Z1)) (3*X1*X2)) (9*Z1*Z2)) % n
def syN (n b X1 Y1 Z1 X2 Y2 Z2:Nat):Nat :=
 (subr n (3*X1*X2) (3*Z1*Z2)*subr n (subr n (3*b*(X1*Z2+X2*Z1)) (3*X1*X2)) (9*Z1*Z2) +
  (subr n (Y1*Y2) (3*(X1*Z2+X2*Z1))+3*b*Z1*Z2)*subr n (Y1*Y2+3*(X1*Z2+X2*Z1)) (3*b*Z1*Z2)) % n
def szN (n b X1 Y1 Z1 X2 Y2 Z2:Nat):Nat :=
 ((Y1*Z2+Y2*Z1)*(subr n (Y1*Y2) (3*(X1*Z2+X2*Z1))+3*b*Z1*Z2)+(X1*Y2+X2*Y1)*subr n (3*X1*X2) (3*Z1*Z2)) % n
theorem fi_subr (a c:Nat):fi n (subr n a c)=fi n a - fi n c:=by
 have hn:0<n:=Nat.pos_of_ne_zero (NeZero.ne n)
 rw [subr,fi_sub (Nat.le_of_lt (Nat.mod_lt _ hn)),fi_mod]
theorem fi_nine:fi n 9=9:=rfl
theorem fi_sxN (bb X1 Y1 Z1 X2 Y2 Z2:Nat):fi n (sxN n bb X1 Y1 Z1 X2 Y2 Z2)=sx (fi n bb) (fi n X1) (fi n Y1) (fi n Z1) (fi n X2) (fi n Y2) (fi n Z2):=by
 simp only [sxN,fi_mod,fi_subr,fi_mul,fi_add,fi_three,fi_nine,sx]
theorem fi_syN (bb X1 Y1 Z1 X2 Y2 Z2:Nat):fi n (syN n bb X1 Y1 Z1 X2 Y2 Z2)=sy (fi n bb) (fi n X1) (fi n Y1) (fi n Z1) (fi n X2) (fi n Y2) (fi n Z2):=by
 simp only [syN,fi_mod,fi_subr,fi_mul,fi_add,fi_three,fi_nine,sy]
theorem fi_szN (bb X1 Y1 Z1 X2 Y2 Z2:Nat):fi n (szN n bb X1 Y1 Z1 X2 Y2 Z2)=sz (fi n bb) (fi n X1) (fi n Y1) (fi n Z1) (fi n X2) (fi n Y2) (fi n Z2):=by
 simp only [szN,fi_mod,fi_subr,fi_mul,fi_add,fi_three,sz]
abbrev T3:=Nat × Nat × Nat
def taddN (n b:Nat) (t u:T3):T3:=(sxN n b t.1 t.2.1 t.2.2 u.1 u.2.1 u.2.2,syN n b t.1 t.2.1 t.2.2 u.1 u.2.1 u.2.2,szN n b t.1 t.2.1 t.2.2 u.1 u.2.1 u.2.2)
def toTri (n:Nat) [NeZero n] (t:T3):Tri n:=⟨fi n t.1,fi n t.2.1,fi n t.2.2⟩
theorem rep_addN (h:Fine b) {bb:Nat} (hb:b=fi n bb) {t u:T3} {p q:Pt n} (hp:OnC b p) (hq:OnC b q) (ht:Rep (toTri n t) p) (hu:Rep (toTri n u) q) :
  Rep (toTri n (taddN n bb t u)) (padd p q):=by
 have:=rep_add h hp hq ht hu
 have e:toTri n (taddN n bb t u)=tadd b (toTri n t) (toTri n u):=by
  subst hb
  simp only [toTri,taddN,tadd,fi_sxN,fi_syN,fi_szN]
 rw [e]; exact this
def powN (n b:Nat):Nat→T3→Nat→T3→T3
 | 0,_,_,acc=>acc
 | f+1,a,e,acc=>powN n b f (taddN n b a a) (e / 2) (bif e % 2 == 1 then taddN n b acc a else acc)
theorem nsmul_half (h:Fine b) {p:Pt n} (hp:OnC b p) (e:Nat):nsmul e p=padd (nsmul (e % 2) p) (nsmul (e / 2) (padd p p)):=by
 have h1:nsmul e p=nsmul (e % 2+2*(e / 2)) p:=by rw [Nat.mod_add_div]
 have h2:padd p p=nsmul 2 p:=by show _=padd (padd .far p) p; rw [far_padd]
 rw [h1,nsmul_add h hp,h2,nsmul_mul h hp]
theorem rep_powN (h:Fine b) {bb:Nat} (hb:b=fi n bb):∀ f {a acc:T3} {p q:Pt n} (e:Nat),e<2 ^ f→OnC b p→OnC b q→Rep (toTri n a) p→Rep (toTri n acc) q →
  Rep (toTri n (powN n bb f a e acc)) (padd q (nsmul e p))
 | 0,a,acc,p,q,e,he,_,_,_,hr=>by
  have:e=0:=by simpa using he
  subst this
  rw [powN,nsmul,padd_far]; exact hr
 | f+1,a,acc,p,q,e,he,hp,hq,ha,hr=>by
  have hlt:e / 2<2 ^ f:=by rw [Nat.pow_succ] at he; omega
  have h2:=rep_addN h hb hp hp ha ha
  have hpp:=padd_on h hp hp
  rw [powN,nsmul_half h hp e]
  rcases Nat.mod_two_eq_zero_or_one e with h0 | h1
  ·rw [h0,show ((0:Nat) == 1)=false from rfl,cond_false,nsmul,far_padd]
   exact rep_powN h hb f (e / 2) hlt hpp hq h2 hr
  ·rw [h1,show ((1:Nat) == 1)=true from rfl,cond_true,nsmul_one,← padd_assoc h hq hp (nsmul_on h hpp _)]
   exact rep_powN h hb f (e / 2) hlt hpp (padd_on h hq hp) h2 (rep_addN h hb hq hp hr ha)
theorem rep_one (h:Fine b) (x y:Nat):Rep (toTri n (x,y,1)) (.pt (fi n x) (fi n y)) :=
 ⟨one_ne h,(Fin.mul_one _).symm,(Fin.mul_one _).symm⟩
theorem rep_zero (h:Fine b):Rep (toTri n (0,1,0)) .far:=⟨rfl,one_ne h,rfl⟩
theorem length_le_of_nodup:∀ (l m:List Nat),l.Nodup→(∀ x ∈ l,x ∈ m)→l.length≤m.length
 | [],m,_,_=>by simp
 | a :: l,m,hn,hs=>by
  have ha:a ∈ m:=hs a (by simp)
  have hn':=List.nodup_cons.1 hn
  have h1:=(List.perm_cons_erase ha).length_eq
  have:=length_le_of_nodup l (m.erase a) hn'.2 (fun x hx=>by
   have hne:x≠a:=fun e=>hn'.1 (e ▸ hx)
   exact (List.mem_erase_of_ne hne).2 (hs x (by simp [hx])))
  simp only [List.length_cons] at *
  omega
theorem inj_bound {K M:Nat} (f:Nat→Nat) (hf:∀ i,i<K→f i<M) (hi:∀ i j,i<K→j<K→f i=f j→i=j):K≤M:=by
 have:=length_le_of_nodup ((List.range K).map f) (List.range M)
  (List.pairwise_map.2 (List.Pairwise.imp_of_mem (fun {x y} hx hy hxy he=>hxy (hi x y (List.mem_range.1 hx) (List.mem_range.1 hy) he)) List.nodup_range))
  (fun x hx=>by
   obtain ⟨i,hi,rfl⟩:=List.mem_map.1 hx
   exact List.mem_range.2 (hf i (List.mem_range.1 hi)))
 simpa using this
def code:Pt n→Nat
 | .far=>2*n
 | .pt x y=>2*x.val+(if y.val≤(0 - y).val then 0 else 1)
theorem code_lt (p:Pt n):code p<2*n+1:=by
 cases p with
 | far=>simp [code]
 | pt x y =>
  have:=x.isLt
  simp only [code]
  split <;> omega
theorem code_inj (h:Fine b) {p q:Pt n} (hp:OnC b p) (hq:OnC b q) (e:code p=code q):p=q:=by
 cases p with
 | far =>
  cases q with
  | far=>rfl
  | pt x y =>
   have:=x.isLt
   simp only [code] at e
   split at e <;> omega
 | pt x y =>
  cases q with
  | far =>
   have:=x.isLt
   simp only [code] at e
   split at e <;> omega
  | pt x' y' =>
   simp only [code] at e
   have hx:x=x':=by
    rw [Fin.ext_iff]
    split at e <;> split at e <;> omega
   subst hx
   by_cases hn:y=0 - y'
   ·by_cases hy:y=y'
    ·rw [hy]
    ·exfalso
     have hn':y'=0 - y:=neg_swap hn
     rw [← hn,← hn'] at e
     have hne:y.val≠y'.val:=fun e=>hy (Fin.ext e)
     split at e <;> split at e <;> omega
   ·rw [opp_or_same h hp hq hn]
theorem order_all (h:Fine b) {g p:Pt n} {m:Nat} (hg:OnC b g) (hp:OnC b p) (hm:IsPrime m) (hm2:m≠2) (hgm:nsmul m g=.far) (hg0:g≠.far) (hbig:2*n+1<3*m) :
  nsmul m p=.far:=by
 have hmp:=hm.pos
 have hneg:∀ i,i≤m→nsmul (m - i) g=pneg (nsmul i g):=fun i hi=>by
  have:=nsmul_add h hg i (m - i)
  rw [Nat.add_sub_cancel' hi,hgm] at this
  exact eq_neg_of_padd h (nsmul_on h hg _) (nsmul_on h hg _) this.symm
 have hgmul:∀ k,nsmul k g=nsmul (k % m) g:=fun k=>by
  have e:nsmul k g=nsmul (m*(k / m)+k % m) g:=by rw [Nat.div_add_mod]
  rw [e,nsmul_add h hg,nsmul_mul h hg,hgm,nsmul_far,far_padd]
 have hz:∀ k,nsmul k g=.far→m ∣ k:=fun k hk=>by
  have key:∀ a c:Nat,nsmul a g=.far→nsmul c g=.far→nsmul (Nat.gcd a c) g=.far:=by
   intro a c
   induction a,c using Nat.gcd.induction with
   | H0 c=>intro _ hc; simpa using hc
   | H1 a c _ ih =>
    intro ha hc
    rw [Nat.gcd_rec]
    refine ih ?_ ha
    have e:nsmul c g=nsmul (a*(c / a)+c % a) g:=by rw [Nat.div_add_mod]
    rw [e,nsmul_add h hg,nsmul_mul h hg,ha,nsmul_far,far_padd] at hc
    exact hc
  have e:=key m k hgm hk
  rcases hm.2 _ (Nat.gcd_dvd_left m k) with e1 | e1
  ·rw [e1,nsmul_one] at e; exact absurd e hg0
  ·exact e1 ▸ Nat.gcd_dvd_right m k
 have hinj:∀ i j,i<m→j<m→nsmul i g=nsmul j g→i=j:=by
  have half:∀ i j,i≤j→j<m→nsmul i g=nsmul j g→i=j:=fun i j hij hj e=>by
   have e1:nsmul j g=padd (nsmul i g) (nsmul (j - i) g):=by rw [← nsmul_add h hg,Nat.add_sub_cancel' hij]
   rw [e] at e1
   have e2:padd (nsmul j g) .far=padd (nsmul j g) (nsmul (j - i) g):=by rw [padd_far]; exact e1
   have e3:=padd_left_cancel h (nsmul_on h hg j) (show OnC b .far from trivial) (nsmul_on h hg _) e2
   rcases Nat.eq_zero_or_pos (j - i) with e5 | e5
   ·omega
   ·have:=Nat.le_of_dvd e5 (hz _ e3.symm); omega
  intro i j hi hj e
  rcases Nat.le_total i j with hij | hij
  ·exact half i j hij hj e
  ·exact (half j i hij hi e.symm).symm
 by_cases hin:∃ k,p=nsmul k g
 ·obtain ⟨k,rfl⟩:=hin
  rw [nsmul_turn h hg,hgm,nsmul_far]
 by_cases h2:∃ k,padd p p=nsmul k g
 ·exfalso
  obtain ⟨k,hk⟩:=h2
  obtain ⟨j,hj⟩:∃ j,nsmul k g=nsmul (2*j) g:=by
   rcases Nat.mod_two_eq_zero_or_one k with h0 | h1
   ·exact ⟨k / 2,by rw [show 2*(k / 2)=k by omega]⟩
   ·have hodd:m % 2=1:=by
     rcases Nat.mod_two_eq_zero_or_one m with h0 | h0
     ·rcases hm.2 2 (Nat.dvd_of_mod_eq_zero h0) with e | e <;> omega
     ·exact h0
    refine ⟨(k+m) / 2,?_⟩
    rw [show 2*((k+m) / 2)=k+m by omega,nsmul_add h hg,hgm,padd_far]
  have hon:=nsmul_on h hg j
  rw [hj,nsmul_two h hg] at hk
  have hq:=padd_on h hp (pneg_on hon)
  have e1:padd (padd p (pneg (nsmul j g))) (padd p (pneg (nsmul j g)))=.far:=by
   rw [padd_swap h hp (pneg_on hon) hp (pneg_on hon),hk,← pneg_padd h hon hon,padd_neg h (padd_on h hon hon)]
  have e2:=eq_neg_of_padd h hq hq e1
  have e3:padd p (pneg (nsmul j g))=.far:=by
   cases hqq:padd p (pneg (nsmul j g)) with
   | far=>rfl
   | pt x y =>
    rw [hqq] at e2 hq
    injection e2 with _ e4
    exact absurd (h.half (a:=y) (c:=0) (by generalize y=t at *; clear hqq hq; grind)) (h.y_ne hq)
  have e4:=eq_neg_of_padd h hp (pneg_on hon) e3
  refine hin ⟨j,?_⟩
  have:pneg (pneg (nsmul j g))=pneg (pneg p):=by rw [e4]
  rw [pneg_pneg,pneg_pneg] at this
  exact this.symm
 exfalso
 let f:Nat→Pt n:=fun i=>padd (nsmul (i / m) p) (nsmul (i % m) g)
 have hf:∀ i,OnC b (f i):=fun i=>padd_on h (nsmul_on h hp _) (nsmul_on h hg _)
 have diff:∀ a c i j,padd (nsmul a p) (nsmul i g)=padd (nsmul (a+c) p) (nsmul j g)→i<m→∃ k,nsmul c p=nsmul k g:=by
  intro a c i j e hi
  have e1:padd (nsmul a p) (nsmul i g)=padd (nsmul a p) (padd (nsmul c p) (nsmul j g)):=by
   rw [e,nsmul_add h hp,padd_assoc h (nsmul_on h hp _) (nsmul_on h hp _) (nsmul_on h hg _)]
  have e2:=padd_left_cancel h (nsmul_on h hp a) (nsmul_on h hg i) (padd_on h (nsmul_on h hp c) (nsmul_on h hg j)) e1
  have e3:=padd_cancel h (nsmul_on h hp c) (nsmul_on h hg j)
  rw [← e2,hgmul j,← hneg (j % m) (Nat.le_of_lt (Nat.mod_lt _ hmp)),← nsmul_add h hg] at e3
  exact ⟨_,e3.symm⟩
 have hcount:3*m≤2*n+1:=by
  refine inj_bound (fun i=>code (f i)) (fun i _=>code_lt _) ?_
  have main:∀ i j,i<3*m→j<3*m→i / m≤j / m→f i=f j→i=j:=by
   intro i j hi hj hle e
   have hi3:i / m<3:=Nat.div_lt_of_lt_mul (by rw [Nat.mul_comm]; exact hi)
   have hj3:j / m<3:=Nat.div_lt_of_lt_mul (by rw [Nat.mul_comm]; exact hj)
   have him:=Nat.mod_lt i hmp
   have hjm:=Nat.mod_lt j hmp
   obtain ⟨c,hc⟩:∃ c,j / m=i / m+c:=⟨j / m - i / m,by omega⟩
   have e':padd (nsmul (i / m) p) (nsmul (i % m) g)=padd (nsmul (j / m) p) (nsmul (j % m) g):=e
   rw [hc] at e'
   have hc3:i / m+c<3:=hc ▸ hj3
   have hc4:c<3:=Nat.lt_of_le_of_lt (Nat.le_add_left c (i / m)) hc3
   rcases (show c=0∨c=1∨c=2 by clear hc hc3 hi3 hj3 hle; omega) with h0 | h1 | h2'
   ·subst h0
    have e2:=padd_left_cancel h (nsmul_on h hp _) (nsmul_on h hg _) (nsmul_on h hg _) e'
    have e3:=hinj _ _ him hjm e2
    have d1:=Nat.div_add_mod i m
    have d2:=Nat.div_add_mod j m
    rw [hc,Nat.add_zero] at d2
    rw [← d1,← d2,e3]
   ·subst h1
    obtain ⟨k,hk⟩:=diff _ _ _ _ e' him
    rw [nsmul_one] at hk
    exact absurd ⟨k,hk⟩ hin
   ·subst h2'
    obtain ⟨k,hk⟩:=diff _ _ _ _ e' him
    have e5:nsmul 2 p=padd p p:=by show padd (padd .far p) p=_; rw [far_padd]
    rw [e5] at hk
    exact absurd ⟨k,hk⟩ h2
  intro i j hi hj e
  have e':=code_inj h (hf i) (hf j) e
  rcases Nat.le_total (i / m) (j / m) with hle | hle
  ·exact main i j hi hj hle e'
  ·exact (main j i hj hi hle e'.symm).symm
 omega
end
attribute [irreducible] nsmul powN
def gxN:Nat:=19277929113566293071110308034699488026831934219452440156649784352033
def gyN:Nat:=19926808758034470970197974370888749184205991990603949537637343198772
def gg:Pt pp:=.pt (fi pp gxN) (fi pp gyN)
theorem gg_on:OnC bb gg:=by
 show fi pp gyN*fi pp gyN=rhs bb (fi pp gxN)
 exact Fin.ext (by decide +kernel)
theorem fi_one_ne:fi pp 1≠0:=one_ne fine
set_option maxRecDepth 100000 in
theorem order_eval:(powN pp bN 225 (gxN,gyN,1) nn (0,1,0)).2.2 % pp=0 % pp:=by decide +kernel
theorem nn_lt:nn<2 ^ 225:=by decide +kernel
theorem bb_eq:bb=fi pp bN:=rfl
theorem rep_gg:Rep (toTri pp (gxN,gyN,1)) gg:=rep_one fine gxN gyN
theorem toTri_z {n:Nat} [NeZero n] {t:T3} (h:t.2.2 % n=0 % n):(toTri n t).z=0:=fi_eq.2 h
theorem rep_z0:Rep (toTri pp (0,1,0)) (Pt.far:Pt pp):=rep_zero fine
theorem order_rep:Rep (toTri pp (powN pp bN 225 (gxN,gyN,1) nn (0,1,0))) (padd .far (nsmul nn gg)) :=
 @rep_powN pp _ bb fine bN bb_eq 225 (gxN,gyN,1) (0,1,0) gg .far nn nn_lt gg_on trivial rep_gg rep_z0
theorem order_g:nsmul nn gg=.far:=by
 have hr:=order_rep
 rw [far_padd] at hr
 have hz:=toTri_z order_eval
 cases hq:nsmul nn gg with
 | far=>rfl
 | pt x y=>rw [hq] at hr; exact absurd hz hr.1
set_option maxRecDepth 100000 in
theorem order_p {p:Pt pp} (hp:OnC bb p):nsmul nn p=.far :=
 order_all fine gg_on hp prime_nn (by decide +kernel) order_g (by intro e; cases e) (by decide +kernel)
#print axioms order_p
end P224
/- Points by numbers: what the sum and the multiple of points are, as numbers. -/
namespace P224
def ptN (x y:Nat):Pt pp:=.pt (fi pp x) (fi pp y)
def onN (x y:Nat):Nat:=if fi pp y*fi pp y=rhs bb (fi pp x) then 1 else 0
def farOf:Pt pp→Nat
 | .far=>1
 | .pt _ _=>0
def xOf:Pt pp→Nat
 | .far=>0
 | .pt x _=>x.val
def yOf:Pt pp→Nat
 | .far=>0
 | .pt _ y=>y.val
def addN (x1 y1 x2 y2:Nat):Pt pp:=padd (ptN x1 y1) (ptN x2 y2)
def mulN (x y k:Nat):Pt pp:=nsmul k (ptN x y)
theorem xOf_lt (p:Pt pp):xOf p<pp:=by
 cases p with
 | far=>exact Nat.pos_of_ne_zero (NeZero.ne pp)
 | pt x y=>exact x.isLt
theorem yOf_lt (p:Pt pp):yOf p<pp:=by
 cases p with
 | far=>exact Nat.pos_of_ne_zero (NeZero.ne pp)
 | pt x y=>exact y.isLt
theorem onN_on {x y:Nat} (h:onN x y=1):OnC bb (ptN x y):=by
 unfold onN at h
 split at h
 ·rename_i hc; exact hc
 ·cases h
theorem farOf_cases (p:Pt pp):(farOf p=1∧p=.far)∨(farOf p=0∧p=ptN (xOf p) (yOf p)):=by
 cases p with
 | far=>exact .inl ⟨rfl,rfl⟩
 | pt x y=>exact .inr ⟨rfl,by rw [xOf,yOf,ptN,fi_self,fi_self]⟩
theorem ptN_inj {x y x' y':Nat} (hx:x<pp) (hy:y<pp) (hx':x'<pp) (hy':y'<pp) (h:ptN x y=ptN x' y'):x=x'∧y=y':=by
 unfold ptN at h
 injection h with h1 h2
 have e1:=fi_eq.1 h1
 have e2:=fi_eq.1 h2
 rw [Nat.mod_eq_of_lt hx,Nat.mod_eq_of_lt hx'] at e1
 rw [Nat.mod_eq_of_lt hy,Nat.mod_eq_of_lt hy'] at e2
 exact ⟨e1,e2⟩
end P224
/- Square roots modulo the prime, as numbers: the candidate that the package reckons, and Euler's test. -/
namespace P224
def g0N:Nat:=11169653446152712093339033333591487117591829998258200989759472999284
def ggN:Nat→Nat
 | 0=>g0N
 | j+1=>ggN j*ggN j % pp
def sqk:Nat→Nat→Nat
 | 0,x=>x
 | k+1,x=>sqk k x*sqk k x % pp
def xpw (x e:Nat):Nat:=x ^ e % pp
attribute [irreducible] xpw
def tsOne (i:Nat) (a:Nat × Nat):Nat × Nat :=
 if sqk i a.1=pp - 1 then (a.1*ggN (95 - i) % pp,a.2*ggN (94 - i) % pp) else a
def sndN (a:Nat × Nat):Nat:=a.2
def tsr:Nat→Nat × Nat→Nat × Nat
 | 0,a=>a
 | i+1,a=>tsr i (tsOne i a)
def sqrtN (x:Nat):Nat:=sndN (tsr 95 (xpw x (2 ^ 128 - 1),xpw x (2 ^ 127)))
attribute [irreducible] sqrtN
def isSqN (x:Nat):Nat:=if x=0∨xpw x ((pp - 1) / 2)=1 then 1 else 0
attribute [irreducible] isSqN
end P224
/- Rows of the multiplication of words of 64 bits in the stored form of P-224's numbers. Plain numbers; no program in sight. -/
namespace P224
theorem prod_le {x y:Nat} (hx:x<18446744073709551616) (hy:y<18446744073709551616):x*y≤340282366920938463426481119284349108225:=by
 have:=Nat.mul_le_mul (show x≤18446744073709551615 by omega) (show y≤18446744073709551615 by omega)
 omega
theorem row_mul {x y0 y1 y2 y3 h0 l0 h1 l1 h2 l2 h3 l3 s1 c1 s2 c2 s3 c3 t:Nat} (hx:x<18446744073709551616) (hy0:y0<18446744073709551616) (hy1:y1<18446744073709551616) (hy2:y2<18446744073709551616) (hy3:y3<18446744073709551616)
  (e1:h3=x*y3 / 18446744073709551616) (e2:l3=x*y3 % 18446744073709551616) (e3:h2=x*y2 / 18446744073709551616) (e4:l2=x*y2 % 18446744073709551616)
  (e5:h1=x*y1 / 18446744073709551616) (e6:l1=x*y1 % 18446744073709551616) (e7:h0=x*y0 / 18446744073709551616) (e8:l0=x*y0 % 18446744073709551616)
  (f1:s1=(h0+l1+0) % 18446744073709551616) (f2:c1=(h0+l1+0) / 18446744073709551616)
  (f3:s2=(h1+l2+c1) % 18446744073709551616) (f4:c2=(h1+l2+c1) / 18446744073709551616)
  (f5:s3=(h2+l3+c2) % 18446744073709551616) (f6:c3=(h2+l3+c2) / 18446744073709551616)
  (f7:t=(c3+h3) % 18446744073709551616) :
  l0+18446744073709551616*s1+340282366920938463463374607431768211456*s2+6277101735386680763835789423207666416102355444464034512896*s3+115792089237316195423570985008687907853269984665640564039457584007913129639936*t
   = x*(y0+18446744073709551616*y1+340282366920938463463374607431768211456*y2+6277101735386680763835789423207666416102355444464034512896*y3) ∧
  l0<18446744073709551616∧s1<18446744073709551616∧s2<18446744073709551616∧s3<18446744073709551616∧t<18446744073709551616:=by
 have b0:=prod_le hx hy0
 have b1:=prod_le hx hy1
 have b2:=prod_le hx hy2
 have b3:=prod_le hx hy3
 have e:x*(y0+18446744073709551616*y1+340282366920938463463374607431768211456*y2+6277101735386680763835789423207666416102355444464034512896*y3)
   = x*y0+18446744073709551616*(x*y1)+340282366920938463463374607431768211456*(x*y2)+6277101735386680763835789423207666416102355444464034512896*(x*y3):=by
  simp only [Nat.mul_add,Nat.mul_left_comm]
 rw [e]
 generalize x*y0=p0 at *
 generalize x*y1=p1 at *
 generalize x*y2=p2 at *
 generalize x*y3=p3 at *
 clear e hx hy0 hy1 hy2 hy3
 omega
theorem row_red {t0 t1 t2 t3 t4 mh m ha la hb lb hc lc r1 k1 r2 k2 r3 u0 g0 u1 g1 u2 g2 u3 g3 u4 g4:Nat}
  (_e0:mh=t0*18446744073709551615 / 18446744073709551616) (e1:m=t0*18446744073709551615 % 18446744073709551616) (e2:ha=m*4294967295 / 18446744073709551616) (e3:la=m*4294967295 % 18446744073709551616)
  (e4:hb=m*18446744073709551615 / 18446744073709551616) (e5:lb=m*18446744073709551615 % 18446744073709551616) (e6:hc=m*18446744069414584320 / 18446744073709551616) (e7:lc=m*18446744069414584320 % 18446744073709551616)
  (f1:r1=(hc+lb+0) % 18446744073709551616) (f2:k1=(hc+lb+0) / 18446744073709551616) (f3:r2=(hb+la+k1) % 18446744073709551616) (f4:k2=(hb+la+k1) / 18446744073709551616) (f5:r3=(k2+ha) % 18446744073709551616)
  (_g1:u0=(t0+m+0) % 18446744073709551616) (g2':g0=(t0+m+0) / 18446744073709551616) (g3':u1=(t1+lc+g0) % 18446744073709551616) (g4':g1=(t1+lc+g0) / 18446744073709551616)
  (g5:u2=(t2+r1+g1) % 18446744073709551616) (g6:g2=(t2+r1+g1) / 18446744073709551616) (g7:u3=(t3+r2+g2) % 18446744073709551616) (g8:g3=(t3+r2+g2) / 18446744073709551616)
  (g9:u4=(t4+r3+g3) % 18446744073709551616) (g10:g4=(t4+r3+g3) / 18446744073709551616)
  (b0:t0<18446744073709551616) (b1:t1<18446744073709551616) (b2:t2<18446744073709551616) (b3:t3<18446744073709551616) (b4:t4<18446744073709551616) :
  18446744073709551616*(u1+18446744073709551616*u2+340282366920938463463374607431768211456*u3+6277101735386680763835789423207666416102355444464034512896*u4+115792089237316195423570985008687907853269984665640564039457584007913129639936*g4)=t0+18446744073709551616*t1+340282366920938463463374607431768211456*t2+6277101735386680763835789423207666416102355444464034512896*t3+115792089237316195423570985008687907853269984665640564039457584007913129639936*t4+m*26959946667150639794667015087019630673557916260026308143510066298881 ∧
  m<18446744073709551616∧u1<18446744073709551616∧u2<18446744073709551616∧u3<18446744073709551616∧u4<18446744073709551616∧g4≤1:=by
 have hm:m<18446744073709551616:=by omega
 have hg0:t0+m=18446744073709551616*g0:=by omega
 clear e1 g2'
 omega
theorem row_acc {u1 u2 u3 u4 g4 l0 s1 s2 s3 t v0 d0 v1 d1 v2 d2 v3 d3 v4 d4:Nat}
  (e1:v0=(u1+l0+0) % 18446744073709551616) (e2:d0=(u1+l0+0) / 18446744073709551616) (e3:v1=(u2+s1+d0) % 18446744073709551616) (e4:d1=(u2+s1+d0) / 18446744073709551616)
  (e5:v2=(u3+s2+d1) % 18446744073709551616) (e6:d2=(u3+s2+d1) / 18446744073709551616) (e7:v3=(u4+s3+d2) % 18446744073709551616) (e8:d3=(u4+s3+d2) / 18446744073709551616)
  (e9:v4=(g4+t+d3) % 18446744073709551616) (e10:d4=(g4+t+d3) / 18446744073709551616)
  (b1:u1<18446744073709551616) (b2:u2<18446744073709551616) (b3:u3<18446744073709551616) (b4:u4<18446744073709551616) (b5:g4<18446744073709551616)
  (c1:l0<18446744073709551616) (c2:s1<18446744073709551616) (c3:s2<18446744073709551616) (c4:s3<18446744073709551616) (c5:t<18446744073709551616) :
  v0+18446744073709551616*v1+340282366920938463463374607431768211456*v2+6277101735386680763835789423207666416102355444464034512896*v3+115792089237316195423570985008687907853269984665640564039457584007913129639936*v4+2135987035920910082395021706169552114602704522356652769947041607822219725780640550022962086936576*d4=(u1+18446744073709551616*u2+340282366920938463463374607431768211456*u3+6277101735386680763835789423207666416102355444464034512896*u4+115792089237316195423570985008687907853269984665640564039457584007913129639936*g4)+(l0+18446744073709551616*s1+340282366920938463463374607431768211456*s2+6277101735386680763835789423207666416102355444464034512896*s3+115792089237316195423570985008687907853269984665640564039457584007913129639936*t) ∧
  v0<18446744073709551616∧v1<18446744073709551616∧v2<18446744073709551616∧v3<18446744073709551616∧v4<18446744073709551616∧d4≤1:=by
 omega
theorem row_fin {u1 u2 u3 u4 u5 x1 b1 x2 b2 x3 b3 x4 b4 x5 b5 r0 r1 r2 r3:Nat}
  (e1:x1=(u1+18446744073709551616 - 1 - 0) % 18446744073709551616) (e2:b1=if u1<1+0 then 1 else 0)
  (e3:x2=(u2+18446744073709551616 - 18446744069414584320 - b1) % 18446744073709551616) (e4:b2=if u2<18446744069414584320+b1 then 1 else 0)
  (e5:x3=(u3+18446744073709551616 - 18446744073709551615 - b2) % 18446744073709551616) (e6:b3=if u3<18446744073709551615+b2 then 1 else 0)
  (e7:x4=(u4+18446744073709551616 - 4294967295 - b3) % 18446744073709551616) (e8:b4=if u4<4294967295+b3 then 1 else 0)
  (_e9:x5=(u5+18446744073709551616 - 0 - b4) % 18446744073709551616) (e10:b5=if u5<0+b4 then 1 else 0)
  (f0:r0=if b5=0 then x1 else u1) (f1:r1=if b5=0 then x2 else u2) (f2:r2=if b5=0 then x3 else u3) (f3:r3=if b5=0 then x4 else u4)
  (c1:u1<18446744073709551616) (c2:u2<18446744073709551616) (c3:u3<18446744073709551616) (c4:u4<18446744073709551616)
  (hU:u1+18446744073709551616*u2+340282366920938463463374607431768211456*u3+6277101735386680763835789423207666416102355444464034512896*u4+115792089237316195423570985008687907853269984665640564039457584007913129639936*u5<2*26959946667150639794667015087019630673557916260026308143510066298881) :
  (r0+18446744073709551616*r1+340282366920938463463374607431768211456*r2+6277101735386680763835789423207666416102355444464034512896*r3=u1+18446744073709551616*u2+340282366920938463463374607431768211456*u3+6277101735386680763835789423207666416102355444464034512896*u4+115792089237316195423570985008687907853269984665640564039457584007913129639936*u5 ∨
   r0+18446744073709551616*r1+340282366920938463463374607431768211456*r2+6277101735386680763835789423207666416102355444464034512896*r3+26959946667150639794667015087019630673557916260026308143510066298881=u1+18446744073709551616*u2+340282366920938463463374607431768211456*u3+6277101735386680763835789423207666416102355444464034512896*u4+115792089237316195423570985008687907853269984665640564039457584007913129639936*u5) ∧
  r0+18446744073709551616*r1+340282366920938463463374607431768211456*r2+6277101735386680763835789423207666416102355444464034512896*r3<26959946667150639794667015087019630673557916260026308143510066298881∧r0<18446744073709551616∧r1<18446744073709551616∧r2<18446744073709551616∧r3<18446744073709551616:=by
 have hb1:b1≤1∧x1+1=u1+18446744073709551616*b1:=by
  split at e2 <;> omega
 have hb2:b2≤1∧x2+18446744069414584320+b1=u2+18446744073709551616*b2:=by
  clear e1 e2
  split at e4 <;> omega
 have hb3:b3≤1∧x3+18446744073709551615+b2=u3+18446744073709551616*b3:=by
  clear e1 e2 e3 e4
  split at e6 <;> omega
 have hb4:b4≤1∧x4+4294967295+b3=u4+18446744073709551616*b4:=by
  clear e1 e2 e3 e4 e5 e6
  split at e8 <;> omega
 have hx:x1<18446744073709551616∧x2<18446744073709551616∧x3<18446744073709551616∧x4<18446744073709551616:=by omega
 clear e1 e2 e3 e4 e5 e6 e7 e8
 split at e10
 ·rename_i h5
  rw [e10,if_neg (by decide)] at f0 f1 f2 f3
  subst f0 f1 f2 f3
  omega
 ·rename_i h5
  rw [e10,if_pos rfl] at f0 f1 f2 f3
  subst f0 f1 f2 f3
  omega
theorem carry_two {g d u:Nat} (h:u=(g+d) % 18446744073709551616) (hg:g≤1) (hd:d≤1):u=g+d∧u<18446744073709551616:=by omega
theorem mont_four {X0 X1 X2 X3 m0 m1 m2 m3 U1 U2 U3 U4:Nat} (h1:18446744073709551616*U1=X0+m0*26959946667150639794667015087019630673557916260026308143510066298881) (h2:18446744073709551616*U2=U1+X1+m1*26959946667150639794667015087019630673557916260026308143510066298881)
  (h3:18446744073709551616*U3=U2+X2+m2*26959946667150639794667015087019630673557916260026308143510066298881) (h4:18446744073709551616*U4=U3+X3+m3*26959946667150639794667015087019630673557916260026308143510066298881) (b0:m0<18446744073709551616) (b1:m1<18446744073709551616) (b2:m2<18446744073709551616) (b3:m3<18446744073709551616)
  (c0:X0≤497323236409786642128422301479670200304327634072997183848702375800435352593441086242815) (c1:X1≤497323236409786642128422301479670200304327634072997183848702375800435352593441086242815) (c2:X2≤497323236409786642128422301479670200304327634072997183848702375800435352593441086242815) (c3:X3≤497323236409786642128422301479670200304327634072997183848702375800435352593441086242815) :
  U4<2*26959946667150639794667015087019630673557916260026308143510066298881∧115792089237316195423570985008687907853269984665640564039457584007913129639936*U4=X0+18446744073709551616*X1+340282366920938463463374607431768211456*X2+6277101735386680763835789423207666416102355444464034512896*X3+(m0+18446744073709551616*m1+340282366920938463463374607431768211456*m2+6277101735386680763835789423207666416102355444464034512896*m3)*26959946667150639794667015087019630673557916260026308143510066298881:=by
 omega
theorem prod_le' {a B:Nat} (ha:a<18446744073709551616) (hB:B<26959946667150639794667015087019630673557916260026308143510066298881):a*B≤497323236409786642128422301479670200304327634072997183848702375800435352593441086242815:=by
 have:=Nat.mul_le_mul (show a≤18446744073709551615 by omega) (show B≤26959946667150639794667015087019630673557916260026308143510066298881 by omega)
 omega
theorem mont_end {r U Y M:Nat} (hr:r=U∨r+26959946667150639794667015087019630673557916260026308143510066298881=U) (h:115792089237316195423570985008687907853269984665640564039457584007913129639936*U=Y+M*26959946667150639794667015087019630673557916260026308143510066298881):r*115792089237316195423570985008687907853269984665640564039457584007913129639936 % 26959946667150639794667015087019630673557916260026308143510066298881=Y % 26959946667150639794667015087019630673557916260026308143510066298881:=by
 rcases hr with rfl | rfl
 ·rw [Nat.mul_comm,h,Nat.add_mul_mod_self_right]
 ·have e:r*115792089237316195423570985008687907853269984665640564039457584007913129639936+115792089237316195423570985008687907853269984665640564039457584007913129639936*26959946667150639794667015087019630673557916260026308143510066298881=Y+M*26959946667150639794667015087019630673557916260026308143510066298881:=by rw [← h,Nat.mul_add,Nat.mul_comm r]
  have:=congrArg (· % 26959946667150639794667015087019630673557916260026308143510066298881) e
  simpa only [Nat.add_mul_mod_self_right] using this
theorem four_mul (a0 a1 a2 a3 B:Nat):(a0+18446744073709551616*a1+340282366920938463463374607431768211456*a2+6277101735386680763835789423207666416102355444464034512896*a3)*B=a0*B+18446744073709551616*(a1*B)+340282366920938463463374607431768211456*(a2*B)+6277101735386680763835789423207666416102355444464034512896*(a3*B):=by
 simp only [Nat.add_mul,Nat.mul_assoc]
theorem row_join {a g d u V U S X q:Nat} (er:18446744073709551616*(a+115792089237316195423570985008687907853269984665640564039457584007913129639936*g)=V+q) (ea:V+2135987035920910082395021706169552114602704522356652769947041607822219725780640550022962086936576*d=U+S) (em:S=X) (ec:u=g+d) :
  18446744073709551616*(a+115792089237316195423570985008687907853269984665640564039457584007913129639936*u)=U+X+q:=by omega
end P224
/- Rows of the other functions of words: sum, difference, into the stored form and out of it. Plain numbers; no program in sight. -/
namespace P224
theorem add_words {a0 a1 a2 a3 b0 b1 b2 b3 x1 c1 x2 c2 x3 c3 x4 c4:Nat} (e1:x1=(a0+b0+0) % 18446744073709551616) (e2:c1=(a0+b0+0) / 18446744073709551616) (e3:x2=(a1+b1+c1) % 18446744073709551616) (e4:c2=(a1+b1+c1) / 18446744073709551616)
  (e5:x3=(a2+b2+c2) % 18446744073709551616) (e6:c3=(a2+b2+c2) / 18446744073709551616) (e7:x4=(a3+b3+c3) % 18446744073709551616) (e8:c4=(a3+b3+c3) / 18446744073709551616) (hA:a0+18446744073709551616*a1+340282366920938463463374607431768211456*a2+6277101735386680763835789423207666416102355444464034512896*a3<26959946667150639794667015087019630673557916260026308143510066298881) (hB:b0+18446744073709551616*b1+340282366920938463463374607431768211456*b2+6277101735386680763835789423207666416102355444464034512896*b3<26959946667150639794667015087019630673557916260026308143510066298881) :
  x1+18446744073709551616*x2+340282366920938463463374607431768211456*x3+6277101735386680763835789423207666416102355444464034512896*x4+115792089237316195423570985008687907853269984665640564039457584007913129639936*c4=(a0+18446744073709551616*a1+340282366920938463463374607431768211456*a2+6277101735386680763835789423207666416102355444464034512896*a3)+(b0+18446744073709551616*b1+340282366920938463463374607431768211456*b2+6277101735386680763835789423207666416102355444464034512896*b3)∧x1<18446744073709551616∧x2<18446744073709551616∧x3<18446744073709551616∧x4<18446744073709551616 ∧
  x1+18446744073709551616*x2+340282366920938463463374607431768211456*x3+6277101735386680763835789423207666416102355444464034512896*x4+115792089237316195423570985008687907853269984665640564039457584007913129639936*c4<2*26959946667150639794667015087019630673557916260026308143510066298881:=by
 omega
theorem fin_mod {r U:Nat} (h:r=U∨r+26959946667150639794667015087019630673557916260026308143510066298881=U) (hlt:r<26959946667150639794667015087019630673557916260026308143510066298881):r=U % 26959946667150639794667015087019630673557916260026308143510066298881:=by
 rcases h with rfl | rfl
 ·rw [Nat.mod_eq_of_lt hlt]
 ·rw [Nat.add_mod_right,Nat.mod_eq_of_lt hlt]
theorem sub_words {a0 a1 a2 a3 b0 b1 b2 b3 x1 c1 x2 c2 x3 c3 x4 c4 m n0 n2 n3 r0 d0 r1 d1 r2 d2 r3 d3:Nat} (e1:x1=(a0+18446744073709551616 - b0 - 0) % 18446744073709551616) (e2:c1=if a0<b0+0 then 1 else 0)
  (e3:x2=(a1+18446744073709551616 - b1 - c1) % 18446744073709551616) (e4:c2=if a1<b1+c1 then 1 else 0) (e5:x3=(a2+18446744073709551616 - b2 - c2) % 18446744073709551616) (e6:c3=if a2<b2+c2 then 1 else 0)
  (e7:x4=(a3+18446744073709551616 - b3 - c3) % 18446744073709551616) (e8:c4=if a3<b3+c3 then 1 else 0) (em:m=if c4=0 then 0 else 18446744073709551615)
  (n0':n0=m &&& 1) (f1:r0=(x1+n0+0) % 18446744073709551616) (f2:d0=(x1+n0+0) / 18446744073709551616) (n1':n2=m &&& 18446744069414584320) (f3:r1=(x2+n2+d0) % 18446744073709551616) (f4:d1=(x2+n2+d0) / 18446744073709551616)
  (f5:r2=(x3+m+d1) % 18446744073709551616) (f6:d2=(x3+m+d1) / 18446744073709551616) (n3':n3=m &&& 4294967295) (f7:r3=(x4+n3+d2) % 18446744073709551616) (_f8:d3=(x4+n3+d2) / 18446744073709551616)
  (a0l:a0<18446744073709551616) (a1l:a1<18446744073709551616) (a2l:a2<18446744073709551616) (a3l:a3<18446744073709551616) (b0l:b0<18446744073709551616) (b1l:b1<18446744073709551616) (b2l:b2<18446744073709551616) (b3l:b3<18446744073709551616)
  (hA:a0+18446744073709551616*a1+340282366920938463463374607431768211456*a2+6277101735386680763835789423207666416102355444464034512896*a3<26959946667150639794667015087019630673557916260026308143510066298881) (hB:b0+18446744073709551616*b1+340282366920938463463374607431768211456*b2+6277101735386680763835789423207666416102355444464034512896*b3<26959946667150639794667015087019630673557916260026308143510066298881) :
  r0+18446744073709551616*r1+340282366920938463463374607431768211456*r2+6277101735386680763835789423207666416102355444464034512896*r3=((a0+18446744073709551616*a1+340282366920938463463374607431768211456*a2+6277101735386680763835789423207666416102355444464034512896*a3)+(26959946667150639794667015087019630673557916260026308143510066298881 - (b0+18446744073709551616*b1+340282366920938463463374607431768211456*b2+6277101735386680763835789423207666416102355444464034512896*b3))) % 26959946667150639794667015087019630673557916260026308143510066298881∧r0<18446744073709551616∧r1<18446744073709551616∧r2<18446744073709551616∧r3<18446744073709551616:=by
 have h1:c1≤1∧x1+b0=a0+18446744073709551616*c1:=by
  split at e2 <;> omega
 have h2:c2≤1∧x2+b1+c1=a1+18446744073709551616*c2:=by
  clear e1 e2
  split at e4 <;> omega
 have h3:c3≤1∧x3+b2+c2=a2+18446744073709551616*c3:=by
  clear e1 e2 e3 e4
  split at e6 <;> omega
 have h4:c4≤1∧x4+b3+c3=a3+18446744073709551616*c4:=by
  clear e1 e2 e3 e4 e5 e6
  split at e8 <;> omega
 have hx:x1<18446744073709551616∧x2<18446744073709551616∧x3<18446744073709551616∧x4<18446744073709551616:=by omega
 clear e1 e2 e3 e4 e5 e6 e7 e8
 have hr:r0<18446744073709551616∧r1<18446744073709551616∧r2<18446744073709551616∧r3<18446744073709551616:=by omega
 have hc:c4=0∨c4=1:=by omega
 refine ⟨?_,hr⟩
 have hA1:x1+18446744073709551616*x2+340282366920938463463374607431768211456*x3+6277101735386680763835789423207666416102355444464034512896*x4+(b0+18446744073709551616*b1+340282366920938463463374607431768211456*b2+6277101735386680763835789423207666416102355444464034512896*b3)=a0+18446744073709551616*a1+340282366920938463463374607431768211456*a2+6277101735386680763835789423207666416102355444464034512896*a3+115792089237316195423570985008687907853269984665640564039457584007913129639936*c4:=by
  clear em n0' f1 f2 n1' f3 f4 f5 f6 n3' f7 _f8 hr hA hB
  omega
 clear h1 h2 h3 h4
 have key:n0<18446744073709551616→n2<18446744073709551616→m<18446744073709551616→n3<18446744073709551616→r0+18446744073709551616*r1+340282366920938463463374607431768211456*r2+6277101735386680763835789423207666416102355444464034512896*r3+115792089237316195423570985008687907853269984665640564039457584007913129639936*d3=x1+18446744073709551616*x2+340282366920938463463374607431768211456*x3+6277101735386680763835789423207666416102355444464034512896*x4+(n0+18446744073709551616*n2+340282366920938463463374607431768211456*m+6277101735386680763835789423207666416102355444464034512896*n3):=by
  intro k0 k1 k2 k3
  clear hA1 hA hB em n0' n1' n3'
  omega
 clear f1 f2 f3 f4 f5 f6 f7 _f8
 rcases hc with hc | hc
 ·rw [hc,if_pos rfl] at em
  rw [em,Nat.zero_and] at n0' n1' n3'
  subst em n0' n1' n3' hc
  have:=key (by omega) (by omega) (by omega) (by omega)
  clear key
  refine fin_mod (.inr ?_) ?_
  ·omega
  ·omega
 ·rw [hc,if_neg (by decide)] at em
  rw [em] at n0' n1' n3'
  rw [show 18446744073709551615 &&& 1=1 from by decide] at n0'
  rw [show 18446744073709551615 &&& 18446744069414584320=18446744069414584320 from by decide +kernel] at n1'
  rw [show 18446744073709551615 &&& 4294967295=4294967295 from by decide +kernel] at n3'
  subst em n0' n1' n3' hc
  have:=key (by omega) (by omega) (by omega) (by omega)
  clear key
  refine fin_mod (.inl ?_) ?_
  ·omega
  ·omega
theorem fm_row {t0 t1 t2 t3 mh m ha la hb lb hc lc r1 k1 r2 k2 u0 g0 u1 g1 u2 g2 u3 g3:Nat} (_e0:mh=t0*18446744073709551615 / 18446744073709551616) (e1:m=t0*18446744073709551615 % 18446744073709551616) (e2:ha=m*4294967295 / 18446744073709551616) (e3:la=m*4294967295 % 18446744073709551616)
  (e4:hb=m*18446744073709551615 / 18446744073709551616) (e5:lb=m*18446744073709551615 % 18446744073709551616) (e6:hc=m*18446744069414584320 / 18446744073709551616) (e7:lc=m*18446744069414584320 % 18446744073709551616)
  (f1:r1=(hc+lb+0) % 18446744073709551616) (f2:k1=(hc+lb+0) / 18446744073709551616) (f3:r2=(hb+la+k1) % 18446744073709551616) (f4:k2=(hb+la+k1) / 18446744073709551616)
  (_g1:u0=(t0+m+0) % 18446744073709551616) (g2':g0=(t0+m+0) / 18446744073709551616) (g3':u1=(t1+lc+g0) % 18446744073709551616) (g4':g1=(t1+lc+g0) / 18446744073709551616)
  (g5:u2=(t2+r1+g1) % 18446744073709551616) (g6:g2=(t2+r1+g1) / 18446744073709551616) (g7:u3=(t3+r2+g2) % 18446744073709551616) (g8:g3=(t3+r2+g2) / 18446744073709551616)
  (b0:t0<18446744073709551616) (b1:t1<18446744073709551616) (b2:t2<18446744073709551616) (b3:t3<18446744073709551616) :
  18446744073709551616*(u1+18446744073709551616*u2+340282366920938463463374607431768211456*u3+6277101735386680763835789423207666416102355444464034512896*(g3+k2+ha))=t0+18446744073709551616*t1+340282366920938463463374607431768211456*t2+6277101735386680763835789423207666416102355444464034512896*t3+m*26959946667150639794667015087019630673557916260026308143510066298881∧m<18446744073709551616∧u1<18446744073709551616∧u2<18446744073709551616∧u3<18446744073709551616∧g3≤1∧k2≤1∧ha<4294967296:=by
 have hm:m<18446744073709551616:=by omega
 have hg0:t0+m=18446744073709551616*g0:=by omega
 clear e1 g2'
 omega
theorem top_fm0 {k2 ha g3 p q v:Nat} (e1:p=(k2+ha) % 18446744073709551616) (e2:q=(g3+p) % 18446744073709551616) (hg:g3≤1) (hk:k2≤1) (hh:ha<4294967296) (c:Nat) (hc:c≤1) (e3:v=(c+q) % 18446744073709551616):v=c+(g3+k2+ha):=by omega
theorem three_small {g k a:Nat} (h1:g≤1) (h2:k≤1) (h3:a<4294967296):g+k+a<8589934592:=by omega
theorem three_top {g k a p q:Nat} (e1:p=(k+a) % 18446744073709551616) (e2:q=(g+p) % 18446744073709551616) (h1:g≤1) (h2:k≤1) (h3:a<4294967296):q=g+k+a∧q<18446744073709551616:=by omega
theorem fm_add {u1 u2 u3 x v1 c1 v2 c2 v3 c3 top t:Nat} (e1:v1=(u1+x+0) % 18446744073709551616) (e2:c1=(u1+x+0) / 18446744073709551616) (e3:v2=(u2+0+c1) % 18446744073709551616) (e4:c2=(u2+0+c1) / 18446744073709551616)
  (e5:v3=(u3+0+c2) % 18446744073709551616) (e6:c3=(u3+0+c2) / 18446744073709551616) (b1:u1<18446744073709551616) (b2:u2<18446744073709551616) (b3:u3<18446744073709551616) (bx:x<18446744073709551616) (et:c3≤1→t=c3+top) (ht:top<8589934592) :
  v1+18446744073709551616*v2+340282366920938463463374607431768211456*v3+6277101735386680763835789423207666416102355444464034512896*t=u1+18446744073709551616*u2+340282366920938463463374607431768211456*u3+6277101735386680763835789423207666416102355444464034512896*top+x∧v1<18446744073709551616∧v2<18446744073709551616∧v3<18446744073709551616∧t<18446744073709551616:=by
 have hc:c3≤1:=by omega
 have:=et hc
 omega
theorem fm_four {x0 x1 x2 x3 m0 m1 m2 m3 U1 U2 U3 U4:Nat} (h1:18446744073709551616*U1=x0+m0*26959946667150639794667015087019630673557916260026308143510066298881) (h2:18446744073709551616*U2=U1+x1+m1*26959946667150639794667015087019630673557916260026308143510066298881)
  (h3:18446744073709551616*U3=U2+x2+m2*26959946667150639794667015087019630673557916260026308143510066298881) (h4:18446744073709551616*U4=U3+x3+m3*26959946667150639794667015087019630673557916260026308143510066298881) (b0:m0<18446744073709551616) (b1:m1<18446744073709551616) (b2:m2<18446744073709551616) (b3:m3<18446744073709551616)
  (c0:x0<18446744073709551616) (c1:x1<18446744073709551616) (c2:x2<18446744073709551616) (c3:x3<18446744073709551616) :
  U4<2*26959946667150639794667015087019630673557916260026308143510066298881∧115792089237316195423570985008687907853269984665640564039457584007913129639936*U4=(x0+18446744073709551616*x1+340282366920938463463374607431768211456*x2+6277101735386680763835789423207666416102355444464034512896*x3)+(m0+18446744073709551616*m1+340282366920938463463374607431768211456*m2+6277101735386680763835789423207666416102355444464034512896*m3)*26959946667150639794667015087019630673557916260026308143510066298881:=by
 omega
theorem tm_mul {x h3 l3 h2 l2 h1 l1 h0 l0 s1 c1 s2 c2 s3 c3:Nat} (hx:x<18446744073709551616) (e1:h3=x*4294967295 / 18446744073709551616) (e2:l3=x*4294967295 % 18446744073709551616) (e3:h2=x*18446744065119617024 / 18446744073709551616) (e4:l2=x*18446744065119617024 % 18446744073709551616)
  (e5:h1=x*18446744069414584320 / 18446744073709551616) (e6:l1=x*18446744069414584320 % 18446744073709551616) (e7:h0=x*18446744069414584321 / 18446744073709551616) (e8:l0=x*18446744069414584321 % 18446744073709551616)
  (f1:s1=(h0+l1+0) % 18446744073709551616) (f2:c1=(h0+l1+0) / 18446744073709551616) (f3:s2=(h1+l2+c1) % 18446744073709551616) (f4:c2=(h1+l2+c1) / 18446744073709551616) (f5:s3=(h2+l3+c2) % 18446744073709551616) (f6:c3=(h2+l3+c2) / 18446744073709551616) :
  l0+18446744073709551616*s1+340282366920938463463374607431768211456*s2+6277101735386680763835789423207666416102355444464034512896*s3+115792089237316195423570985008687907853269984665640564039457584007913129639936*(c3+h3)=x*26959946667150639791744011812698107204071485058075563455699384008705∧l0<18446744073709551616∧s1<18446744073709551616∧s2<18446744073709551616∧s3<18446744073709551616∧c3≤1∧h3<4294967296:=by
 omega
theorem tm_acc {u1 u2 u3 t l0 s1 s2 s3 p v0 d0 v1 d1 v2 d2 v3 d3:Nat} (e1:v0=(u1+l0+0) % 18446744073709551616) (e2:d0=(u1+l0+0) / 18446744073709551616) (e3:v1=(u2+s1+d0) % 18446744073709551616) (e4:d1=(u2+s1+d0) / 18446744073709551616)
  (e5:v2=(u3+s2+d1) % 18446744073709551616) (e6:d2=(u3+s2+d1) / 18446744073709551616) (e7:v3=(t+s3+d2) % 18446744073709551616) (e8:d3=(t+s3+d2) / 18446744073709551616)
  (b1:u1<18446744073709551616) (b2:u2<18446744073709551616) (b3:u3<18446744073709551616) (b4:t<18446744073709551616) (c1:l0<18446744073709551616) (c2:s1<18446744073709551616) (c3:s2<18446744073709551616) (c4:s3<18446744073709551616) :
  v0+18446744073709551616*v1+340282366920938463463374607431768211456*v2+6277101735386680763835789423207666416102355444464034512896*v3+115792089237316195423570985008687907853269984665640564039457584007913129639936*(d3+p)=u1+18446744073709551616*u2+340282366920938463463374607431768211456*u3+6277101735386680763835789423207666416102355444464034512896*t+(l0+18446744073709551616*s1+340282366920938463463374607431768211456*s2+6277101735386680763835789423207666416102355444464034512896*s3+115792089237316195423570985008687907853269984665640564039457584007913129639936*p)∧v0<18446744073709551616∧v1<18446744073709551616∧v2<18446744073709551616∧v3<18446744073709551616∧d3≤1:=by
 omega
theorem top_tm0 {c3 h3 g3 k2 ha p q r t:Nat} (e1:p=(c3+h3) % 18446744073709551616) (e2:q=(g3+p) % 18446744073709551616) (e3:r=(k2+ha) % 18446744073709551616) (e4:t=(q+r) % 18446744073709551616) (h1:c3≤1) (h2:h3<4294967296) (h3':g3≤1) (h4:k2≤1) (h5:ha<4294967296) :
  t=g3+k2+ha+(c3+h3)∧t<17179869184:=by omega
theorem small_word {t:Nat} (h:t<17179869184):t<18446744073709551616:=by omega
theorem top_tm {c3 h3 d3 g3 k2 ha p q q' r t:Nat} (e1:p=(c3+h3) % 18446744073709551616) (e2:q=(d3+p) % 18446744073709551616) (e3:q'=(g3+q) % 18446744073709551616) (e4:r=(k2+ha) % 18446744073709551616) (e5:t=(q'+r) % 18446744073709551616) (h1:c3≤1) (h2:h3<4294967296) (hd:d3≤1) (h3':g3≤1) (h4:k2≤1) (h5:ha<4294967296) :
  t=g3+k2+ha+(d3+(c3+h3))∧t<17179869184:=by omega
theorem tm_join {u1 u2 u3 g p q t v U X:Nat} (er:18446744073709551616*(u1+18446744073709551616*u2+340282366920938463463374607431768211456*u3+6277101735386680763835789423207666416102355444464034512896*g)=v+q) (ea:v+115792089237316195423570985008687907853269984665640564039457584007913129639936*p=U+X) (et:t=g+p):18446744073709551616*(u1+18446744073709551616*u2+340282366920938463463374607431768211456*u3+6277101735386680763835789423207666416102355444464034512896*t)=U+X+q:=by omega
theorem const_le {x:Nat} (h:x<18446744073709551616):x*26959946667150639791744011812698107204071485058075563455699384008705≤497323236409786642128422301479670200304327634072997183848702375800435352593441086242815:=by omega
end P224
